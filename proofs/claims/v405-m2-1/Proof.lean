import JvmDerived
import JvmDerived.Pilot.@@N@@Statement
import JvmDerived.Pilot.@@N@@Code
set_option linter.unusedVariables false
set_option linter.unusedSimpArgs false
namespace Jvm.Pilot.@@N@@
open Jvm Jvm.ClassFile Sem Op Lib Jvm.Free Jvm.Stand Jvm.LawKit Jvm.RoadKit Bundle Jvm.Pilot.@@N@@.Jvm.D

/-! ## own kit: a walk as a tree -/
section OwnKit
variable {p : Program} {l : Launch} {e : Env} {R : Room} {s : State} {m : MethodId} {args : Array Value} {below : List Frame} {meth : Method} {c : Code} {T T' : State} {locs : List Loc} {cells slots : Nat} {Q : Option Value → Heap → List Loc → Prop} {f f' : JFrame} {Z : State} {a0 : Array Value} {h h' : Heap}
/-- from here the body comes to its return, and Q holds there -/
def Go (p : Program) (e : Env) (s : State) (below : List Frame) (R : Room) (Q : Option Value → Heap → List Loc → Prop) (T : State) (f : JFrame) : Prop :=
  ∃ s₂ o, Steps p.tables e below (T.setTop f) s₂ ∧ s₂.status = .running ∧ Ended s₂ below o ∧ ∃ v L, o = .returned v ∧ Q v s₂.heap L ∧ FrameEnd s o s₂ L R.cells R.slots
theorem Go.of (k : ∀ t, Steps p.tables e below (T'.setTop f') t → Steps p.tables e below (T.setTop f) t) (G : Go p e s below R Q T' f') : Go p e s below R Q T f := by
  obtain ⟨s2, o, h1, h2⟩ := G
  exact ⟨s2, o, k _ h1, h2⟩
theorem Go.cast (q : f = f') (G : Go p e s below R Q T f') : Go p e s below R Q T f := q ▸ G
theorem Go.retO (X : Stand p l e R s m args below meth c T locs cells slots) (hx : p.tables.exec = Jvm.exec) (hlk : meth.locks = false) {pc : Nat} {Ls : Array Slot} {w : Value} {t : FieldType} {i : Instr} {rest : List Value} (hret : meth.sig.returnType = some t) (hn : narrow t w = w)
    (hi : (i = .ireturn ∧ (t = .int ∨ t = .boolean ∨ t = .byte ∨ t = .char ∨ t = .short) ∧ ∃ z, w = .int z) ∨ (i = .lreturn ∧ t = .long ∧ ∃ z, w = .long z) ∨ (i = .dreturn ∧ t = .double ∧ ∃ z, w = .double z) ∨ (i = .freturn ∧ t = .float ∧ ∃ z, w = .float z) ∨ (i = .areturn ∧ t.isReference = true ∧ w.isRef = true))
    (hd : decode c.code pc = .ok (i, 1)) (hc : cells ≤ R.cells) (hs : slots ≤ R.slots) (hq : Q (some w) T.heap locs) : Go p e s below R Q T (mkF m pc Ls (w :: rest)) := by
  obtain ⟨fs, hr, hrun, hended, hW, hsame⟩ := X.leave (v := some w) (fun h => by rw [hret] at h; cases h) hlk
  exact ⟨_, _, retOut X hx hret hn hi hd hr, hrun, hended, _, _, rfl, hq, ⟨_, rfl⟩, hW, hsame.mono hc hs⟩
theorem Go.retI (X : Stand p l e R s m args below meth c T locs cells slots) (hx : p.tables.exec = Jvm.exec) (hlk : meth.locks = false) (hret : meth.sig.returnType = some .int) {pc : Nat} {Ls : Array Slot} {z : Int32} {rest : List Value}
    (hd : decode c.code pc = .ok (.ireturn, 1)) (hc : cells ≤ R.cells) (hs : slots ≤ R.slots) (hq : Q (some (.int z)) T.heap locs) : Go p e s below R Q T (mkF m pc Ls (.int z :: rest)) :=
  Go.retO X hx hlk hret rfl (Or.inl ⟨rfl, Or.inl rfl, _, rfl⟩) hd hc hs hq
theorem Go.retJ (X : Stand p l e R s m args below meth c T locs cells slots) (hx : p.tables.exec = Jvm.exec) (hlk : meth.locks = false) (hret : meth.sig.returnType = some .long) {pc : Nat} {Ls : Array Slot} {z : Int64} {rest : List Value}
    (hd : decode c.code pc = .ok (.lreturn, 1)) (hc : cells ≤ R.cells) (hs : slots ≤ R.slots) (hq : Q (some (.long z)) T.heap locs) : Go p e s below R Q T (mkF m pc Ls (.long z :: rest)) :=
  Go.retO X hx hlk hret rfl (Or.inr (Or.inl ⟨rfl, rfl, _, rfl⟩)) hd hc hs hq
theorem Go.retD (X : Stand p l e R s m args below meth c T locs cells slots) (hx : p.tables.exec = Jvm.exec) (hlk : meth.locks = false) (hret : meth.sig.returnType = some .double) {pc : Nat} {Ls : Array Slot} {z : UInt64} {rest : List Value}
    (hd : decode c.code pc = .ok (.dreturn, 1)) (hc : cells ≤ R.cells) (hs : slots ≤ R.slots) (hq : Q (some (.double z)) T.heap locs) : Go p e s below R Q T (mkF m pc Ls (.double z :: rest)) :=
  Go.retO X hx hlk hret rfl (Or.inr (Or.inr (Or.inl ⟨rfl, rfl, _, rfl⟩))) hd hc hs hq
theorem Go.retA (X : Stand p l e R s m args below meth c T locs cells slots) (hx : p.tables.exec = Jvm.exec) (hlk : meth.locks = false) {t : FieldType} (hret : meth.sig.returnType = some t) (ht : t.isReference = true) {pc : Nat} {Ls : Array Slot} {w : Value} {rest : List Value}
    (hw : w.isRef = true) (hd : decode c.code pc = .ok (.areturn, 1)) (hc : cells ≤ R.cells) (hs : slots ≤ R.slots) (hq : Q (some w) T.heap locs) : Go p e s below R Q T (mkF m pc Ls (w :: rest)) :=
  Go.retO X hx hlk hret (by cases t <;> first | (cases ht; done) | rfl) (Or.inr (Or.inr (Or.inr (Or.inr ⟨rfl, ht, hw⟩)))) hd hc hs hq
theorem Go.retB (X : Stand p l e R s m args below meth c T locs cells slots) (hx : p.tables.exec = Jvm.exec) (hlk : meth.locks = false) {t : FieldType} (hret : meth.sig.returnType = some t) (ht : t = .boolean ∨ t = .byte ∨ t = .char ∨ t = .short) {pc : Nat} {Ls : Array Slot} {z : Int32} {rest : List Value}
    (hd : decode c.code pc = .ok (.ireturn, 1)) (hc : cells ≤ R.cells) (hs : slots ≤ R.slots) {z' : Int32} (hz : nar t z = z') (hq : Q (some (.int z')) T.heap locs) : Go p e s below R Q T (mkF m pc Ls (.int z :: rest)) := by
  subst hz
  obtain ⟨fs, hr, hrun, hended, hW, hsame⟩ := X.leave (v := some (.int (nar t z))) (fun h => by rw [hret] at h; cases h) hlk
  exact ⟨_, _, retN X hx hret ht hd hr, hrun, hended, _, _, rfl, hq, ⟨_, rfl⟩, hW, hsame.mono hc hs⟩
theorem Go.retV (X : Stand p l e R s m args below meth c T locs cells slots) (hx : p.tables.exec = Jvm.exec) (hlk : meth.locks = false) (hret : meth.sig.returnType = none) {pc : Nat} {Ls : Array Slot}
    (hd : decode c.code pc = .ok (.return_, 1)) (hc : cells ≤ R.cells) (hs : slots ≤ R.slots) (hq : Q none T.heap locs) : Go p e s below R Q T (mkF m pc Ls []) := by
  obtain ⟨fs, hr, hrun, hended, hW, hsame⟩ := X.leave (v := none) (fun _ => rfl) hlk
  exact ⟨_, _, X.returnOut hx hret hd hr, hrun, hended, _, _, rfl, hq, ⟨_, rfl⟩, hW, hsame.mono hc hs⟩
/-- a body's contract: handed as', over the heap h, it returns and Q holds -/
def Ok (l : Launch) (Z : State) (y : MethodName) (bytes : ByteArray) (maxL : Nat) (ret : Option FieldType) (rm : Room) (as' : Array Value) (h : Heap) (Q : Option Value → Heap → List Loc → Prop) : Prop :=
  ∀ ws : List Jvm.Cond, MetFree l y (head1 (Jvm.Cond.code y bytes maxL ret :: ws) rm) (fun a U => a = as' ∧ Z.Warmed39 U.vm ∧ U.heap = h) (fun _ _ _ _ _ => True) (fun _ U o U' => ∃ v L, o = .returned v ∧ Q v U'.heap L ∧ FrameEnd U o U' L rm.cells rm.slots)
theorem Ok.mk {y : MethodName} {bytes : ByteArray} {maxL : Nat} {ret : Option FieldType} {rm : Room} {as' : Array Value} (hn : plainFor y = true)
    (k : ∀ p e s m below meth c s₁, p.tables.exec = Jvm.exec → c.code = bytes → c.maxLocals = maxL → s.vm.findClass y.cls = some m.cls → meth.name = y.name → meth.sig.returnType = ret → meth.locks = false → Z.Warmed39 s.vm → s₁.heap = h → Stand p l e rm s m as' below meth c s₁ [] 0 0 → Go p e s below rm Q s₁ (entryFrame m as' maxL)) :
    Ok l Z y bytes maxL ret rm as' h Q := by
  intro ws
  refine MetFree.of_bodySF hn hisR ?_
  intro p e s m args below meth c s₁ Bd hml0 hP hK
  obtain ⟨rfl, hZ, hh⟩ := hP
  exact k p e s m below meth c s₁ Bd.exec Bd.bytes hml0 (findClass_of_methodNamed Bd.named) (name_of_methodNamed Bd.named Bd.method).1 Bd.returns Bd.notSynchronized hZ (by rw [← hh, Bd.state]; rfl) (Stand.of_body Bd)
theorem callSt (X : Stand p l e R s m args below meth c T locs cells slots) (hx : p.tables.exec = Jvm.exec) (hZ : Z.Warmed39 s.vm) {own : String} {index : Nat} {y : MethodName} {bytes : ByteArray} {maxL : Nat} {ret : Option FieldType} {rm : Room} {as' : Array Value}
    (hown : s.vm.findClass own = some m.cls) (w1 : (Jvm.Cond.methodLink own index y).before a0 Z = true) (w2 : (Jvm.Cond.static y).before a0 Z = true) (w3 : (Jvm.Cond.initialized y.cls).before a0 Z = true) (w4 : (Jvm.Cond.code y bytes maxL ret).before a0 Z = true)
    (hy : y.cls ≠ "java/lang/invoke/MethodHandle" ∧ y.cls ≠ "java/lang/invoke/VarHandle") (hM : Ok l Z y bytes maxL ret rm as' h Q) (eT : T.heap = h) {W : Nat} (hf : rm.frames + 1 ≤ R.frames) (hl : W + (maxL + 11) + rm.locals ≤ R.locals) (hc : cells + rm.cells ≤ R.cells) (hs : slots + rm.slots ≤ R.slots)
    {g : JFrame} (hg : g.method = m) (hsize : g.locals.size = c.maxLocals) {argsL rest : List Value} (hlen : ∀ sig, parseMethodDescriptor y.desc = some sig → argsL.length = sig.parameters.length) (has : argsL.toArray = as')
    (hstack : g.stack = argsL.reverse ++ rest) (hW : 2 * g.monitorRoom + (rest.map fun v => v.category).sum ≤ W) (hd : decode c.code g.pc = .ok (.invokestatic index, 3)) :
    ∃ T' v L, Stand p l e R s m args below meth c T' (locs ++ L) (cells + rm.cells) (slots + rm.slots) ∧ Q v T'.heap L ∧ ∀ t, Steps p.tables e below (T'.setTop { g with pc := g.pc + 3, stack := v.toList ++ rest }) t → Steps p.tables e below (T.setTop g) t := by
  subst has
  obtain ⟨v, _, ⟨T1, L1, k1, n1⟩, -, X1, ⟨Lc, hQ, l1, y1, z1⟩, st⟩ := Jvm.LawKit.callS X hx (y := y) hown (mvT hZ w1) (mvT hZ w2) (mvT hZ w3) (mvT hZ w4) hy (backOf (W := W) (hM []) hZ w4 w3 hf hl) hg hsize hlen hstack hW hd (fun _ _ => ⟨rfl, eT, hc, hs⟩)
  dsimp only [Pt.U, Pt.locs, Pt.cells, Pt.slots] at X1 l1 y1 z1 st hQ
  subst l1 y1 z1
  exact ⟨T1, v, Lc, X1, hQ, st⟩
theorem callNew (X : Stand p l e R s m args below meth c T locs cells slots) (hx : p.tables.exec = Jvm.exec) (hZ : Z.Warmed39 s.vm) {own : String} {index : Nat} {y : MethodName} {bytes : ByteArray} {maxL : Nat} {rm : Room} {as' : Array Value} (hy1 : y.name = "<init>")
    (hown : s.vm.findClass own = some m.cls) (w1 : (Jvm.Cond.methodLink own index y).before a0 Z = true) (w2 : (Jvm.Cond.instanceMethod y).before a0 Z = true) (w3 : (Jvm.Cond.initialized y.cls).before a0 Z = true) (w4 : (Jvm.Cond.code y bytes maxL none).before a0 Z = true)
    (hy : y.cls ≠ "java/lang/invoke/MethodHandle" ∧ y.cls ≠ "java/lang/invoke/VarHandle") (hM : Ok l Z y bytes maxL none rm as' h Q) (eT : T.heap = h) {W : Nat} (hf : rm.frames + 1 ≤ R.frames) (hl : W + (maxL + 11) + rm.locals ≤ R.locals) (hc : cells + rm.cells ≤ R.cells) (hs : slots + rm.slots ≤ R.slots)
    {g : JFrame} (hg : g.method = m) (hsize : g.locals.size = c.maxLocals) {a : Addr} {argsL rest : List Value} (hlen : ∀ sig, parseMethodDescriptor y.desc = some sig → argsL.length = sig.parameters.length) (has : (.ref a :: argsL).toArray = as')
    (hstack : g.stack = argsL.reverse ++ .ref a :: rest) (hW : 2 * g.monitorRoom + (rest.map fun v => v.category).sum ≤ W) (hd : decode c.code g.pc = .ok (.invokespecial index, 3)) :
    ∃ T' v L, Stand p l e R s m args below meth c T' (locs ++ L) (cells + rm.cells) (slots + rm.slots) ∧ Q v T'.heap L ∧ ∀ t, Steps p.tables e below (T'.setTop { g with pc := g.pc + 3, stack := v.toList ++ rest }) t → Steps p.tables e below (T.setTop g) t := by
  subst has
  obtain ⟨v, _, ⟨T1, L1, k1, n1⟩, -, X1, ⟨Lc, hQ, l1, y1, z1⟩, st⟩ := X.specialBack hx (y := y) hy1 hown (mvT hZ w1) (mvT hZ w2) (mvT hZ w4) hy (backOf (W := W) (hM []) hZ w4 w3 hf hl) hg hsize (Steps.refl _) (a := a) hlen hstack hW hd (fun _ _ => ⟨rfl, eT, hc, hs⟩)
  dsimp only [Pt.U, Pt.locs, Pt.cells, Pt.slots] at X1 l1 y1 z1 st hQ
  subst l1 y1 z1
  exact ⟨T1, v, Lc, X1, hQ, fun t k => st.trans k⟩
theorem callVi (X : Stand p l e R s m args below meth c T locs cells slots) (hx : p.tables.exec = Jvm.exec) (hZ : Z.Warmed39 s.vm) {own C : String} {index : Nat} {y z : MethodName} {bytes : ByteArray} {maxL : Nat} {ret : Option FieldType} {rm : Room} {as' : Array Value}
    (hown : s.vm.findClass own = some m.cls) (w1 : (Jvm.Cond.methodLink own index y).before a0 Z = true) (w2 : (Jvm.Cond.declares y).before a0 Z = true) (nf : NotFace s y) (w3 : (Jvm.Cond.selects C y z).before a0 Z = true) (w4 : (Jvm.Cond.instanceMethod z).before a0 Z = true) (w5 : (Jvm.Cond.code z bytes maxL ret).before a0 Z = true) (w6 : (Jvm.Cond.initialized z.cls).before a0 Z = true)
    (hy : y.cls ≠ "java/lang/invoke/MethodHandle" ∧ y.cls ≠ "java/lang/invoke/VarHandle") (hM : Ok l Z z bytes maxL ret rm as' h Q) (eT : T.heap = h) {W : Nat} (hf : rm.frames + 1 ≤ R.frames) (hl : W + (maxL + 11) + rm.locals ≤ R.locals) (hc : cells + rm.cells ≤ R.cells) (hs : slots + rm.slots ≤ R.slots)
    {a : Addr} (E : Exa Z h a C) {g : JFrame} (hg : g.method = m) (hsize : g.locals.size = c.maxLocals) {argsL rest : List Value} (hlen : ∀ sig, parseMethodDescriptor y.desc = some sig → argsL.length = sig.parameters.length) (has : (.ref a :: argsL).toArray = as')
    (hstack : g.stack = argsL.reverse ++ .ref a :: rest) (hW : 2 * g.monitorRoom + (rest.map fun v => v.category).sum ≤ W) (hd : decode c.code g.pc = .ok (.invokevirtual index, 3)) :
    ∃ T' v L, Stand p l e R s m args below meth c T' (locs ++ L) (cells + rm.cells) (slots + rm.slots) ∧ Q v T'.heap L ∧ ∀ t, Steps p.tables e below (T'.setTop { g with pc := g.pc + 3, stack := v.toList ++ rest }) t → Steps p.tables e below (T.setTop g) t := by
  subst has
  obtain ⟨cq, kq, qa, qb, qc⟩ := isOf hZ eT E
  obtain ⟨v, _, ⟨T1, L1, k1, n1⟩, -, X1, ⟨Lc, hQ, l1, y1, z1⟩, st⟩ := X.virtualBack hx (y := y) (z := z) hown (mvT hZ w1) (mvT hZ w2) nf (mvT hZ w3) (mvT hZ w4) hy (backOf (W := W) (hM []) hZ w5 w6 hf hl) qa qc hg hsize (Steps.refl _) hlen hstack hW hd (fun _ _ => ⟨rfl, eT, hc, hs⟩)
  dsimp only [Pt.U, Pt.locs, Pt.cells, Pt.slots] at X1 l1 y1 z1 st hQ
  subst l1 y1 z1
  exact ⟨T1, v, Lc, X1, hQ, fun t k => st.trans k⟩
/-- a new object at the address a: a fresh name for the heap's end -/
theorem newOb (X : Stand p l e R s m args below meth c T locs cells slots) (hx : p.tables.exec = Jvm.exec) (hZ : Z.Warmed39 s.vm) {own C : String} {index n : Nat} (hown : s.vm.findClass own = some m.cls) (w : (Jvm.Cond.classLink own index C).before a0 Z = true) (wi : (Jvm.Cond.instantiable C n).before a0 Z = true) (wz : (Jvm.Cond.initialized C).before a0 Z = true) (eT : T.heap = h)
    {g : JFrame} (hg : g.method = m) (hd : decode c.code g.pc = .ok (.new index, 3)) (hc : cells + 1 ≤ R.cells) (hl : slots + n ≤ R.slots) :
    ∃ T' h' a, a = h.size ∧ Stand p l e R s m args below meth c T' locs (cells + 1) (slots + n) ∧ T'.heap = h' ∧ Ext h h' ∧ Exa Z h' a C ∧ (∀ {O nm d : String} {ty : FieldType}, Laid Z a0 C O nm d → parseFieldDescriptor d = some ty → Fld Z h' a O nm d (defaultValue ty)) ∧
      ∀ t, Steps p.tables e below (T'.setTop { g with pc := g.pc + 3, stack := .ref a :: g.stack }) t → Steps p.tables e below (T.setTop g) t := by
  obtain ⟨T2, h2, X2, e2, E2, A2, D2, -, st2⟩ := newO X hx hZ hown w wi wz eT hg hd hc hl
  exact ⟨T2, h2, h.size, rfl, X2, e2, E2, A2, D2, st2⟩
theorem Old0.keep {ws : List Addr} (X : Ext Z.heap h) (K : Keep h h' ws) (q : ∀ x ∈ ws, Z.heap.size ≤ x) : Ext Z.heap h' := (Old.keep (n0 := Z.heap.size) ⟨rfl, X⟩ K q).2
theorem Old0.wr {a : Addr} {sl : Nat} {v : Value} (X : Ext Z.heap h) (W : Wr h h' a sl v) (q : Z.heap.size ≤ a) : Ext Z.heap h' := (Old.wr (n0 := Z.heap.size) ⟨rfl, X⟩ W q).2
theorem Old0.ext (X : Ext Z.heap h) (E : Ext h h') : Ext Z.heap h' := (Old.ext (n0 := Z.heap.size) ⟨rfl, X⟩ E).2
theorem ext_rfl : Ext h h := ⟨Nat.le_refl _, fun _ _ q => q⟩
theorem eqI_v {first : State} {o : Option Outcome} {idx : List Nat} {a : Term} {k : Int32} (q : (Jvm.Cond.eq a (.int k)).value args first o s idx = some true) : a.eval args first o idx s = some (.int k) := by
  cases ha : a.eval args first o idx s with
  | none => simp [Jvm.Cond.value, ha] at q
  | some x => cases x <;> simp [Jvm.Cond.value, ha, Term.eval] at q ⊢; exact q
theorem eqJ_v {first : State} {o : Option Outcome} {idx : List Nat} {a : Term} {k : Int64} (q : (Jvm.Cond.eq a (.long k)).value args first o s idx = some true) : a.eval args first o idx s = some (.long k) := by
  cases ha : a.eval args first o idx s with
  | none => simp [Jvm.Cond.value, ha] at q
  | some x => cases x <;> simp [Jvm.Cond.value, ha, Term.eval] at q ⊢; exact q
theorem neI_v {first : State} {o : Option Outcome} {idx : List Nat} {a : Term} {x k : Int32} (ha : a.eval args first o idx s = some (.int x)) (q : (Jvm.Cond.not (.eq a (.int k))).value args first o s idx = some true) : ¬ x = k := by
  have q' := not_v q
  intro e
  subst e
  simp [Jvm.Cond.value, ha, Term.eval] at q'
theorem neR_v {first : State} {o : Option Outcome} {idx : List Nat} {a b : Term} {x y : Addr} (ha : a.eval args first o idx s = some (.ref x)) (hb : b.eval args first o idx s = some (.ref y)) (q : (Jvm.Cond.not (.eq a b)).value args first o s idx = some true) : ¬ x = y := by
  have q' := not_v q
  intro e
  subst e
  simp [Jvm.Cond.value, ha, hb] at q'
theorem eqR_v {first : State} {o : Option Outcome} {idx : List Nat} {a b : Term} {x : Addr} (hb : b.eval args first o idx s = some (.ref x)) (q : (Jvm.Cond.eq a b).value args first o s idx = some true) : a.eval args first o idx s = some (.ref x) := by
  cases ha : a.eval args first o idx s with
  | none => simp [Jvm.Cond.value, ha] at q
  | some x => cases x <;> simp [Jvm.Cond.value, ha, hb] at q ⊢; exact q
theorem callPr (X : Stand p l e R s m args below meth c T locs cells slots) (hx : p.tables.exec = Jvm.exec) (hZ : Z.Warmed39 s.vm) {own : String} {index : Nat} {y : MethodName} {bytes : ByteArray} {maxL : Nat} {ret : Option FieldType} {rm : Room} {as' : Array Value}
    (hown : s.vm.findClass own = some m.cls) (w1 : (Jvm.Cond.methodLink own index y).before a0 Z = true) (w2 : (Jvm.Cond.instanceMethod y).before a0 Z = true) (w3 : (Jvm.Cond.selects y.cls y y).before a0 Z = true) (w4 : (Jvm.Cond.privateMethod y).before a0 Z = true) (w5 : (Jvm.Cond.initialized y.cls).before a0 Z = true) (w6 : (Jvm.Cond.code y bytes maxL ret).before a0 Z = true)
    (hy : y.cls ≠ "java/lang/invoke/MethodHandle" ∧ y.cls ≠ "java/lang/invoke/VarHandle") (hM : Ok l Z y bytes maxL ret rm as' h Q) (eT : T.heap = h) {W : Nat} (hf : rm.frames + 1 ≤ R.frames) (hl : W + (maxL + 11) + rm.locals ≤ R.locals) (hc : cells + rm.cells ≤ R.cells) (hs : slots + rm.slots ≤ R.slots)
    {C : String} {a : Addr} (E : Exa Z h a C) {g : JFrame} (hg : g.method = m) (hsize : g.locals.size = c.maxLocals) {argsL rest : List Value} (hlen : ∀ sig, parseMethodDescriptor y.desc = some sig → argsL.length = sig.parameters.length) (has : (.ref a :: argsL).toArray = as')
    (hstack : g.stack = argsL.reverse ++ .ref a :: rest) (hW : 2 * g.monitorRoom + (rest.map fun v => v.category).sum ≤ W) (hd : decode c.code g.pc = .ok (.invokevirtual index, 3)) :
    ∃ T' v L, Stand p l e R s m args below meth c T' (locs ++ L) (cells + rm.cells) (slots + rm.slots) ∧ Q v T'.heap L ∧ ∀ t, Steps p.tables e below (T'.setTop { g with pc := g.pc + 3, stack := v.toList ++ rest }) t → Steps p.tables e below (T.setTop g) t := by
  subst has
  obtain ⟨cq, q1, q2⟩ := E.cell
  obtain ⟨v, _, ⟨T1, L1, k1, n1⟩, -, X1, ⟨Lc, hQ, l1, y1, z1⟩, st⟩ := X.privateBack hx (y := y) hown (mvT hZ w1) (mvT hZ w2) (mvT hZ w3) (Cond.privateMethod_at (mvP hZ w4 (args := #[]))) (mvT hZ w6) hy (backOf (W := W) (hM []) hZ w6 w5 hf hl) hg hsize (Steps.refl _) (a := a) (by rw [eT]; exact q1) q2 hlen hstack hW hd (fun _ _ => ⟨rfl, eT, hc, hs⟩)
  dsimp only [Pt.U, Pt.locs, Pt.cells, Pt.slots] at X1 l1 y1 z1 st hQ
  subst l1 y1 z1
  exact ⟨T1, v, Lc, X1, hQ, fun t k => st.trans k⟩
theorem callIf (X : Stand p l e R s m args below meth c T locs cells slots) (hx : p.tables.exec = Jvm.exec) (hZ : Z.Warmed39 s.vm) {own C : String} {index count : Nat} {xi y : MethodName} {bytes : ByteArray} {maxL : Nat} {ret : Option FieldType} {rm : Room} {as' : Array Value}
    (hown : s.vm.findClass own = some m.cls) (w1 : (Jvm.Cond.methodLink own index xi).before a0 Z = true) (w2 : (Jvm.Cond.declares xi).before a0 Z = true) (w3 : (Jvm.Cond.interfaceMethod xi.cls xi.cls xi.name xi.desc).before args s = true) (w4 : (Jvm.Cond.selects C xi y).before a0 Z = true) (w5 : (Jvm.Cond.instanceMethod y).before a0 Z = true) (w6 : (Jvm.Cond.publicMethod y).before a0 Z = true) (w7 : (Jvm.Cond.unhidden C xi.name xi.desc).before a0 Z = true) (w8 : (Jvm.Cond.castable C xi.cls).before a0 Z = true) (w9 : (Jvm.Cond.code y bytes maxL ret).before a0 Z = true) (w10 : (Jvm.Cond.initialized y.cls).before a0 Z = true)
    (hy : xi.cls ≠ "java/lang/invoke/MethodHandle" ∧ xi.cls ≠ "java/lang/invoke/VarHandle") (hM : Ok l Z y bytes maxL ret rm as' h Q) (eT : T.heap = h) {W : Nat} (hf : rm.frames + 1 ≤ R.frames) (hl : W + (maxL + 11) + rm.locals ≤ R.locals) (hc : cells + rm.cells ≤ R.cells) (hs : slots + rm.slots ≤ R.slots)
    {a : Addr} (E : Exa Z h a C) {g : JFrame} (hg : g.method = m) (hsize : g.locals.size = c.maxLocals) {argsL rest : List Value} (hlen : ∀ sig, parseMethodDescriptor xi.desc = some sig → argsL.length = sig.parameters.length) (has : (.ref a :: argsL).toArray = as')
    (hstack : g.stack = argsL.reverse ++ .ref a :: rest) (hW : 2 * g.monitorRoom + (rest.map fun v => v.category).sum ≤ W) (hd : decode c.code g.pc = .ok (.invokeinterface index count, 5)) :
    ∃ T' v L, Stand p l e R s m args below meth c T' (locs ++ L) (cells + rm.cells) (slots + rm.slots) ∧ Q v T'.heap L ∧ ∀ t, Steps p.tables e below (T'.setTop { g with pc := g.pc + 5, stack := v.toList ++ rest }) t → Steps p.tables e below (T.setTop g) t := by
  subst has
  obtain ⟨cq, kq, qa, qb, qc⟩ := isOf hZ eT E
  obtain ⟨v, _, ⟨T1, L1, k1, n1⟩, -, X1, ⟨Lc, hQ, l1, y1, z1⟩, st⟩ := X.interfaceBack hx (xi := xi) (y := y) hown (mvT hZ w1) (mvT hZ w2) w3 (mvT hZ w4) (mvT hZ w5) (mvT hZ w6) (mvT hZ w7) (mvT hZ w8) hy (backOf (W := W) (hM []) hZ w9 w10 hf hl) qa qb qc hg hsize (Steps.refl _) hlen hstack hW hd (fun _ _ => ⟨rfl, eT, hc, hs⟩)
  dsimp only [Pt.U, Pt.locs, Pt.cells, Pt.slots] at X1 l1 y1 z1 st hQ
  subst l1 y1 z1
  exact ⟨T1, v, Lc, X1, hQ, fun t k => st.trans k⟩
theorem newAr (X : Stand p l e R s m args below meth c T locs cells slots) (hx : p.tables.exec = Jvm.exec) (hZ : Z.Warmed39 s.vm) {aty : ArrayType} (w : (Jvm.Cond.arrayClass (newarray.typeOf aty)).before a0 Z = true) (eT : T.heap = h) {g : JFrame} (hg : g.method = m) (hd : decode c.code g.pc = .ok (.newarray aty, 2)) {n : Int32} {rest : List Value} (hs : g.stack = .int n :: rest)
    (hn : ¬ n < 0) {cap : Nat} (hcap : n.toNatClampNeg ≤ cap) (hb : cap * 8 ≤ 536870912) (hc : cells + 1 ≤ R.cells) (hl : slots + cap ≤ R.slots) {ad : String} (had : "[" ++ (newarray.typeOf aty).toString = ad) :
    ∃ T' h' k a, a = h.size ∧ Stand p l e R s m args below meth c T' locs (cells + 1) (slots + cap) ∧ T'.heap = h' ∧ Ext h h' ∧ Arv Z h' a k (newarray.typeOf aty) n [] (defaultValue (newarray.typeOf aty)) ∧ Exa Z h' a ad ∧
      ∀ t, Steps p.tables e below (T'.setTop { g with pc := g.pc + 2, stack := .ref a :: rest }) t → Steps p.tables e below (T.setTop g) t := by
  obtain ⟨T2, h2, k, X2, e2, E2, A2, B2, st2⟩ := newPE X hx hZ w eT hg hd hs hn hcap hb hc hl had
  exact ⟨T2, h2, k, h.size, rfl, X2, e2, E2, Arv.new A2 hn, B2, st2⟩
theorem newRr (X : Stand p l e R s m args below meth c T locs cells slots) (hx : p.tables.exec = Jvm.exec) (hZ : Z.Warmed39 s.vm) {own C : String} {index : Nat} (hown : s.vm.findClass own = some m.cls) (w1 : (Jvm.Cond.classLink own index C).before a0 Z = true) (w2 : (Jvm.Cond.arrayOver (.object C)).before a0 Z = true)
    (eT : T.heap = h) {g : JFrame} (hg : g.method = m) (hd : decode c.code g.pc = .ok (.anewarray index, 3)) {n : Int32} {rest : List Value} (hs : g.stack = .int n :: rest) (hn : ¬ n < 0) {cap : Nat} (hcap : n.toNatClampNeg ≤ cap) (hb : cap * 8 ≤ 536870912) (hc : cells + 1 ≤ R.cells) (hl : slots + cap ≤ R.slots) {ad : String} (had : "[" ++ (FieldType.object C).toString = ad) :
    ∃ T' h' k a, a = h.size ∧ Stand p l e R s m args below meth c T' locs (cells + 1) (slots + cap) ∧ T'.heap = h' ∧ Ext h h' ∧ Arv Z h' a k (.object C) n [] .null ∧ Exa Z h' a ad ∧ Ovr Z k C ∧
      ∀ t, Steps p.tables e below (T'.setTop { g with pc := g.pc + 3, stack := .ref a :: rest }) t → Steps p.tables e below (T.setTop g) t := by
  obtain ⟨T2, h2, k, X2, e2, E2, A2, B2, O2, st2⟩ := newRE X hx hZ hown w1 w2 eT hg hd hs hn hcap hb hc hl had
  exact ⟨T2, h2, k, h.size, rfl, X2, e2, E2, Arv.new A2 hn, B2, O2, st2⟩
theorem own_len {t : Term} {a : Addr} {cl : Cell} {ty : FieldType} {k : Int32} (ev : t.eval args s none [] s = some (.ref a)) (A : Arr s s.heap a cl ty) (q : (Term.length t).eval args s none [] s = some (.int k)) : cl.slots.size < 2 ^ 31 ∧ cl.slots.size.toInt32 = k := by
  have ha := Arr.fin (U := s) (Vm.Alike.refl _) A
  simp only [Term.eval, ev] at q
  simp at q
  rw [ha] at q
  simp only [Option.bind_some] at q
  split at q
  · rename_i hlt
    simp only [Option.some.injEq, Value.int.injEq] at q
    exact ⟨hlt, q⟩
  · cases q
theorem own_el {t : Term} {a : Addr} {cl : Cell} {ty : FieldType} {j : Int32} {v : Value} (ev : t.eval args s none [] s = some (.ref a)) (A : Arr s s.heap a cl ty) (q : (Term.elem t (.int j)).eval args s none [] s = some v) : cl.slots[j.toNatClampNeg]? = some v :=
  (elem_in q ev rfl A.1).2
theorem cloneV (X : Stand p l e R s m args below meth c T locs cells slots) (hx : p.tables.exec = Jvm.exec) (hZ : Z.Warmed39 s.vm) {own ad : String} {index : Nat} (hown : s.vm.findClass own = some m.cls)
    (w1 : (Jvm.Cond.methodLink own index ⟨ad, "clone", "()Ljava/lang/Object;"⟩).before a0 Z = true) (w2 : (Jvm.Cond.sameMethod ad "java/lang/Object" "clone" "()Ljava/lang/Object;").before a0 Z = true) (w3 : (Jvm.Cond.native ⟨"java/lang/Object", "clone", "()Ljava/lang/Object;"⟩).before a0 Z = true)
    (w4 : (Jvm.Cond.instanceMethod ⟨"java/lang/Object", "clone", "()Ljava/lang/Object;"⟩).before a0 Z = true) (w5 : (Jvm.Cond.selects ad ⟨ad, "clone", "()Ljava/lang/Object;"⟩ ⟨"java/lang/Object", "clone", "()Ljava/lang/Object;"⟩).before a0 Z = true) (w6 : (Jvm.Cond.castable ad "java/lang/Cloneable").before a0 Z = true)
    (eT : T.heap = h) {b : Addr} {k : ClassId} {ty : FieldType} {z : Int32} {vs : List Value} {dv : Value} (F : Arv Z h b k ty z vs dv) (E : Exa Z h b ad) {g : JFrame} (hg : g.method = m) (hsize : g.locals.size = c.maxLocals) {rest : List Value} (hst : g.stack = .ref b :: rest) (hd : decode c.code g.pc = .ok (.invokevirtual index, 3))
    (hf : 1 ≤ R.frames) {W cap : Nat} (hW : 2 * g.monitorRoom + (rest.map fun v => v.category).sum ≤ W) (hl : W + 14 ≤ R.locals) (hcap : z.toNatClampNeg ≤ cap) (hc : cells + 1 ≤ R.cells) (hsl : slots + cap ≤ R.slots) :
    ∃ T' h' a, a = h.size ∧ Stand p l e R s m args below meth c T' locs (cells + 1) (slots + cap) ∧ T'.heap = h' ∧ Ext h h' ∧ Arv Z h' a k ty z vs dv ∧ Exa Z h' a ad ∧
      ∀ t, Steps p.tables e below (T'.setTop { g with pc := g.pc + 3, stack := .ref a :: rest }) t → Steps p.tables e below (T.setTop g) t := by
  obtain ⟨T2, h2, X2, e2, E2, A2, B2, st2⟩ := cloneH X hx hZ hown w1 w2 w3 w4 w5 w6 eT F.arh E hg hsize hst hd hf hW hl hcap hc hsl
  exact ⟨T2, h2, h.size, rfl, X2, e2, E2, A2, B2, st2⟩
end OwnKit
/-! ## own kit, string constants: the tables may have been warmed by an interned text -/
section OwnKitS
variable {p : Program} {l : Launch} {e : Env} {R : Room} {s : State} {m : MethodId} {args : Array Value} {below : List Frame} {meth : Method} {c : Code} {T T' : State} {locs : List Loc} {cells slots : Nat} {Q : Option Value → Heap → List Loc → Prop} {f f' : JFrame} {Z : State} {a0 : Array Value} {h h' : Heap} {EL : List (String × Nat)} {vm0 : Vm} {k0 : Nat}
def GoS (p : Program) (e : Env) (s : State) (below : List Frame) (R : Room) (Z : State) (EL : List (String × Nat)) (Q : Option Value → Heap → List Loc → Prop) (T : State) (f : JFrame) : Prop :=
  ∃ s₂ o, Steps p.tables e below (T.setTop f) s₂ ∧ s₂.status = .running ∧ Ended s₂ below o ∧ ∃ v L, o = .returned v ∧ Q v s₂.heap L ∧ CHr Z EL s.vm s.heap s₂.vm s₂.heap ∧ ReturnedEndW s o s₂ L R.cells R.slots
theorem GoS.of (k : ∀ t, Steps p.tables e below (T'.setTop f') t → Steps p.tables e below (T.setTop f) t) (G : GoS p e s below R Z EL Q T' f') : GoS p e s below R Z EL Q T f := by
  obtain ⟨s2, o, h1, h2⟩ := G
  exact ⟨s2, o, k _ h1, h2⟩
theorem GoS.cast (q : f = f') (G : GoS p e s below R Z EL Q T f') : GoS p e s below R Z EL Q T f := q ▸ G
theorem GoS.fin (X : Stand p l e R (s.setVm vm0) m args below meth c T locs cells slots) (hlk : meth.locks = false) (hS : s.Since vm0 k0) (hk : k0 ≤ h.size) (hZ : Z.Warmed39 vm0) (hEL : EW Z a0 EL) (C : CHr Z EL s.vm s.heap vm0 h) (eT : T.heap = h) {v : Option Value} (hv : meth.sig.returnType = none → v = none) (hc : cells ≤ R.cells) (hs : slots ≤ R.slots) (hq : Q v T.heap locs)
    (step : ∀ fs, (∀ (f : JFrame) (acts : List Action), f.method = m → f.locked = none → f.entered = [] → (doReturn e (T.setTop f) acts v).1 = T.setFrames fs) → Steps p.tables e below (T.setTop f) (T.setFrames fs)) : GoS p e s below R Z EL Q T f := by
  subst eT
  obtain ⟨fs, hr, hrun, hended, hW⟩ := X.leaveW hS hk hv hlk
  have A := CHv.at X hZ hEL C.1
  exact ⟨_, _, step fs hr, hrun, hended, v, locs, rfl, hq, C.trans A, hW.1, hW.2.1, hW.2.2.1, hW.2.2.2.mono hc hs⟩
theorem GoS.retO (X : Stand p l e R (s.setVm vm0) m args below meth c T locs cells slots) (hx : p.tables.exec = Jvm.exec) (hlk : meth.locks = false) (hS : s.Since vm0 k0) (hk : k0 ≤ h.size) (hZ : Z.Warmed39 vm0) (hEL : EW Z a0 EL) (C : CHr Z EL s.vm s.heap vm0 h) (eT : T.heap = h) {pc : Nat} {Ls : Array Slot} {w : Value} {t : FieldType} {i : Instr} {rest : List Value} (hret : meth.sig.returnType = some t) (hn : narrow t w = w)
    (hi : (i = .ireturn ∧ (t = .int ∨ t = .boolean ∨ t = .byte ∨ t = .char ∨ t = .short) ∧ ∃ z, w = .int z) ∨ (i = .lreturn ∧ t = .long ∧ ∃ z, w = .long z) ∨ (i = .dreturn ∧ t = .double ∧ ∃ z, w = .double z) ∨ (i = .freturn ∧ t = .float ∧ ∃ z, w = .float z) ∨ (i = .areturn ∧ t.isReference = true ∧ w.isRef = true))
    (hd : decode c.code pc = .ok (i, 1)) (hc : cells ≤ R.cells) (hs : slots ≤ R.slots) (hq : Q (some w) T.heap locs) : GoS p e s below R Z EL Q T (mkF m pc Ls (w :: rest)) :=
  GoS.fin X hlk hS hk hZ hEL C eT (fun h => by rw [hret] at h; cases h) hc hs hq (fun fs hr => retOut X hx hret hn hi hd hr)
theorem GoS.retI (X : Stand p l e R (s.setVm vm0) m args below meth c T locs cells slots) (hx : p.tables.exec = Jvm.exec) (hlk : meth.locks = false) (hS : s.Since vm0 k0) (hk : k0 ≤ h.size) (hZ : Z.Warmed39 vm0) (hEL : EW Z a0 EL) (C : CHr Z EL s.vm s.heap vm0 h) (eT : T.heap = h) (hret : meth.sig.returnType = some .int) {pc : Nat} {Ls : Array Slot} {z : Int32} {rest : List Value}
    (hd : decode c.code pc = .ok (.ireturn, 1)) (hc : cells ≤ R.cells) (hs : slots ≤ R.slots) (hq : Q (some (.int z)) T.heap locs) : GoS p e s below R Z EL Q T (mkF m pc Ls (.int z :: rest)) :=
  GoS.retO X hx hlk hS hk hZ hEL C eT hret rfl (Or.inl ⟨rfl, Or.inl rfl, _, rfl⟩) hd hc hs hq
theorem GoS.retA (X : Stand p l e R (s.setVm vm0) m args below meth c T locs cells slots) (hx : p.tables.exec = Jvm.exec) (hlk : meth.locks = false) (hS : s.Since vm0 k0) (hk : k0 ≤ h.size) (hZ : Z.Warmed39 vm0) (hEL : EW Z a0 EL) (C : CHr Z EL s.vm s.heap vm0 h) (eT : T.heap = h) {t : FieldType} (hret : meth.sig.returnType = some t) (ht : t.isReference = true) {pc : Nat} {Ls : Array Slot} {w : Value} {rest : List Value}
    (hw : w.isRef = true) (hd : decode c.code pc = .ok (.areturn, 1)) (hc : cells ≤ R.cells) (hs : slots ≤ R.slots) (hq : Q (some w) T.heap locs) : GoS p e s below R Z EL Q T (mkF m pc Ls (w :: rest)) :=
  GoS.retO X hx hlk hS hk hZ hEL C eT hret (by cases t <;> first | (cases ht; done) | rfl) (Or.inr (Or.inr (Or.inr (Or.inr ⟨rfl, ht, hw⟩)))) hd hc hs hq
theorem GoS.retB (X : Stand p l e R (s.setVm vm0) m args below meth c T locs cells slots) (hx : p.tables.exec = Jvm.exec) (hlk : meth.locks = false) (hS : s.Since vm0 k0) (hk : k0 ≤ h.size) (hZ : Z.Warmed39 vm0) (hEL : EW Z a0 EL) (C : CHr Z EL s.vm s.heap vm0 h) (eT : T.heap = h) {t : FieldType} (hret : meth.sig.returnType = some t) (ht : t = .boolean ∨ t = .byte ∨ t = .char ∨ t = .short) {pc : Nat} {Ls : Array Slot} {z : Int32} {rest : List Value}
    (hd : decode c.code pc = .ok (.ireturn, 1)) (hc : cells ≤ R.cells) (hs : slots ≤ R.slots) {z' : Int32} (hz : nar t z = z') (hq : Q (some (.int z')) T.heap locs) : GoS p e s below R Z EL Q T (mkF m pc Ls (.int z :: rest)) := by
  subst hz
  exact GoS.fin X hlk hS hk hZ hEL C eT (fun h => by rw [hret] at h; cases h) hc hs hq (fun fs hr => retN X hx hret ht hd hr)
theorem GoS.retV (X : Stand p l e R (s.setVm vm0) m args below meth c T locs cells slots) (hx : p.tables.exec = Jvm.exec) (hlk : meth.locks = false) (hS : s.Since vm0 k0) (hk : k0 ≤ h.size) (hZ : Z.Warmed39 vm0) (hEL : EW Z a0 EL) (C : CHr Z EL s.vm s.heap vm0 h) (eT : T.heap = h) (hret : meth.sig.returnType = none) {pc : Nat} {Ls : Array Slot}
    (hd : decode c.code pc = .ok (.return_, 1)) (hc : cells ≤ R.cells) (hs : slots ≤ R.slots) (hq : Q none T.heap locs) : GoS p e s below R Z EL Q T (mkF m pc Ls []) :=
  GoS.fin X hlk hS hk hZ hEL C eT (fun _ => rfl) hc hs hq (fun fs hr => X.returnOut hx hret hd hr)
def OkS (l : Launch) (Z : State) (EL : List (String × Nat)) (y : MethodName) (bytes : ByteArray) (maxL : Nat) (ret : Option FieldType) (rm : Room) (as' : Array Value) (h : Heap) (Q : Option Value → Heap → List Loc → Prop) : Prop :=
  ∀ ws : List Jvm.Cond, MetFree l y (head1 (Jvm.Cond.code y bytes maxL ret :: ws) rm) (fun a U => a = as' ∧ Z.Warmed39 U.vm ∧ U.heap = h ∧ CHv Z EL U.vm h) (fun _ _ _ _ _ => True) (fun _ U o U' => ∃ v L, o = .returned v ∧ Q v U'.heap L ∧ CHr Z EL U.vm U.heap U'.vm U'.heap ∧ ReturnedEndW U o U' L rm.cells rm.slots)
theorem OkS.mk {y : MethodName} {bytes : ByteArray} {maxL : Nat} {ret : Option FieldType} {rm : Room} {as' : Array Value} (hn : plainFor y = true)
    (k : ∀ p e s m below meth c s₁, p.tables.exec = Jvm.exec → c.code = bytes → c.maxLocals = maxL → s.vm.findClass y.cls = some m.cls → meth.name = y.name → meth.sig.returnType = ret → meth.locks = false → Z.Warmed39 s.vm → s₁.heap = h → CHr Z EL s.vm s.heap s.vm h → s.Since s.vm 0 → Stand p l e rm (s.setVm s.vm) m as' below meth c s₁ [] 0 0 → GoS p e s below rm Z EL Q s₁ (entryFrame m as' maxL)) :
    OkS l Z EL y bytes maxL ret rm as' h Q := by
  intro ws
  refine MetFree.of_bodySF hn hisR ?_
  intro p e s m args below meth c s₁ Bd hml0 hP hK
  obtain ⟨rfl, hZ, hh, hC⟩ := hP
  exact k p e s m below meth c s₁ Bd.exec Bd.bytes hml0 (findClass_of_methodNamed Bd.named) (name_of_methodNamed Bd.named Bd.method).1 Bd.returns Bd.notSynchronized hZ (by rw [← hh, Bd.state]; rfl) (by rw [hh]; exact CHr.refl hC) ((State.WarmedH.refl s).since 0) (Stand.of_body Bd)
theorem callStS (X : Stand p l e R (s.setVm vm0) m args below meth c T locs cells slots) (hx : p.tables.exec = Jvm.exec) (hZ : Z.Warmed39 vm0) {own : String} {index : Nat} {y : MethodName} {bytes : ByteArray} {maxL : Nat} {ret : Option FieldType} {rm : Room} {as' : Array Value}
    (hS : s.Since vm0 k0) (hk : k0 ≤ h.size) (hEL : EW Z a0 EL) (H : CHv Z EL vm0 h)
    (hown : vm0.findClass own = some m.cls) (w1 : (Jvm.Cond.methodLink own index y).before a0 Z = true) (w2 : (Jvm.Cond.static y).before a0 Z = true) (w3 : (Jvm.Cond.initialized y.cls).before a0 Z = true) (w4 : (Jvm.Cond.code y bytes maxL ret).before a0 Z = true)
    (hy : y.cls ≠ "java/lang/invoke/MethodHandle" ∧ y.cls ≠ "java/lang/invoke/VarHandle") (hM : OkS l Z EL y bytes maxL ret rm as' h Q) (eT : T.heap = h) {W : Nat} (hf : rm.frames + 1 ≤ R.frames) (hl : W + (maxL + 11) + rm.locals ≤ R.locals) (hc : cells + rm.cells ≤ R.cells) (hs : slots + rm.slots ≤ R.slots)
    {g : JFrame} (hg : g.method = m) (hsize : g.locals.size = c.maxLocals) {argsL rest : List Value} (hlen : ∀ sig, parseMethodDescriptor y.desc = some sig → argsL.length = sig.parameters.length) (has : argsL.toArray = as')
    (hstack : g.stack = argsL.reverse ++ rest) (hW : 2 * g.monitorRoom + (rest.map fun v => v.category).sum ≤ W) (hd : decode c.code g.pc = .ok (.invokestatic index, 3)) :
    ∃ T' v L, Stand p l e R (s.setVm T'.vm) m args below meth c T' (locs ++ L) (cells + rm.cells) (slots + rm.slots) ∧ Q v T'.heap L ∧ s.Since T'.vm T'.heap.size ∧ h.size ≤ T'.heap.size ∧ Z.Warmed39 T'.vm ∧ T'.vm.findClass own = some m.cls ∧ CHr Z EL vm0 h T'.vm T'.heap ∧ ∀ t, Steps p.tables e below (T'.setTop { g with pc := g.pc + 3, stack := v.toList ++ rest }) t → Steps p.tables e below (T.setTop g) t := by
  subst has
  subst eT
  obtain ⟨v, _, ⟨T1, L1, k1, n1⟩, -, X1, S1, g1, ⟨Lc, hQ, l1, y1, z1, c1⟩, st⟩ := callSS X hx (y := y) hown (mvT (s := s.setVm vm0) hZ w1) (mvT (s := s.setVm vm0) hZ w2) (mvT (s := s.setVm vm0) hZ w3) (mvT (s := s.setVm vm0) hZ w4) hy (backOfSH (W := W) (hM []) hZ w4 w3 hf hl hEL H) hg hsize hlen hstack hW hd (fun _ _ => ⟨rfl, rfl, hc, hs⟩)
  dsimp only [Pt.U, Pt.locs, Pt.cells, Pt.slots] at X1 l1 y1 z1 st hQ S1 g1 c1
  subst l1 y1 z1
  exact ⟨T1, v, Lc, X1, hQ, foldS hS hk S1 g1, g1, State.Warmed39.trans (t := s.setVm vm0) hZ S1.1, by rw [S1.1.alike.findClass]; exact hown, c1, fun t k => st.trans k⟩
theorem callNewS (X : Stand p l e R (s.setVm vm0) m args below meth c T locs cells slots) (hx : p.tables.exec = Jvm.exec) (hZ : Z.Warmed39 vm0) {own : String} {index : Nat} {y : MethodName} {bytes : ByteArray} {maxL : Nat} {rm : Room} {as' : Array Value} (hy1 : y.name = "<init>")
    (hS : s.Since vm0 k0) (hk : k0 ≤ h.size) (hEL : EW Z a0 EL) (H : CHv Z EL vm0 h)
    (hown : vm0.findClass own = some m.cls) (w1 : (Jvm.Cond.methodLink own index y).before a0 Z = true) (w2 : (Jvm.Cond.instanceMethod y).before a0 Z = true) (w3 : (Jvm.Cond.initialized y.cls).before a0 Z = true) (w4 : (Jvm.Cond.code y bytes maxL none).before a0 Z = true)
    (hy : y.cls ≠ "java/lang/invoke/MethodHandle" ∧ y.cls ≠ "java/lang/invoke/VarHandle") (hM : OkS l Z EL y bytes maxL none rm as' h Q) (eT : T.heap = h) {W : Nat} (hf : rm.frames + 1 ≤ R.frames) (hl : W + (maxL + 11) + rm.locals ≤ R.locals) (hc : cells + rm.cells ≤ R.cells) (hs : slots + rm.slots ≤ R.slots)
    {g : JFrame} (hg : g.method = m) (hsize : g.locals.size = c.maxLocals) {a : Addr} {argsL rest : List Value} (hlen : ∀ sig, parseMethodDescriptor y.desc = some sig → argsL.length = sig.parameters.length) (has : (.ref a :: argsL).toArray = as')
    (hstack : g.stack = argsL.reverse ++ .ref a :: rest) (hW : 2 * g.monitorRoom + (rest.map fun v => v.category).sum ≤ W) (hd : decode c.code g.pc = .ok (.invokespecial index, 3)) :
    ∃ T' v L, Stand p l e R (s.setVm T'.vm) m args below meth c T' (locs ++ L) (cells + rm.cells) (slots + rm.slots) ∧ Q v T'.heap L ∧ s.Since T'.vm T'.heap.size ∧ h.size ≤ T'.heap.size ∧ Z.Warmed39 T'.vm ∧ T'.vm.findClass own = some m.cls ∧ CHr Z EL vm0 h T'.vm T'.heap ∧ ∀ t, Steps p.tables e below (T'.setTop { g with pc := g.pc + 3, stack := v.toList ++ rest }) t → Steps p.tables e below (T.setTop g) t := by
  subst has
  subst eT
  obtain ⟨v, _, ⟨T1, L1, k1, n1⟩, -, X1, S1, g1, ⟨Lc, hQ, l1, y1, z1, c1⟩, st⟩ := X.specialBackS hx (y := y) hy1 hown (mvT (s := s.setVm vm0) hZ w1) (mvT (s := s.setVm vm0) hZ w2) (mvT (s := s.setVm vm0) hZ w4) hy (backOfSH (W := W) (hM []) hZ w4 w3 hf hl hEL H) hg hsize (Steps.refl _) (a := a) hlen hstack hW hd (fun _ _ => ⟨rfl, rfl, hc, hs⟩)
  dsimp only [Pt.U, Pt.locs, Pt.cells, Pt.slots] at X1 l1 y1 z1 st hQ S1 g1 c1
  subst l1 y1 z1
  exact ⟨T1, v, Lc, X1, hQ, foldS hS hk S1 g1, g1, State.Warmed39.trans (t := s.setVm vm0) hZ S1.1, by rw [S1.1.alike.findClass]; exact hown, c1, fun t k => st.trans k⟩
theorem callViS (X : Stand p l e R (s.setVm vm0) m args below meth c T locs cells slots) (hx : p.tables.exec = Jvm.exec) (hZ : Z.Warmed39 vm0) {own C : String} {index : Nat} {y z : MethodName} {bytes : ByteArray} {maxL : Nat} {ret : Option FieldType} {rm : Room} {as' : Array Value}
    (hS : s.Since vm0 k0) (hk : k0 ≤ h.size) (hEL : EW Z a0 EL) (H : CHv Z EL vm0 h)
    (hown : vm0.findClass own = some m.cls) (w1 : (Jvm.Cond.methodLink own index y).before a0 Z = true) (w2 : (Jvm.Cond.declares y).before a0 Z = true) (nf : NotFace (s.setVm vm0) y) (w3 : (Jvm.Cond.selects C y z).before a0 Z = true) (w4 : (Jvm.Cond.instanceMethod z).before a0 Z = true) (w5 : (Jvm.Cond.code z bytes maxL ret).before a0 Z = true) (w6 : (Jvm.Cond.initialized z.cls).before a0 Z = true)
    (hy : y.cls ≠ "java/lang/invoke/MethodHandle" ∧ y.cls ≠ "java/lang/invoke/VarHandle") (hM : OkS l Z EL z bytes maxL ret rm as' h Q) (eT : T.heap = h) {W : Nat} (hf : rm.frames + 1 ≤ R.frames) (hl : W + (maxL + 11) + rm.locals ≤ R.locals) (hc : cells + rm.cells ≤ R.cells) (hs : slots + rm.slots ≤ R.slots)
    {a : Addr} (E : Exa Z h a C) {g : JFrame} (hg : g.method = m) (hsize : g.locals.size = c.maxLocals) {argsL rest : List Value} (hlen : ∀ sig, parseMethodDescriptor y.desc = some sig → argsL.length = sig.parameters.length) (has : (.ref a :: argsL).toArray = as')
    (hstack : g.stack = argsL.reverse ++ .ref a :: rest) (hW : 2 * g.monitorRoom + (rest.map fun v => v.category).sum ≤ W) (hd : decode c.code g.pc = .ok (.invokevirtual index, 3)) :
    ∃ T' v L, Stand p l e R (s.setVm T'.vm) m args below meth c T' (locs ++ L) (cells + rm.cells) (slots + rm.slots) ∧ Q v T'.heap L ∧ s.Since T'.vm T'.heap.size ∧ h.size ≤ T'.heap.size ∧ Z.Warmed39 T'.vm ∧ T'.vm.findClass own = some m.cls ∧ CHr Z EL vm0 h T'.vm T'.heap ∧ ∀ t, Steps p.tables e below (T'.setTop { g with pc := g.pc + 3, stack := v.toList ++ rest }) t → Steps p.tables e below (T.setTop g) t := by
  subst has
  subst eT
  obtain ⟨cq, kq, qa, qb, qc⟩ := isOf (s := s.setVm vm0) hZ rfl E
  obtain ⟨v, _, ⟨T1, L1, k1, n1⟩, -, X1, S1, g1, ⟨Lc, hQ, l1, y1, z1, c1⟩, st⟩ := X.virtualBackS hx (y := y) (z := z) hown (mvT (s := s.setVm vm0) hZ w1) (mvT (s := s.setVm vm0) hZ w2) nf (mvT (s := s.setVm vm0) hZ w3) (mvT (s := s.setVm vm0) hZ w4) hy (backOfSH (W := W) (hM []) hZ w5 w6 hf hl hEL H) qa qc hg hsize (Steps.refl _) hlen hstack hW hd (fun _ _ => ⟨rfl, rfl, hc, hs⟩)
  dsimp only [Pt.U, Pt.locs, Pt.cells, Pt.slots] at X1 l1 y1 z1 st hQ S1 g1 c1
  subst l1 y1 z1
  exact ⟨T1, v, Lc, X1, hQ, foldS hS hk S1 g1, g1, State.Warmed39.trans (t := s.setVm vm0) hZ S1.1, by rw [S1.1.alike.findClass]; exact hown, c1, fun t k => st.trans k⟩
end OwnKitS
def own_Ctx (Z : State) (s__VALUES : Addr) (s_HITS : Addr) (s_RESULTS : Addr) (s_VALIDATE : Addr) (s_HITS_name : Addr) (s_RESULTS_name : Addr) (s_VALIDATE_name : Addr) (s_HITS_name_value : Addr) (s_RESULTS_name_value : Addr) (s_VALIDATE_name_value : Addr) (s_DEFAULTCAPACITY_EMPTY_ELEMENTDATA : Addr) (s_COMPACT_STRINGS : Int32) (cl_s__VALUES : Cell) (cl_s_HITS_name_value : Cell) (cl_s_RESULTS_name_value : Cell) (cl_s_VALIDATE_name_value : Cell) (cl_s_DEFAULTCAPACITY_EMPTY_ELEMENTDATA : Cell) : Prop :=
  (Sta Z Z.heap "com/example/fair_index/fairindex/csw/ResultType" "$VALUES" "[Lcom/example/fair_index/fairindex/csw/ResultType;" (.ref s__VALUES)) ∧
  (Exa Z Z.heap s__VALUES "[Lcom/example/fair_index/fairindex/csw/ResultType;") ∧
  (Sta Z Z.heap "com/example/fair_index/fairindex/csw/ResultType" "HITS" "Lcom/example/fair_index/fairindex/csw/ResultType;" (.ref s_HITS)) ∧
  (Exa Z Z.heap s_HITS "com/example/fair_index/fairindex/csw/ResultType") ∧
  (Sta Z Z.heap "com/example/fair_index/fairindex/csw/ResultType" "RESULTS" "Lcom/example/fair_index/fairindex/csw/ResultType;" (.ref s_RESULTS)) ∧
  (Exa Z Z.heap s_RESULTS "com/example/fair_index/fairindex/csw/ResultType") ∧
  (Sta Z Z.heap "com/example/fair_index/fairindex/csw/ResultType" "VALIDATE" "Lcom/example/fair_index/fairindex/csw/ResultType;" (.ref s_VALIDATE)) ∧
  (Exa Z Z.heap s_VALIDATE "com/example/fair_index/fairindex/csw/ResultType") ∧
  (Fld Z Z.heap s_HITS "com/example/fair_index/fairindex/csw/ResultType" "name" "Ljava/lang/String;" (.ref s_HITS_name)) ∧
  (Exa Z Z.heap s_HITS_name "java/lang/String") ∧
  (Fld Z Z.heap s_RESULTS "com/example/fair_index/fairindex/csw/ResultType" "name" "Ljava/lang/String;" (.ref s_RESULTS_name)) ∧
  (Exa Z Z.heap s_RESULTS_name "java/lang/String") ∧
  (Fld Z Z.heap s_VALIDATE "com/example/fair_index/fairindex/csw/ResultType" "name" "Ljava/lang/String;" (.ref s_VALIDATE_name)) ∧
  (Exa Z Z.heap s_VALIDATE_name "java/lang/String") ∧
  (Fld Z Z.heap s_HITS_name "java/lang/String" "coder" "B" (.int (0 : Int32))) ∧
  (Fld Z Z.heap s_HITS_name "java/lang/String" "value" "[B" (.ref s_HITS_name_value)) ∧
  (Fld Z Z.heap s_RESULTS_name "java/lang/String" "coder" "B" (.int (0 : Int32))) ∧
  (Fld Z Z.heap s_RESULTS_name "java/lang/String" "value" "[B" (.ref s_RESULTS_name_value)) ∧
  (Fld Z Z.heap s_VALIDATE_name "java/lang/String" "coder" "B" (.int (0 : Int32))) ∧
  (Fld Z Z.heap s_VALIDATE_name "java/lang/String" "value" "[B" (.ref s_VALIDATE_name_value)) ∧
  (¬ (s_HITS_name = s_RESULTS_name)) ∧
  (¬ (s_HITS_name = s_VALIDATE_name)) ∧
  (¬ (s_RESULTS_name = s_VALIDATE_name)) ∧
  (Sta Z Z.heap "java/util/ArrayList" "DEFAULTCAPACITY_EMPTY_ELEMENTDATA" "[Ljava/lang/Object;" (.ref s_DEFAULTCAPACITY_EMPTY_ELEMENTDATA)) ∧
  (Exa Z Z.heap s_DEFAULTCAPACITY_EMPTY_ELEMENTDATA "[Ljava/lang/Object;") ∧
  (Sta Z Z.heap "java/lang/String" "COMPACT_STRINGS" "Z" (.int s_COMPACT_STRINGS)) ∧
  (¬ (s_COMPACT_STRINGS = (0 : Int32))) ∧
  (Arv Z Z.heap s__VALUES cl_s__VALUES.cls (.object "com/example/fair_index/fairindex/csw/ResultType") (3 : Int32) [(.ref s_HITS), (.ref s_RESULTS), (.ref s_VALIDATE)] .null) ∧
  (Arv Z Z.heap s_HITS_name_value cl_s_HITS_name_value.cls .byte (4 : Int32) [(.int (104 : Int32)), (.int (105 : Int32)), (.int (116 : Int32)), (.int (115 : Int32))] (.int (0 : Int32))) ∧
  (Arv Z Z.heap s_RESULTS_name_value cl_s_RESULTS_name_value.cls .byte (7 : Int32) [(.int (114 : Int32)), (.int (101 : Int32)), (.int (115 : Int32)), (.int (117 : Int32)), (.int (108 : Int32)), (.int (116 : Int32)), (.int (115 : Int32))] (.int (0 : Int32))) ∧
  (Arv Z Z.heap s_VALIDATE_name_value cl_s_VALIDATE_name_value.cls .byte (8 : Int32) [(.int (118 : Int32)), (.int (97 : Int32)), (.int (108 : Int32)), (.int (105 : Int32)), (.int (100 : Int32)), (.int (97 : Int32)), (.int (116 : Int32)), (.int (101 : Int32))] (.int (0 : Int32))) ∧
  (Arv Z Z.heap s_DEFAULTCAPACITY_EMPTY_ELEMENTDATA cl_s_DEFAULTCAPACITY_EMPTY_ELEMENTDATA.cls (.object "java/lang/Object") (0 : Int32) [] .null)
theorem d_jdk_22_method_1_code_0 : decode jdk_22_method_1_code 0 = .ok (.aload_n 0, 1) := by decide +kernel
theorem d_jdk_22_method_1_code_1 : decode jdk_22_method_1_code 1 = .ok (.invokespecial 1, 3) := by decide +kernel
theorem d_jdk_22_method_1_code_4 : decode jdk_22_method_1_code 4 = .ok (.return_, 1) := by decide +kernel
theorem ef_rm_acoll (m : MethodId) (ob : Addr) : entryFrame m #[(.ref ob)] 1 = mkF m 0 #[.val (.ref ob)] [] := by first | (simp [entryFrame, mkF, argsToLocals, Value.category]; done) | rfl
theorem pn_java_util_AbstractCollection__init____V : plainFor (⟨"java/util/AbstractCollection", "<init>", "()V"⟩ : MethodName) = true := by first | exact plainFor_of_name (by first | (simp [plainName, overriddenIn]; done) | decide +kernel) | decide +kernel
set_option maxRecDepth 65536 in
set_option maxHeartbeats 40000000 in
theorem rm_acoll {l : Launch} {Z : State} {a0 : Array Value} {s__VALUES : Addr} {s_HITS : Addr} {s_RESULTS : Addr} {s_VALIDATE : Addr} {s_HITS_name : Addr} {s_RESULTS_name : Addr} {s_VALIDATE_name : Addr} {s_HITS_name_value : Addr} {s_RESULTS_name_value : Addr} {s_VALIDATE_name_value : Addr} {s_DEFAULTCAPACITY_EMPTY_ELEMENTDATA : Addr} {s_COMPACT_STRINGS : Int32} {cl_s__VALUES : Cell} {cl_s_HITS_name_value : Cell} {cl_s_RESULTS_name_value : Cell} {cl_s_VALIDATE_name_value : Cell} {cl_s_DEFAULTCAPACITY_EMPTY_ELEMENTDATA : Cell} (hw : ∀ d ∈ tables_1, d.before a0 Z = true) (G : own_Ctx Z s__VALUES s_HITS s_RESULTS s_VALIDATE s_HITS_name s_RESULTS_name s_VALIDATE_name s_HITS_name_value s_RESULTS_name_value s_VALIDATE_name_value s_DEFAULTCAPACITY_EMPTY_ELEMENTDATA s_COMPACT_STRINGS cl_s__VALUES cl_s_HITS_name_value cl_s_RESULTS_name_value cl_s_VALIDATE_name_value cl_s_DEFAULTCAPACITY_EMPTY_ELEMENTDATA) (ob : Addr)  (h0 : Heap) (O0 : Ext Z.heap h0)  :
    Ok l Z (⟨"java/util/AbstractCollection", "<init>", "()V"⟩ : MethodName) jdk_22_method_1_code 1 none ({ frames := 1, cells := 0, slots := 0, locals := 12 } : Room) #[(.ref ob)] h0
      (fun v h L => v = none ∧ (h = h0) ∧ (L = [])) := by
  refine Ok.mk pn_java_util_AbstractCollection__init____V ?_
  intro p e s m below meth c T0 hx hby hml hown hnm hret hlk hZ e0 X0
  refine Go.cast (ef_rm_acoll m ob) ?_
  obtain ⟨S__VALUES, E_s__VALUES, S_HITS, E_s_HITS, S_RESULTS, E_s_RESULTS, S_VALIDATE, E_s_VALIDATE, F_s_HITS_name, E_s_HITS_name, F_s_RESULTS_name, E_s_RESULTS_name, F_s_VALIDATE_name, E_s_VALIDATE_name, F_s_HITS_name_coder, F_s_HITS_name_value, F_s_RESULTS_name_coder, F_s_RESULTS_name_value, F_s_VALIDATE_name_coder, F_s_VALIDATE_name_value, ne_s_HITS_name_s_RESULTS_name, ne_s_HITS_name_s_VALIDATE_name, ne_s_RESULTS_name_s_VALIDATE_name, S_DEFAULTCAPACITY_EMPTY_ELEMENTDATA, E_s_DEFAULTCAPACITY_EMPTY_ELEMENTDATA, S_COMPACT_STRINGS, hne_s_COMPACT_STRINGS_0, V_s__VALUES, V_s_HITS_name_value, V_s_RESULTS_name_value, V_s_VALIDATE_name_value, V_s_DEFAULTCAPACITY_EMPTY_ELEMENTDATA⟩ := id G
  have N0 := Fr.nil Z.heap.size
  have K0 : Keep h0 h0 [] := Keep.refl _ _
  refine Go.of (T' := T0) (f' := (mkF m 1 #[.val (.ref ob)] [(.ref ob)])) (fun _ k => XS.aloadN X0.here hx rfl (hb hby d_jdk_22_method_1_code_0) rfl rfl k) ?_
  obtain ⟨T1, X1, e1, st1⟩ := initO X0 hx hZ hown (hw _ (List.mem_of_getElem? (i := 22) rfl)) (hw _ (List.mem_of_getElem? (i := 23) rfl)) (hw _ (List.mem_of_getElem? (i := 24) rfl)) e0 (g := (mkF m 1 #[.val (.ref ob)] [(.ref ob)])) rfl (by rw [hml]; rfl) rfl (hb hby d_jdk_22_method_1_code_1) (by decide) (W := 0) (by show 2 * 0 + _ ≤ _; exact Nat.le_of_eq rfl) (by decide)
  refine Go.of (T' := T1) (f' := (mkF m 4 #[.val (.ref ob)] [])) (fun _ k => st1 _ k) ?_
  exact Go.retV X1 hx hlk hret (hb hby d_jdk_22_method_1_code_4) (by decide) (by decide) (by rw [e1]; exact ⟨rfl, rfl, by simp⟩)
theorem d_jdk_39_method_1_code_0 : decode jdk_39_method_1_code 0 = .ok (.aload_n 0, 1) := by decide +kernel
theorem d_jdk_39_method_1_code_1 : decode jdk_39_method_1_code 1 = .ok (.invokespecial 1, 3) := by decide +kernel
theorem pd___V : parseMethodDescriptor "()V" = some ⟨[], none⟩ := by decide +kernel
theorem d_jdk_39_method_1_code_4 : decode jdk_39_method_1_code 4 = .ok (.aload_n 0, 1) := by decide +kernel
theorem d_jdk_39_method_1_code_5 : decode jdk_39_method_1_code 5 = .ok (.iconst 0, 1) := by decide +kernel
theorem d_jdk_39_method_1_code_6 : decode jdk_39_method_1_code 6 = .ok (.putfield 7, 3) := by decide +kernel
theorem d_jdk_39_method_1_code_9 : decode jdk_39_method_1_code 9 = .ok (.return_, 1) := by decide +kernel
theorem ef_rm_alist (m : MethodId) (ob : Addr) : entryFrame m #[(.ref ob)] 1 = mkF m 0 #[.val (.ref ob)] [] := by first | (simp [entryFrame, mkF, argsToLocals, Value.category]; done) | rfl
theorem pn_java_util_AbstractList__init____V : plainFor (⟨"java/util/AbstractList", "<init>", "()V"⟩ : MethodName) = true := by first | exact plainFor_of_name (by first | (simp [plainName, overriddenIn]; done) | decide +kernel) | decide +kernel
set_option maxRecDepth 65536 in
set_option maxHeartbeats 40000000 in
theorem rm_alist {l : Launch} {Z : State} {a0 : Array Value} {s__VALUES : Addr} {s_HITS : Addr} {s_RESULTS : Addr} {s_VALIDATE : Addr} {s_HITS_name : Addr} {s_RESULTS_name : Addr} {s_VALIDATE_name : Addr} {s_HITS_name_value : Addr} {s_RESULTS_name_value : Addr} {s_VALIDATE_name_value : Addr} {s_DEFAULTCAPACITY_EMPTY_ELEMENTDATA : Addr} {s_COMPACT_STRINGS : Int32} {cl_s__VALUES : Cell} {cl_s_HITS_name_value : Cell} {cl_s_RESULTS_name_value : Cell} {cl_s_VALIDATE_name_value : Cell} {cl_s_DEFAULTCAPACITY_EMPTY_ELEMENTDATA : Cell} (hw : ∀ d ∈ tables_1, d.before a0 Z = true) (G : own_Ctx Z s__VALUES s_HITS s_RESULTS s_VALIDATE s_HITS_name s_RESULTS_name s_VALIDATE_name s_HITS_name_value s_RESULTS_name_value s_VALIDATE_name_value s_DEFAULTCAPACITY_EMPTY_ELEMENTDATA s_COMPACT_STRINGS cl_s__VALUES cl_s_HITS_name_value cl_s_RESULTS_name_value cl_s_VALIDATE_name_value cl_s_DEFAULTCAPACITY_EMPTY_ELEMENTDATA) (ob : Addr)  (h0 : Heap) (O0 : Ext Z.heap h0) (prem0 : Exa Z h0 ob "java/util/ArrayList") (prem1 : Fld Z h0 ob "java/util/AbstractList" "modCount" "I" (.int (0 : Int32))) (prem2 : Fld Z h0 ob "java/util/ArrayList" "size" "I" (.int (0 : Int32))) (prem3 : Fld Z h0 ob "java/util/ArrayList" "elementData" "[Ljava/lang/Object;" .null) (prem4 : Z.heap.size ≤ ob) :
    Ok l Z (⟨"java/util/AbstractList", "<init>", "()V"⟩ : MethodName) jdk_39_method_1_code 1 none ({ frames := 2, cells := 0, slots := 0, locals := 24 } : Room) #[(.ref ob)] h0
      (fun v h L => v = none ∧ (Fr Z.heap.size L) ∧ (Keep h0 h [ob]) ∧ (Fld Z h ob "java/util/AbstractList" "modCount" "I" (.int (0 : Int32))) ∧ (Fld Z h ob "java/util/ArrayList" "size" "I" (.int (0 : Int32))) ∧ (Fld Z h ob "java/util/ArrayList" "elementData" "[Ljava/lang/Object;" .null)) := by
  refine Ok.mk pn_java_util_AbstractList__init____V ?_
  intro p e s m below meth c T0 hx hby hml hown hnm hret hlk hZ e0 X0
  refine Go.cast (ef_rm_alist m ob) ?_
  obtain ⟨S__VALUES, E_s__VALUES, S_HITS, E_s_HITS, S_RESULTS, E_s_RESULTS, S_VALIDATE, E_s_VALIDATE, F_s_HITS_name, E_s_HITS_name, F_s_RESULTS_name, E_s_RESULTS_name, F_s_VALIDATE_name, E_s_VALIDATE_name, F_s_HITS_name_coder, F_s_HITS_name_value, F_s_RESULTS_name_coder, F_s_RESULTS_name_value, F_s_VALIDATE_name_coder, F_s_VALIDATE_name_value, ne_s_HITS_name_s_RESULTS_name, ne_s_HITS_name_s_VALIDATE_name, ne_s_RESULTS_name_s_VALIDATE_name, S_DEFAULTCAPACITY_EMPTY_ELEMENTDATA, E_s_DEFAULTCAPACITY_EMPTY_ELEMENTDATA, S_COMPACT_STRINGS, hne_s_COMPACT_STRINGS_0, V_s__VALUES, V_s_HITS_name_value, V_s_RESULTS_name_value, V_s_VALIDATE_name_value, V_s_DEFAULTCAPACITY_EMPTY_ELEMENTDATA⟩ := id G
  have N0 := Fr.nil Z.heap.size
  have K0 : Keep h0 h0 [ob] := Keep.refl _ _
  refine Go.of (T' := T0) (f' := (mkF m 1 #[.val (.ref ob)] [(.ref ob)])) (fun _ k => XS.aloadN X0.here hx rfl (hb hby d_jdk_39_method_1_code_0) rfl rfl k) ?_
  obtain ⟨T2, v2, L2, X2, q2, st2⟩ := callNew X0 hx hZ (y := (⟨"java/util/AbstractCollection", "<init>", "()V"⟩ : MethodName)) rfl hown (hw _ (List.mem_of_getElem? (i := 16) rfl)) (hw _ (List.mem_of_getElem? (i := 17) rfl)) (hw _ (List.mem_of_getElem? (i := 20) rfl)) (hw _ (List.mem_of_getElem? (i := 21) rfl)) (by decide) (rm_acoll hw G ob  h0 O0 ) e0 (W := 0) (by decide) (by decide) (by decide) (by decide) (g := (mkF m 1 #[.val (.ref ob)] [(.ref ob)])) rfl (by rw [hml]; rfl) (a := ob) (argsL := []) (rest := []) (lenOf pd___V rfl) rfl rfl (by show 2 * 0 + _ ≤ _; exact Nat.le_of_eq rfl) (hb hby d_jdk_39_method_1_code_1)
  obtain ⟨rfl, e2, rfl⟩ := q2
  have N2 := Fr.app N0 (Fr.nil _)
  refine Go.of (T' := T2) (f' := (mkF m 4 #[.val (.ref ob)] [])) (fun _ k => st2 _ k) ?_
  refine Go.of (T' := T2) (f' := (mkF m 5 #[.val (.ref ob)] [(.ref ob)])) (fun _ k => XS.aloadN X2.here hx rfl (hb hby d_jdk_39_method_1_code_4) rfl rfl k) ?_
  refine Go.of (T' := T2) (f' := (mkF m 6 #[.val (.ref ob)] [(.int (0 : Int32)), (.ref ob)])) (fun _ k => XS.iconst X2.here hx rfl (hb hby d_jdk_39_method_1_code_5) k) ?_
  obtain ⟨T3, h3, X3, e3, W3, st3⟩ := putF X2 hx hZ hown (host := "") (Or.inl (hw _ (List.mem_of_getElem? (i := 25) rfl))) Via.refl e2 prem1 prem0 (Or.inl (hw _ (List.mem_of_getElem? (i := 26) rfl))) (hw _ (List.mem_of_getElem? (i := 5) rfl)) (ty := .int) (by decide) rfl rfl (g := (mkF m 6 #[.val (.ref ob)] [(.int (0 : Int32)), (.ref ob)])) rfl rfl (hb hby d_jdk_39_method_1_code_6)
  have O4 := Old0.wr O0 W3 prem4
  have K4 := Keep.wr K0 W3 (Or.inl (List.mem_of_getElem? (i := 0) rfl))
  have N3 := Fr.snoc X3 N2 prem4
  have f3 : Fld Z h3 ob "java/util/AbstractList" "modCount" "I" (.int (0 : Int32)) := Fld.same W3 prem1
  refine Go.of (T' := T3) (f' := (mkF m 9 #[.val (.ref ob)] [])) (fun _ k => st3 _ k) ?_
  have f5 : Fld Z h3 ob "java/util/ArrayList" "size" "I" (.int (0 : Int32)) := (Fld.other W3 prem2 (Or.inr (slot_ne (Or.inl (hw _ (List.mem_of_getElem? (i := 62) rfl))) (Or.inl (hw _ (List.mem_of_getElem? (i := 26) rfl))) (by decide) (t := .int) (t' := .int) (by decide) (by decide))))
  have f6 : Fld Z h3 ob "java/util/ArrayList" "elementData" "[Ljava/lang/Object;" .null := (Fld.other W3 prem3 (Or.inr (slot_ne (Or.inl (hw _ (List.mem_of_getElem? (i := 29) rfl))) (Or.inl (hw _ (List.mem_of_getElem? (i := 26) rfl))) (by decide) (t := (.array (.object "java/lang/Object"))) (t' := .int) (by decide) (by decide))))
  exact Go.retV X3 hx hlk hret (hb hby d_jdk_39_method_1_code_9) (by decide) (by decide) (by rw [e3]; exact ⟨rfl, N3, K4, f3, f5, f6⟩)
theorem d_jdk_38_method_2_code_0 : decode jdk_38_method_2_code 0 = .ok (.aload_n 0, 1) := by decide +kernel
theorem d_jdk_38_method_2_code_1 : decode jdk_38_method_2_code 1 = .ok (.invokespecial 1, 3) := by decide +kernel
theorem d_jdk_38_method_2_code_4 : decode jdk_38_method_2_code 4 = .ok (.aload_n 0, 1) := by decide +kernel
theorem d_jdk_38_method_2_code_5 : decode jdk_38_method_2_code 5 = .ok (.getstatic 39, 3) := by decide +kernel
theorem d_jdk_38_method_2_code_8 : decode jdk_38_method_2_code 8 = .ok (.putfield 9, 3) := by decide +kernel
theorem d_jdk_38_method_2_code_11 : decode jdk_38_method_2_code 11 = .ok (.return_, 1) := by decide +kernel
theorem ef_rm_alinit (m : MethodId) (ob : Addr) : entryFrame m #[(.ref ob)] 1 = mkF m 0 #[.val (.ref ob)] [] := by first | (simp [entryFrame, mkF, argsToLocals, Value.category]; done) | rfl
theorem pn_java_util_ArrayList__init____V : plainFor (⟨"java/util/ArrayList", "<init>", "()V"⟩ : MethodName) = true := by first | exact plainFor_of_name (by first | (simp [plainName, overriddenIn]; done) | decide +kernel) | decide +kernel
set_option maxRecDepth 65536 in
set_option maxHeartbeats 40000000 in
theorem rm_alinit {l : Launch} {Z : State} {a0 : Array Value} {s__VALUES : Addr} {s_HITS : Addr} {s_RESULTS : Addr} {s_VALIDATE : Addr} {s_HITS_name : Addr} {s_RESULTS_name : Addr} {s_VALIDATE_name : Addr} {s_HITS_name_value : Addr} {s_RESULTS_name_value : Addr} {s_VALIDATE_name_value : Addr} {s_DEFAULTCAPACITY_EMPTY_ELEMENTDATA : Addr} {s_COMPACT_STRINGS : Int32} {cl_s__VALUES : Cell} {cl_s_HITS_name_value : Cell} {cl_s_RESULTS_name_value : Cell} {cl_s_VALIDATE_name_value : Cell} {cl_s_DEFAULTCAPACITY_EMPTY_ELEMENTDATA : Cell} (hw : ∀ d ∈ tables_1, d.before a0 Z = true) (G : own_Ctx Z s__VALUES s_HITS s_RESULTS s_VALIDATE s_HITS_name s_RESULTS_name s_VALIDATE_name s_HITS_name_value s_RESULTS_name_value s_VALIDATE_name_value s_DEFAULTCAPACITY_EMPTY_ELEMENTDATA s_COMPACT_STRINGS cl_s__VALUES cl_s_HITS_name_value cl_s_RESULTS_name_value cl_s_VALIDATE_name_value cl_s_DEFAULTCAPACITY_EMPTY_ELEMENTDATA) (ob : Addr)  (h0 : Heap) (O0 : Ext Z.heap h0) (prem0 : Exa Z h0 ob "java/util/ArrayList") (prem1 : Fld Z h0 ob "java/util/AbstractList" "modCount" "I" (.int (0 : Int32))) (prem2 : Fld Z h0 ob "java/util/ArrayList" "size" "I" (.int (0 : Int32))) (prem3 : Fld Z h0 ob "java/util/ArrayList" "elementData" "[Ljava/lang/Object;" .null) (prem4 : Z.heap.size ≤ ob) :
    Ok l Z (⟨"java/util/ArrayList", "<init>", "()V"⟩ : MethodName) jdk_38_method_2_code 1 none ({ frames := 3, cells := 0, slots := 0, locals := 36 } : Room) #[(.ref ob)] h0
      (fun v h L => v = none ∧ (Fr Z.heap.size L) ∧ (Keep h0 h [ob]) ∧ (Fld Z h ob "java/util/AbstractList" "modCount" "I" (.int (0 : Int32))) ∧ (Fld Z h ob "java/util/ArrayList" "size" "I" (.int (0 : Int32))) ∧ (Fld Z h ob "java/util/ArrayList" "elementData" "[Ljava/lang/Object;" (.ref s_DEFAULTCAPACITY_EMPTY_ELEMENTDATA))) := by
  refine Ok.mk pn_java_util_ArrayList__init____V ?_
  intro p e s m below meth c T0 hx hby hml hown hnm hret hlk hZ e0 X0
  refine Go.cast (ef_rm_alinit m ob) ?_
  obtain ⟨S__VALUES, E_s__VALUES, S_HITS, E_s_HITS, S_RESULTS, E_s_RESULTS, S_VALIDATE, E_s_VALIDATE, F_s_HITS_name, E_s_HITS_name, F_s_RESULTS_name, E_s_RESULTS_name, F_s_VALIDATE_name, E_s_VALIDATE_name, F_s_HITS_name_coder, F_s_HITS_name_value, F_s_RESULTS_name_coder, F_s_RESULTS_name_value, F_s_VALIDATE_name_coder, F_s_VALIDATE_name_value, ne_s_HITS_name_s_RESULTS_name, ne_s_HITS_name_s_VALIDATE_name, ne_s_RESULTS_name_s_VALIDATE_name, S_DEFAULTCAPACITY_EMPTY_ELEMENTDATA, E_s_DEFAULTCAPACITY_EMPTY_ELEMENTDATA, S_COMPACT_STRINGS, hne_s_COMPACT_STRINGS_0, V_s__VALUES, V_s_HITS_name_value, V_s_RESULTS_name_value, V_s_VALIDATE_name_value, V_s_DEFAULTCAPACITY_EMPTY_ELEMENTDATA⟩ := id G
  have N0 := Fr.nil Z.heap.size
  have K0 : Keep h0 h0 [ob] := Keep.refl _ _
  refine Go.of (T' := T0) (f' := (mkF m 1 #[.val (.ref ob)] [(.ref ob)])) (fun _ k => XS.aloadN X0.here hx rfl (hb hby d_jdk_38_method_2_code_0) rfl rfl k) ?_
  obtain ⟨T7, v7, L7, X7, q7, st7⟩ := callNew X0 hx hZ (y := (⟨"java/util/AbstractList", "<init>", "()V"⟩ : MethodName)) rfl hown (hw _ (List.mem_of_getElem? (i := 10) rfl)) (hw _ (List.mem_of_getElem? (i := 11) rfl)) (hw _ (List.mem_of_getElem? (i := 14) rfl)) (hw _ (List.mem_of_getElem? (i := 15) rfl)) (by decide) (rm_alist hw G ob  h0 O0 prem0 prem1 prem2 prem3 prem4) e0 (W := 0) (by decide) (by decide) (by decide) (by decide) (g := (mkF m 1 #[.val (.ref ob)] [(.ref ob)])) rfl (by rw [hml]; rfl) (a := ob) (argsL := []) (rest := []) (lenOf pd___V rfl) rfl rfl (by show 2 * 0 + _ ≤ _; exact Nat.le_of_eq rfl) (hb hby d_jdk_38_method_2_code_1)
  obtain ⟨rfl, N7q, K7q, p7_0, p7_1, p7_2⟩ := q7
  have N7 := Fr.app N0 N7q
  have O8 := Old0.keep O0 K7q (allS prem4 all0)
  have K8 := Keep.trans K0 K7q (allS (Or.inl (List.mem_of_getElem? (i := 0) rfl)) all0)
  refine Go.of (T' := T7) (f' := (mkF m 4 #[.val (.ref ob)] [])) (fun _ k => st7 _ k) ?_
  refine Go.of (T' := T7) (f' := (mkF m 5 #[.val (.ref ob)] [(.ref ob)])) (fun _ k => XS.aloadN X7.here hx rfl (hb hby d_jdk_38_method_2_code_4) rfl rfl k) ?_
  obtain ⟨T9, X9, e9, st9⟩ := getS2 X7 hx hZ hown (host := "") (Or.inl (hw _ (List.mem_of_getElem? (i := 27) rfl))) Via.refl rfl (Sta.ext O8 S_DEFAULTCAPACITY_EMPTY_ELEMENTDATA) (g := (mkF m 5 #[.val (.ref ob)] [(.ref ob)])) rfl (hb hby d_jdk_38_method_2_code_5)
  refine Go.of (T' := T9) (f' := (mkF m 8 #[.val (.ref ob)] [(.ref s_DEFAULTCAPACITY_EMPTY_ELEMENTDATA), (.ref ob)])) (fun _ k => st9 _ k) ?_
  have f11 : Exa Z T7.heap ob "java/util/ArrayList" := (Exa.keep prem0 K7q)
  obtain ⟨T10, h10, X10, e10, W10, st10⟩ := putF X9 hx hZ hown (host := "") (Or.inl (hw _ (List.mem_of_getElem? (i := 28) rfl))) Via.refl e9 p7_2 f11 (Or.inl (hw _ (List.mem_of_getElem? (i := 29) rfl))) (hw _ (List.mem_of_getElem? (i := 5) rfl)) (ty := (.array (.object "java/lang/Object"))) (by decide) rfl rfl (g := (mkF m 8 #[.val (.ref ob)] [(.ref s_DEFAULTCAPACITY_EMPTY_ELEMENTDATA), (.ref ob)])) rfl rfl (hb hby d_jdk_38_method_2_code_8)
  have O12 := Old0.wr O8 W10 prem4
  have K12 := Keep.wr K8 W10 (Or.inl (List.mem_of_getElem? (i := 0) rfl))
  have N10 := Fr.snoc X10 N7 prem4
  have f10 : Fld Z h10 ob "java/util/ArrayList" "elementData" "[Ljava/lang/Object;" (.ref s_DEFAULTCAPACITY_EMPTY_ELEMENTDATA) := Fld.same W10 p7_2
  refine Go.of (T' := T10) (f' := (mkF m 11 #[.val (.ref ob)] [])) (fun _ k => st10 _ k) ?_
  have f13 : Fld Z h10 ob "java/util/AbstractList" "modCount" "I" (.int (0 : Int32)) := (Fld.other W10 p7_0 (Or.inr (slot_ne (Or.inl (hw _ (List.mem_of_getElem? (i := 26) rfl))) (Or.inl (hw _ (List.mem_of_getElem? (i := 29) rfl))) (by decide) (t := .int) (t' := (.array (.object "java/lang/Object"))) (by decide) (by decide))))
  have f14 : Fld Z h10 ob "java/util/ArrayList" "size" "I" (.int (0 : Int32)) := (Fld.other W10 p7_1 (Or.inr (slot_ne (Or.inl (hw _ (List.mem_of_getElem? (i := 62) rfl))) (Or.inl (hw _ (List.mem_of_getElem? (i := 29) rfl))) (by decide) (t := .int) (t' := (.array (.object "java/lang/Object"))) (by decide) (by decide))))
  exact Go.retV X10 hx hlk hret (hb hby d_jdk_38_method_2_code_11) (by decide) (by decide) (by rw [e10]; exact ⟨rfl, N10, K12, f13, f14, f10⟩)
theorem pn_java_lang_Math_max__II_I : plainFor (⟨"java/lang/Math", "max", "(II)I"⟩ : MethodName) = true := Jvm.Free.JP.mathPlain rfl (by decide +kernel)
theorem d_jdk_29_method_65_code_0 : decode jdk_29_method_65_code 0 = .ok (.iload_n 0, 1) := by decide +kernel
theorem d_jdk_29_method_65_code_1 : decode jdk_29_method_65_code 1 = .ok (.iload_n 1, 1) := by decide +kernel
theorem d_jdk_29_method_65_code_2 : decode jdk_29_method_65_code 2 = .ok (.if_icmp .lt 7, 3) := by decide +kernel
theorem d_jdk_29_method_65_code_5 : decode jdk_29_method_65_code 5 = .ok (.iload_n 0, 1) := by decide +kernel
theorem d_jdk_29_method_65_code_6 : decode jdk_29_method_65_code 6 = .ok (.goto 4, 3) := by decide +kernel
theorem d_jdk_29_method_65_code_10 : decode jdk_29_method_65_code 10 = .ok (.ireturn, 1) := by decide +kernel
theorem ef_rm_max (m : MethodId)  : entryFrame m #[(.int (10 : Int32)), (.int (1 : Int32))] 2 = mkF m 0 #[.val (.int (10 : Int32)), .val (.int (1 : Int32))] [] := by first | (simp [entryFrame, mkF, argsToLocals, Value.category]; done) | rfl
set_option maxRecDepth 65536 in
set_option maxHeartbeats 40000000 in
theorem rm_max {l : Launch} {Z : State} {a0 : Array Value} {s__VALUES : Addr} {s_HITS : Addr} {s_RESULTS : Addr} {s_VALIDATE : Addr} {s_HITS_name : Addr} {s_RESULTS_name : Addr} {s_VALIDATE_name : Addr} {s_HITS_name_value : Addr} {s_RESULTS_name_value : Addr} {s_VALIDATE_name_value : Addr} {s_DEFAULTCAPACITY_EMPTY_ELEMENTDATA : Addr} {s_COMPACT_STRINGS : Int32} {cl_s__VALUES : Cell} {cl_s_HITS_name_value : Cell} {cl_s_RESULTS_name_value : Cell} {cl_s_VALIDATE_name_value : Cell} {cl_s_DEFAULTCAPACITY_EMPTY_ELEMENTDATA : Cell} (hw : ∀ d ∈ tables_1, d.before a0 Z = true) (G : own_Ctx Z s__VALUES s_HITS s_RESULTS s_VALIDATE s_HITS_name s_RESULTS_name s_VALIDATE_name s_HITS_name_value s_RESULTS_name_value s_VALIDATE_name_value s_DEFAULTCAPACITY_EMPTY_ELEMENTDATA s_COMPACT_STRINGS cl_s__VALUES cl_s_HITS_name_value cl_s_RESULTS_name_value cl_s_VALIDATE_name_value cl_s_DEFAULTCAPACITY_EMPTY_ELEMENTDATA)   (h0 : Heap) (O0 : Ext Z.heap h0)  :
    Ok l Z (⟨"java/lang/Math", "max", "(II)I"⟩ : MethodName) jdk_29_method_65_code 2 (some .int) ({ frames := 0, cells := 0, slots := 0, locals := 0 } : Room) #[(.int (10 : Int32)), (.int (1 : Int32))] h0
      (fun v h L => v = some (.int (10 : Int32)) ∧ (h = h0) ∧ (L = [])) := by
  refine Ok.mk pn_java_lang_Math_max__II_I ?_
  intro p e s m below meth c T0 hx hby hml hown hnm hret hlk hZ e0 X0
  refine Go.cast (ef_rm_max m ) ?_
  obtain ⟨S__VALUES, E_s__VALUES, S_HITS, E_s_HITS, S_RESULTS, E_s_RESULTS, S_VALIDATE, E_s_VALIDATE, F_s_HITS_name, E_s_HITS_name, F_s_RESULTS_name, E_s_RESULTS_name, F_s_VALIDATE_name, E_s_VALIDATE_name, F_s_HITS_name_coder, F_s_HITS_name_value, F_s_RESULTS_name_coder, F_s_RESULTS_name_value, F_s_VALIDATE_name_coder, F_s_VALIDATE_name_value, ne_s_HITS_name_s_RESULTS_name, ne_s_HITS_name_s_VALIDATE_name, ne_s_RESULTS_name_s_VALIDATE_name, S_DEFAULTCAPACITY_EMPTY_ELEMENTDATA, E_s_DEFAULTCAPACITY_EMPTY_ELEMENTDATA, S_COMPACT_STRINGS, hne_s_COMPACT_STRINGS_0, V_s__VALUES, V_s_HITS_name_value, V_s_RESULTS_name_value, V_s_VALIDATE_name_value, V_s_DEFAULTCAPACITY_EMPTY_ELEMENTDATA⟩ := id G
  have N0 := Fr.nil Z.heap.size
  have K0 : Keep h0 h0 [] := Keep.refl _ _
  refine Go.of (T' := T0) (f' := (mkF m 1 #[.val (.int (10 : Int32)), .val (.int (1 : Int32))] [(.int (10 : Int32))])) (fun _ k => XS.iloadN X0.here hx rfl (hb hby d_jdk_29_method_65_code_0) rfl k) ?_
  refine Go.of (T' := T0) (f' := (mkF m 2 #[.val (.int (10 : Int32)), .val (.int (1 : Int32))] [(.int (1 : Int32)), (.int (10 : Int32))])) (fun _ k => XS.iloadN X0.here hx rfl (hb hby d_jdk_29_method_65_code_1) rfl k) ?_
  refine Go.of (T' := T0) (f' := (mkF m 5 #[.val (.int (10 : Int32)), .val (.int (1 : Int32))] [])) (fun _ k => XS.icmpNo X0.here hx rfl (hb hby d_jdk_29_method_65_code_2) rfl (flt (by decide : ¬ ((10 : Int32) < (1 : Int32)))).1 k) ?_
  refine Go.of (T' := T0) (f' := (mkF m 6 #[.val (.int (10 : Int32)), .val (.int (1 : Int32))] [(.int (10 : Int32))])) (fun _ k => XS.iloadN X0.here hx rfl (hb hby d_jdk_29_method_65_code_5) rfl k) ?_
  refine Go.of (T' := T0) (f' := (mkF m 10 #[.val (.int (10 : Int32)), .val (.int (1 : Int32))] [(.int (10 : Int32))])) (fun _ k => XS.goto X0.here hx rfl (pc0 := 6) (pc' := 10) rfl (hb hby d_jdk_29_method_65_code_6) (by decide) (by decide) k) ?_
  exact Go.retI X0 hx hlk hret (hb hby d_jdk_29_method_65_code_10) (by decide) (by decide) (by rw [e0]; exact ⟨rfl, rfl, by simp⟩)
theorem d_jdk_38_method_6_code_0 : decode jdk_38_method_6_code 0 = .ok (.aload_n 0, 1) := by decide +kernel
theorem d_jdk_38_method_6_code_1 : decode jdk_38_method_6_code 1 = .ok (.getfield 9, 3) := by decide +kernel
theorem d_jdk_38_method_6_code_4 : decode jdk_38_method_6_code 4 = .ok (.arraylength, 1) := by decide +kernel
theorem d_jdk_38_method_6_code_5 : decode jdk_38_method_6_code 5 = .ok (.istore_n 2, 1) := by decide +kernel
theorem d_jdk_38_method_6_code_6 : decode jdk_38_method_6_code 6 = .ok (.iload_n 2, 1) := by decide +kernel
theorem d_jdk_38_method_6_code_7 : decode jdk_38_method_6_code 7 = .ok (.ifCond .gt 13, 3) := by decide +kernel
theorem d_jdk_38_method_6_code_10 : decode jdk_38_method_6_code 10 = .ok (.aload_n 0, 1) := by decide +kernel
theorem d_jdk_38_method_6_code_11 : decode jdk_38_method_6_code 11 = .ok (.getfield 9, 3) := by decide +kernel
theorem d_jdk_38_method_6_code_14 : decode jdk_38_method_6_code 14 = .ok (.getstatic 39, 3) := by decide +kernel
theorem d_jdk_38_method_6_code_17 : decode jdk_38_method_6_code 17 = .ok (.if_acmp .eq 28, 3) := by decide +kernel
theorem d_jdk_38_method_6_code_45 : decode jdk_38_method_6_code 45 = .ok (.aload_n 0, 1) := by decide +kernel
theorem d_jdk_38_method_6_code_46 : decode jdk_38_method_6_code 46 = .ok (.bipush 10, 2) := by decide +kernel
theorem d_jdk_38_method_6_code_48 : decode jdk_38_method_6_code 48 = .ok (.iload_n 1, 1) := by decide +kernel
theorem d_jdk_38_method_6_code_49 : decode jdk_38_method_6_code 49 = .ok (.invokestatic 79, 3) := by decide +kernel
theorem pd__II_I : parseMethodDescriptor "(II)I" = some ⟨[.int, .int], some .int⟩ := by decide +kernel
theorem d_jdk_38_method_6_code_52 : decode jdk_38_method_6_code 52 = .ok (.anewarray 7, 3) := by decide +kernel
theorem d_jdk_38_method_6_code_55 : decode jdk_38_method_6_code 55 = .ok (.dup_x1, 1) := by decide +kernel
theorem d_jdk_38_method_6_code_56 : decode jdk_38_method_6_code 56 = .ok (.putfield 9, 3) := by decide +kernel
theorem d_jdk_38_method_6_code_59 : decode jdk_38_method_6_code 59 = .ok (.areturn, 1) := by decide +kernel
theorem ef_rm_grow1 (m : MethodId) (ob : Addr) : entryFrame m #[(.ref ob), (.int (1 : Int32))] 4 = mkF m 0 #[.val (.ref ob), .val (.int (1 : Int32)), .unset, .unset] [] := by first | (simp [entryFrame, mkF, argsToLocals, Value.category]; done) | rfl
theorem pn_java_util_ArrayList_grow__I__Ljava_lang_Object_ : plainFor (⟨"java/util/ArrayList", "grow", "(I)[Ljava/lang/Object;"⟩ : MethodName) = true := by first | exact plainFor_of_name (by first | (simp [plainName, overriddenIn]; done) | decide +kernel) | decide +kernel
set_option maxRecDepth 65536 in
set_option maxHeartbeats 40000000 in
theorem rm_grow1 {l : Launch} {Z : State} {a0 : Array Value} {s__VALUES : Addr} {s_HITS : Addr} {s_RESULTS : Addr} {s_VALIDATE : Addr} {s_HITS_name : Addr} {s_RESULTS_name : Addr} {s_VALIDATE_name : Addr} {s_HITS_name_value : Addr} {s_RESULTS_name_value : Addr} {s_VALIDATE_name_value : Addr} {s_DEFAULTCAPACITY_EMPTY_ELEMENTDATA : Addr} {s_COMPACT_STRINGS : Int32} {cl_s__VALUES : Cell} {cl_s_HITS_name_value : Cell} {cl_s_RESULTS_name_value : Cell} {cl_s_VALIDATE_name_value : Cell} {cl_s_DEFAULTCAPACITY_EMPTY_ELEMENTDATA : Cell} (hw : ∀ d ∈ tables_1, d.before a0 Z = true) (G : own_Ctx Z s__VALUES s_HITS s_RESULTS s_VALIDATE s_HITS_name s_RESULTS_name s_VALIDATE_name s_HITS_name_value s_RESULTS_name_value s_VALIDATE_name_value s_DEFAULTCAPACITY_EMPTY_ELEMENTDATA s_COMPACT_STRINGS cl_s__VALUES cl_s_HITS_name_value cl_s_RESULTS_name_value cl_s_VALIDATE_name_value cl_s_DEFAULTCAPACITY_EMPTY_ELEMENTDATA) (ob : Addr) (mc : Int32) (h0 : Heap) (O0 : Ext Z.heap h0) (prem0 : Exa Z h0 ob "java/util/ArrayList") (prem1 : Fld Z h0 ob "java/util/AbstractList" "modCount" "I" (.int mc)) (prem2 : Fld Z h0 ob "java/util/ArrayList" "size" "I" (.int (0 : Int32))) (prem3 : Fld Z h0 ob "java/util/ArrayList" "elementData" "[Ljava/lang/Object;" (.ref s_DEFAULTCAPACITY_EMPTY_ELEMENTDATA)) (prem4 : Z.heap.size ≤ ob) :
    Ok l Z (⟨"java/util/ArrayList", "grow", "(I)[Ljava/lang/Object;"⟩ : MethodName) jdk_38_method_6_code 4 (some (.array (.object "java/lang/Object"))) ({ frames := 1, cells := 1, slots := 10, locals := 14 } : Room) #[(.ref ob), (.int (1 : Int32))] h0
      (fun v h L => ∃ ar : Addr, ∃ kr : ClassId, v = some (.ref ar) ∧ (Fr Z.heap.size L) ∧ (Keep h0 h [ob]) ∧ (h0.size ≤ ar) ∧ (Arv Z h ar kr (.object "java/lang/Object") (10 : Int32) [.null, .null, .null, .null, .null, .null, .null, .null, .null, .null] .null) ∧ (Exa Z h ar "[Ljava/lang/Object;") ∧ (Ovr Z kr "java/lang/Object") ∧ (Fld Z h ob "java/util/AbstractList" "modCount" "I" (.int mc)) ∧ (Fld Z h ob "java/util/ArrayList" "size" "I" (.int (0 : Int32))) ∧ (Fld Z h ob "java/util/ArrayList" "elementData" "[Ljava/lang/Object;" (.ref ar))) := by
  refine Ok.mk pn_java_util_ArrayList_grow__I__Ljava_lang_Object_ ?_
  intro p e s m below meth c T0 hx hby hml hown hnm hret hlk hZ e0 X0
  refine Go.cast (ef_rm_grow1 m ob) ?_
  obtain ⟨S__VALUES, E_s__VALUES, S_HITS, E_s_HITS, S_RESULTS, E_s_RESULTS, S_VALIDATE, E_s_VALIDATE, F_s_HITS_name, E_s_HITS_name, F_s_RESULTS_name, E_s_RESULTS_name, F_s_VALIDATE_name, E_s_VALIDATE_name, F_s_HITS_name_coder, F_s_HITS_name_value, F_s_RESULTS_name_coder, F_s_RESULTS_name_value, F_s_VALIDATE_name_coder, F_s_VALIDATE_name_value, ne_s_HITS_name_s_RESULTS_name, ne_s_HITS_name_s_VALIDATE_name, ne_s_RESULTS_name_s_VALIDATE_name, S_DEFAULTCAPACITY_EMPTY_ELEMENTDATA, E_s_DEFAULTCAPACITY_EMPTY_ELEMENTDATA, S_COMPACT_STRINGS, hne_s_COMPACT_STRINGS_0, V_s__VALUES, V_s_HITS_name_value, V_s_RESULTS_name_value, V_s_VALIDATE_name_value, V_s_DEFAULTCAPACITY_EMPTY_ELEMENTDATA⟩ := id G
  have N0 := Fr.nil Z.heap.size
  have K0 : Keep h0 h0 [ob] := Keep.refl _ _
  refine Go.of (T' := T0) (f' := (mkF m 1 #[.val (.ref ob), .val (.int (1 : Int32)), .unset, .unset] [(.ref ob)])) (fun _ k => XS.aloadN X0.here hx rfl (hb hby d_jdk_38_method_6_code_0) rfl rfl k) ?_
  obtain ⟨T16, X16, e16, st16⟩ := getF X0 hx hZ hown (host := "") (Or.inl (hw _ (List.mem_of_getElem? (i := 28) rfl))) Via.refl e0 prem3 (g := (mkF m 1 #[.val (.ref ob), .val (.int (1 : Int32)), .unset, .unset] [(.ref ob)])) rfl rfl (hb hby d_jdk_38_method_6_code_1)
  refine Go.of (T' := T16) (f' := (mkF m 4 #[.val (.ref ob), .val (.int (1 : Int32)), .unset, .unset] [(.ref s_DEFAULTCAPACITY_EMPTY_ELEMENTDATA)])) (fun _ k => st16 _ k) ?_
  obtain ⟨cl17, Ar17, qk17, S17, Ng17, H17, G17⟩ := id (Arv.ext V_s_DEFAULTCAPACITY_EMPTY_ELEMENTDATA O0)
  refine Go.of (T' := T16) (f' := (mkF m 5 #[.val (.ref ob), .val (.int (1 : Int32)), .unset, .unset] [(.int (0 : Int32))])) (fun _ k => X16.arraylength hx (by rw [e16]; exact Ar17.1) (State.isArrayOf_alike hZ.alike Ar17.2.1) (g := (mkF m 4 #[.val (.ref ob), .val (.int (1 : Int32)), .unset, .unset] [(.ref s_DEFAULTCAPACITY_EMPTY_ELEMENTDATA)])) rfl rfl (hb hby d_jdk_38_method_6_code_4) _ (by rw [len_of S17 Ng17]; exact k)) ?_
  refine Go.of (T' := T16) (f' := (mkF m 6 #[.val (.ref ob), .val (.int (1 : Int32)), .val (.int (0 : Int32)), .unset] [])) (fun _ k => XS.istoreN X16.here hx rfl (hb hby d_jdk_38_method_6_code_5) rfl (l' := #[.val (.ref ob), .val (.int (1 : Int32)), .val (.int (0 : Int32)), .unset]) rfl k) ?_
  refine Go.of (T' := T16) (f' := (mkF m 7 #[.val (.ref ob), .val (.int (1 : Int32)), .val (.int (0 : Int32)), .unset] [(.int (0 : Int32))])) (fun _ k => XS.iloadN X16.here hx rfl (hb hby d_jdk_38_method_6_code_6) rfl k) ?_
  refine Go.of (T' := T16) (f' := (mkF m 10 #[.val (.ref ob), .val (.int (1 : Int32)), .val (.int (0 : Int32)), .unset] [])) (fun _ k => XS.ifNo X16.here hx rfl (hb hby d_jdk_38_method_6_code_7) rfl ((if0 _ _).trans (flt (by decide : ¬ ((0 : Int32) < (0 : Int32)))).2.2.1) k) ?_
  refine Go.of (T' := T16) (f' := (mkF m 11 #[.val (.ref ob), .val (.int (1 : Int32)), .val (.int (0 : Int32)), .unset] [(.ref ob)])) (fun _ k => XS.aloadN X16.here hx rfl (hb hby d_jdk_38_method_6_code_10) rfl rfl k) ?_
  obtain ⟨T19, X19, e19, st19⟩ := getF X16 hx hZ hown (host := "") (Or.inl (hw _ (List.mem_of_getElem? (i := 28) rfl))) Via.refl e16 prem3 (g := (mkF m 11 #[.val (.ref ob), .val (.int (1 : Int32)), .val (.int (0 : Int32)), .unset] [(.ref ob)])) rfl rfl (hb hby d_jdk_38_method_6_code_11)
  refine Go.of (T' := T19) (f' := (mkF m 14 #[.val (.ref ob), .val (.int (1 : Int32)), .val (.int (0 : Int32)), .unset] [(.ref s_DEFAULTCAPACITY_EMPTY_ELEMENTDATA)])) (fun _ k => st19 _ k) ?_
  obtain ⟨T20, X20, e20, st20⟩ := getS2 X19 hx hZ hown (host := "") (Or.inl (hw _ (List.mem_of_getElem? (i := 27) rfl))) Via.refl e19 (Sta.ext O0 S_DEFAULTCAPACITY_EMPTY_ELEMENTDATA) (g := (mkF m 14 #[.val (.ref ob), .val (.int (1 : Int32)), .val (.int (0 : Int32)), .unset] [(.ref s_DEFAULTCAPACITY_EMPTY_ELEMENTDATA)])) rfl (hb hby d_jdk_38_method_6_code_14)
  refine Go.of (T' := T20) (f' := (mkF m 17 #[.val (.ref ob), .val (.int (1 : Int32)), .val (.int (0 : Int32)), .unset] [(.ref s_DEFAULTCAPACITY_EMPTY_ELEMENTDATA), (.ref s_DEFAULTCAPACITY_EMPTY_ELEMENTDATA)])) (fun _ k => st20 _ k) ?_
  refine Go.of (T' := T20) (f' := (mkF m 45 #[.val (.ref ob), .val (.int (1 : Int32)), .val (.int (0 : Int32)), .unset] [])) (fun _ k => Jvm.RoadKit.acmp (g := (mkF m 17 #[.val (.ref ob), .val (.int (1 : Int32)), .val (.int (0 : Int32)), .unset] [(.ref s_DEFAULTCAPACITY_EMPTY_ELEMENTDATA), (.ref s_DEFAULTCAPACITY_EMPTY_ELEMENTDATA)])) X20 hx rfl rfl rfl (pc0 := 17) (pc' := 45) (same := true) rfl (hb hby d_jdk_38_method_6_code_17) rfl (decide_eq_true rfl) (by decide) (by decide) k) ?_
  refine Go.of (T' := T20) (f' := (mkF m 46 #[.val (.ref ob), .val (.int (1 : Int32)), .val (.int (0 : Int32)), .unset] [(.ref ob)])) (fun _ k => XS.aloadN X20.here hx rfl (hb hby d_jdk_38_method_6_code_45) rfl rfl k) ?_
  refine Go.of (T' := T20) (f' := (mkF m 48 #[.val (.ref ob), .val (.int (1 : Int32)), .val (.int (0 : Int32)), .unset] [(.int (10 : Int32)), (.ref ob)])) (fun _ k => XS.bipush X20.here hx rfl (hb hby d_jdk_38_method_6_code_46) k) ?_
  refine Go.of (T' := T20) (f' := (mkF m 49 #[.val (.ref ob), .val (.int (1 : Int32)), .val (.int (0 : Int32)), .unset] [(.int (1 : Int32)), (.int (10 : Int32)), (.ref ob)])) (fun _ k => XS.iloadN X20.here hx rfl (hb hby d_jdk_38_method_6_code_48) rfl k) ?_
  obtain ⟨T22, v22, L22, X22, q22, st22⟩ := callSt X20 hx hZ (y := (⟨"java/lang/Math", "max", "(II)I"⟩ : MethodName)) hown (hw _ (List.mem_of_getElem? (i := 78) rfl)) (hw _ (List.mem_of_getElem? (i := 79) rfl)) (hw _ (List.mem_of_getElem? (i := 80) rfl)) (hw _ (List.mem_of_getElem? (i := 81) rfl)) (by decide) (rm_max hw G   h0 O0 ) e20 (W := 1) (by decide) (by decide) (by decide) (by decide) (g := (mkF m 49 #[.val (.ref ob), .val (.int (1 : Int32)), .val (.int (0 : Int32)), .unset] [(.int (1 : Int32)), (.int (10 : Int32)), (.ref ob)])) rfl (by rw [hml]; rfl) (argsL := [(.int (10 : Int32)), (.int (1 : Int32))]) (rest := [(.ref ob)]) (lenOf pd__II_I rfl) rfl rfl (by show 2 * 0 + _ ≤ _; exact Nat.le_of_eq rfl) (hb hby d_jdk_38_method_6_code_49)
  obtain ⟨rfl, e22, rfl⟩ := q22
  have N22 := Fr.app N0 (Fr.nil _)
  refine Go.of (T' := T22) (f' := (mkF m 52 #[.val (.ref ob), .val (.int (1 : Int32)), .val (.int (0 : Int32)), .unset] [(.int (10 : Int32)), (.ref ob)])) (fun _ k => st22 _ k) ?_
  obtain ⟨T23, h23, k23, b23, q23, X23, e23, E23, V23, A23, ov_b23, st23⟩ := newRr X22 hx hZ hown (hw _ (List.mem_of_getElem? (i := 82) rfl)) (hw _ (List.mem_of_getElem? (i := 83) rfl)) e22 (g := (mkF m 52 #[.val (.ref ob), .val (.int (1 : Int32)), .val (.int (0 : Int32)), .unset] [(.int (10 : Int32)), (.ref ob)])) rfl (hb hby d_jdk_38_method_6_code_52) rfl (by decide) (cap := 10) (by decide) (by decide) (by decide) (by decide) (ad := "[Ljava/lang/Object;") (by decide)
  have O24 := Old0.ext O0 E23
  have K24 := Keep.ext K0 E23
  have g_b23 : Z.heap.size ≤ b23 := q23 ▸ O0.1
  have z_b23 : h0.size ≤ b23 := q23 ▸ K0.1
  have ne_ob_b23 : ob ≠ b23 := q23 ▸ Nat.ne_of_lt prem0.lt
  have f25 : Arv Z h23 b23 k23 (.object "java/lang/Object") (10 : Int32) [.null, .null, .null, .null, .null, .null, .null, .null, .null, .null] .null := Arv.pad V23 (pad_rep [] .null 10)
  refine Go.of (T' := T23) (f' := (mkF m 55 #[.val (.ref ob), .val (.int (1 : Int32)), .val (.int (0 : Int32)), .unset] [(.ref b23), (.ref ob)])) (fun _ k => st23 _ k) ?_
  refine Go.of (T' := T23) (f' := (mkF m 56 #[.val (.ref ob), .val (.int (1 : Int32)), .val (.int (0 : Int32)), .unset] [(.ref b23), (.ref ob), (.ref b23)])) (fun _ k => XT.dupX1 X23.here hx rfl (hb hby d_jdk_38_method_6_code_55) rfl rfl rfl k) ?_
  have f27 : Exa Z h23 ob "java/util/ArrayList" := (Exa.ext E23 prem0)
  have f28 : Fld Z h23 ob "java/util/ArrayList" "elementData" "[Ljava/lang/Object;" (.ref s_DEFAULTCAPACITY_EMPTY_ELEMENTDATA) := (Fld.ext E23 prem3)
  obtain ⟨T26, h26, X26, e26, W26, st26⟩ := putF X23 hx hZ hown (host := "") (Or.inl (hw _ (List.mem_of_getElem? (i := 28) rfl))) Via.refl e23 f28 f27 (Or.inl (hw _ (List.mem_of_getElem? (i := 29) rfl))) (hw _ (List.mem_of_getElem? (i := 5) rfl)) (ty := (.array (.object "java/lang/Object"))) (by decide) rfl rfl (g := (mkF m 56 #[.val (.ref ob), .val (.int (1 : Int32)), .val (.int (0 : Int32)), .unset] [(.ref b23), (.ref ob), (.ref b23)])) rfl rfl (hb hby d_jdk_38_method_6_code_56)
  have O29 := Old0.wr O24 W26 prem4
  have K29 := Keep.wr K24 W26 (Or.inl (List.mem_of_getElem? (i := 0) rfl))
  have N26 := Fr.snoc X26 N22 prem4
  have f26 : Fld Z h26 ob "java/util/ArrayList" "elementData" "[Ljava/lang/Object;" (.ref b23) := Fld.same W26 f28
  refine Go.of (T' := T26) (f' := (mkF m 59 #[.val (.ref ob), .val (.int (1 : Int32)), .val (.int (0 : Int32)), .unset] [(.ref b23)])) (fun _ k => st26 _ k) ?_
  have f30 : Arv Z h26 b23 k23 (.object "java/lang/Object") (10 : Int32) [.null, .null, .null, .null, .null, .null, .null, .null, .null, .null] .null := (Arv.other f25 W26 (Ne.symm ne_ob_b23))
  have f31 : Exa Z h26 b23 "[Ljava/lang/Object;" := (Exa.wr W26 A23)
  have f32 : Fld Z h26 ob "java/util/AbstractList" "modCount" "I" (.int mc) := (Fld.other W26 (Fld.ext E23 prem1) (Or.inr (slot_ne (Or.inl (hw _ (List.mem_of_getElem? (i := 26) rfl))) (Or.inl (hw _ (List.mem_of_getElem? (i := 29) rfl))) (by decide) (t := .int) (t' := (.array (.object "java/lang/Object"))) (by decide) (by decide))))
  have f33 : Fld Z h26 ob "java/util/ArrayList" "size" "I" (.int (0 : Int32)) := (Fld.other W26 (Fld.ext E23 prem2) (Or.inr (slot_ne (Or.inl (hw _ (List.mem_of_getElem? (i := 62) rfl))) (Or.inl (hw _ (List.mem_of_getElem? (i := 29) rfl))) (by decide) (t := .int) (t' := (.array (.object "java/lang/Object"))) (by decide) (by decide))))
  exact Go.retA X26 hx hlk hret rfl rfl (hb hby d_jdk_38_method_6_code_59) (by decide) (by decide) (by rw [e26]; exact ⟨b23, k23, rfl, N26, K29, z_b23, f30, f31, ov_b23, f32, f33, f26⟩)
theorem d_jdk_38_method_7_code_0 : decode jdk_38_method_7_code 0 = .ok (.aload_n 0, 1) := by decide +kernel
theorem d_jdk_38_method_7_code_1 : decode jdk_38_method_7_code 1 = .ok (.aload_n 0, 1) := by decide +kernel
theorem d_jdk_38_method_7_code_2 : decode jdk_38_method_7_code 2 = .ok (.getfield 48, 3) := by decide +kernel
theorem d_jdk_38_method_7_code_5 : decode jdk_38_method_7_code 5 = .ok (.iconst 1, 1) := by decide +kernel
theorem d_jdk_38_method_7_code_6 : decode jdk_38_method_7_code 6 = .ok (.iadd, 1) := by decide +kernel
theorem d_jdk_38_method_7_code_7 : decode jdk_38_method_7_code 7 = .ok (.invokevirtual 69, 3) := by decide +kernel
theorem pd__I__Ljava_lang_Object_ : parseMethodDescriptor "(I)[Ljava/lang/Object;" = some ⟨[.int], some (.array (.object "java/lang/Object"))⟩ := by decide +kernel
theorem d_jdk_38_method_7_code_10 : decode jdk_38_method_7_code 10 = .ok (.areturn, 1) := by decide +kernel
theorem ef_rm_grow0 (m : MethodId) (ob : Addr) : entryFrame m #[(.ref ob)] 1 = mkF m 0 #[.val (.ref ob)] [] := by first | (simp [entryFrame, mkF, argsToLocals, Value.category]; done) | rfl
theorem pn_java_util_ArrayList_grow____Ljava_lang_Object_ : plainFor (⟨"java/util/ArrayList", "grow", "()[Ljava/lang/Object;"⟩ : MethodName) = true := by first | exact plainFor_of_name (by first | (simp [plainName, overriddenIn]; done) | decide +kernel) | decide +kernel
set_option maxRecDepth 65536 in
set_option maxHeartbeats 40000000 in
theorem rm_grow0 {l : Launch} {Z : State} {a0 : Array Value} {s__VALUES : Addr} {s_HITS : Addr} {s_RESULTS : Addr} {s_VALIDATE : Addr} {s_HITS_name : Addr} {s_RESULTS_name : Addr} {s_VALIDATE_name : Addr} {s_HITS_name_value : Addr} {s_RESULTS_name_value : Addr} {s_VALIDATE_name_value : Addr} {s_DEFAULTCAPACITY_EMPTY_ELEMENTDATA : Addr} {s_COMPACT_STRINGS : Int32} {cl_s__VALUES : Cell} {cl_s_HITS_name_value : Cell} {cl_s_RESULTS_name_value : Cell} {cl_s_VALIDATE_name_value : Cell} {cl_s_DEFAULTCAPACITY_EMPTY_ELEMENTDATA : Cell} (hw : ∀ d ∈ tables_1, d.before a0 Z = true) (G : own_Ctx Z s__VALUES s_HITS s_RESULTS s_VALIDATE s_HITS_name s_RESULTS_name s_VALIDATE_name s_HITS_name_value s_RESULTS_name_value s_VALIDATE_name_value s_DEFAULTCAPACITY_EMPTY_ELEMENTDATA s_COMPACT_STRINGS cl_s__VALUES cl_s_HITS_name_value cl_s_RESULTS_name_value cl_s_VALIDATE_name_value cl_s_DEFAULTCAPACITY_EMPTY_ELEMENTDATA) (ob : Addr) (mc : Int32) (h0 : Heap) (O0 : Ext Z.heap h0) (prem0 : Exa Z h0 ob "java/util/ArrayList") (prem1 : Fld Z h0 ob "java/util/AbstractList" "modCount" "I" (.int mc)) (prem2 : Fld Z h0 ob "java/util/ArrayList" "size" "I" (.int (0 : Int32))) (prem3 : Fld Z h0 ob "java/util/ArrayList" "elementData" "[Ljava/lang/Object;" (.ref s_DEFAULTCAPACITY_EMPTY_ELEMENTDATA)) (prem4 : Z.heap.size ≤ ob) :
    Ok l Z (⟨"java/util/ArrayList", "grow", "()[Ljava/lang/Object;"⟩ : MethodName) jdk_38_method_7_code 1 (some (.array (.object "java/lang/Object"))) ({ frames := 2, cells := 1, slots := 10, locals := 29 } : Room) #[(.ref ob)] h0
      (fun v h L => ∃ ar : Addr, ∃ kr : ClassId, v = some (.ref ar) ∧ (Fr Z.heap.size L) ∧ (Keep h0 h [ob]) ∧ (h0.size ≤ ar) ∧ (Arv Z h ar kr (.object "java/lang/Object") (10 : Int32) [.null, .null, .null, .null, .null, .null, .null, .null, .null, .null] .null) ∧ (Exa Z h ar "[Ljava/lang/Object;") ∧ (Ovr Z kr "java/lang/Object") ∧ (Fld Z h ob "java/util/AbstractList" "modCount" "I" (.int mc)) ∧ (Fld Z h ob "java/util/ArrayList" "size" "I" (.int (0 : Int32))) ∧ (Fld Z h ob "java/util/ArrayList" "elementData" "[Ljava/lang/Object;" (.ref ar))) := by
  refine Ok.mk pn_java_util_ArrayList_grow____Ljava_lang_Object_ ?_
  intro p e s m below meth c T0 hx hby hml hown hnm hret hlk hZ e0 X0
  refine Go.cast (ef_rm_grow0 m ob) ?_
  obtain ⟨S__VALUES, E_s__VALUES, S_HITS, E_s_HITS, S_RESULTS, E_s_RESULTS, S_VALIDATE, E_s_VALIDATE, F_s_HITS_name, E_s_HITS_name, F_s_RESULTS_name, E_s_RESULTS_name, F_s_VALIDATE_name, E_s_VALIDATE_name, F_s_HITS_name_coder, F_s_HITS_name_value, F_s_RESULTS_name_coder, F_s_RESULTS_name_value, F_s_VALIDATE_name_coder, F_s_VALIDATE_name_value, ne_s_HITS_name_s_RESULTS_name, ne_s_HITS_name_s_VALIDATE_name, ne_s_RESULTS_name_s_VALIDATE_name, S_DEFAULTCAPACITY_EMPTY_ELEMENTDATA, E_s_DEFAULTCAPACITY_EMPTY_ELEMENTDATA, S_COMPACT_STRINGS, hne_s_COMPACT_STRINGS_0, V_s__VALUES, V_s_HITS_name_value, V_s_RESULTS_name_value, V_s_VALIDATE_name_value, V_s_DEFAULTCAPACITY_EMPTY_ELEMENTDATA⟩ := id G
  have N0 := Fr.nil Z.heap.size
  have K0 : Keep h0 h0 [ob] := Keep.refl _ _
  refine Go.of (T' := T0) (f' := (mkF m 1 #[.val (.ref ob)] [(.ref ob)])) (fun _ k => XS.aloadN X0.here hx rfl (hb hby d_jdk_38_method_7_code_0) rfl rfl k) ?_
  refine Go.of (T' := T0) (f' := (mkF m 2 #[.val (.ref ob)] [(.ref ob), (.ref ob)])) (fun _ k => XS.aloadN X0.here hx rfl (hb hby d_jdk_38_method_7_code_1) rfl rfl k) ?_
  obtain ⟨T34, X34, e34, st34⟩ := getF X0 hx hZ hown (host := "") (Or.inl (hw _ (List.mem_of_getElem? (i := 61) rfl))) Via.refl e0 prem2 (g := (mkF m 2 #[.val (.ref ob)] [(.ref ob), (.ref ob)])) rfl rfl (hb hby d_jdk_38_method_7_code_2)
  refine Go.of (T' := T34) (f' := (mkF m 5 #[.val (.ref ob)] [(.int (0 : Int32)), (.ref ob)])) (fun _ k => st34 _ k) ?_
  refine Go.of (T' := T34) (f' := (mkF m 6 #[.val (.ref ob)] [(.int (1 : Int32)), (.int (0 : Int32)), (.ref ob)])) (fun _ k => XS.iconst X34.here hx rfl (hb hby d_jdk_38_method_7_code_5) k) ?_
  refine Go.of (T' := T34) (f' := (mkF m 7 #[.val (.ref ob)] [(.int (1 : Int32)), (.ref ob)])) (fun _ k => XS.iadd X34.here hx rfl (hb hby d_jdk_38_method_7_code_6) rfl k) ?_
  obtain ⟨T35, v35, L35, X35, q35, st35⟩ := callPr X34 hx hZ (y := (⟨"java/util/ArrayList", "grow", "(I)[Ljava/lang/Object;"⟩ : MethodName)) hown (hw _ (List.mem_of_getElem? (i := 73) rfl)) (hw _ (List.mem_of_getElem? (i := 74) rfl)) (hw _ (List.mem_of_getElem? (i := 76) rfl)) (hw _ (List.mem_of_getElem? (i := 75) rfl)) (hw _ (List.mem_of_getElem? (i := 6) rfl)) (hw _ (List.mem_of_getElem? (i := 77) rfl)) (by decide) (rm_grow1 hw G ob mc h0 O0 prem0 prem1 prem2 prem3 prem4) e34 (W := 0) (by decide) (by decide) (by decide) (by decide) prem0 (g := (mkF m 7 #[.val (.ref ob)] [(.int (1 : Int32)), (.ref ob)])) rfl (by rw [hml]; rfl) (a := ob) (argsL := [(.int (1 : Int32))]) (rest := []) (lenOf pd__I__Ljava_lang_Object_ rfl) rfl rfl (by show 2 * 0 + _ ≤ _; exact Nat.le_of_eq rfl) (hb hby d_jdk_38_method_7_code_7)
  obtain ⟨ar_35, kr_35, rfl, N35q, K35q, p35_0, p35_1, p35_2, p35_3, p35_4, p35_5, p35_6⟩ := q35
  have N35 := Fr.app N0 N35q
  have O36 := Old0.keep O0 K35q (allS prem4 all0)
  have K36 := Keep.trans K0 K35q (allS (Or.inl (List.mem_of_getElem? (i := 0) rfl)) all0)
  have z_ar_35 : h0.size ≤ ar_35 := Nat.le_trans K0.1 p35_0
  have g_ar_35 : Z.heap.size ≤ ar_35 := Nat.le_trans O0.1 p35_0
  have ne_ob_ar_35 : ob ≠ ar_35 := Nat.ne_of_lt (Nat.lt_of_lt_of_le prem0.lt p35_0)
  refine Go.of (T' := T35) (f' := (mkF m 10 #[.val (.ref ob)] [(.ref ar_35)])) (fun _ k => st35 _ k) ?_
  exact Go.retA X35 hx hlk hret rfl rfl (hb hby d_jdk_38_method_7_code_10) (by decide) (by decide) ⟨ar_35, kr_35, rfl, N35, K36, z_ar_35, p35_1, p35_2, p35_3, p35_4, p35_5, p35_6⟩
theorem d_jdk_38_method_24_code_0 : decode jdk_38_method_24_code 0 = .ok (.iload_n 3, 1) := by decide +kernel
theorem d_jdk_38_method_24_code_1 : decode jdk_38_method_24_code 1 = .ok (.aload_n 2, 1) := by decide +kernel
theorem d_jdk_38_method_24_code_2 : decode jdk_38_method_24_code 2 = .ok (.arraylength, 1) := by decide +kernel
theorem d_jdk_38_method_24_code_3 : decode jdk_38_method_24_code 3 = .ok (.if_icmp .ne 8, 3) := by decide +kernel
theorem d_jdk_38_method_24_code_6 : decode jdk_38_method_24_code 6 = .ok (.aload_n 0, 1) := by decide +kernel
theorem d_jdk_38_method_24_code_7 : decode jdk_38_method_24_code 7 = .ok (.invokevirtual 129, 3) := by decide +kernel
theorem pd____Ljava_lang_Object_ : parseMethodDescriptor "()[Ljava/lang/Object;" = some ⟨[], some (.array (.object "java/lang/Object"))⟩ := by decide +kernel
theorem d_jdk_38_method_24_code_10 : decode jdk_38_method_24_code 10 = .ok (.astore_n 2, 1) := by decide +kernel
theorem d_jdk_38_method_24_code_11 : decode jdk_38_method_24_code 11 = .ok (.aload_n 2, 1) := by decide +kernel
theorem d_jdk_38_method_24_code_12 : decode jdk_38_method_24_code 12 = .ok (.iload_n 3, 1) := by decide +kernel
theorem d_jdk_38_method_24_code_13 : decode jdk_38_method_24_code 13 = .ok (.aload_n 1, 1) := by decide +kernel
theorem d_jdk_38_method_24_code_14 : decode jdk_38_method_24_code 14 = .ok (.aastore, 1) := by decide +kernel
theorem d_jdk_38_method_24_code_15 : decode jdk_38_method_24_code 15 = .ok (.aload_n 0, 1) := by decide +kernel
theorem d_jdk_38_method_24_code_16 : decode jdk_38_method_24_code 16 = .ok (.iload_n 3, 1) := by decide +kernel
theorem d_jdk_38_method_24_code_17 : decode jdk_38_method_24_code 17 = .ok (.iconst 1, 1) := by decide +kernel
theorem d_jdk_38_method_24_code_18 : decode jdk_38_method_24_code 18 = .ok (.iadd, 1) := by decide +kernel
theorem d_jdk_38_method_24_code_19 : decode jdk_38_method_24_code 19 = .ok (.putfield 48, 3) := by decide +kernel
theorem d_jdk_38_method_24_code_22 : decode jdk_38_method_24_code 22 = .ok (.return_, 1) := by decide +kernel
theorem ef_rm_add3_0 (m : MethodId) (ob : Addr) (el : Addr) (s_DEFAULTCAPACITY_EMPTY_ELEMENTDATA : Addr) : entryFrame m #[(.ref ob), (.ref el), (.ref s_DEFAULTCAPACITY_EMPTY_ELEMENTDATA), (.int (0 : Int32))] 4 = mkF m 0 #[.val (.ref ob), .val (.ref el), .val (.ref s_DEFAULTCAPACITY_EMPTY_ELEMENTDATA), .val (.int (0 : Int32))] [] := by first | (simp [entryFrame, mkF, argsToLocals, Value.category]; done) | rfl
theorem pn_java_util_ArrayList_add__Ljava_lang_Object__Ljava_lang_Object_I_V : plainFor (⟨"java/util/ArrayList", "add", "(Ljava/lang/Object;[Ljava/lang/Object;I)V"⟩ : MethodName) = true := by first | exact plainFor_of_name (by first | (simp [plainName, overriddenIn]; done) | decide +kernel) | decide +kernel
set_option maxRecDepth 65536 in
set_option maxHeartbeats 40000000 in
theorem rm_add3_0 {l : Launch} {Z : State} {a0 : Array Value} {s__VALUES : Addr} {s_HITS : Addr} {s_RESULTS : Addr} {s_VALIDATE : Addr} {s_HITS_name : Addr} {s_RESULTS_name : Addr} {s_VALIDATE_name : Addr} {s_HITS_name_value : Addr} {s_RESULTS_name_value : Addr} {s_VALIDATE_name_value : Addr} {s_DEFAULTCAPACITY_EMPTY_ELEMENTDATA : Addr} {s_COMPACT_STRINGS : Int32} {cl_s__VALUES : Cell} {cl_s_HITS_name_value : Cell} {cl_s_RESULTS_name_value : Cell} {cl_s_VALIDATE_name_value : Cell} {cl_s_DEFAULTCAPACITY_EMPTY_ELEMENTDATA : Cell} (hw : ∀ d ∈ tables_1, d.before a0 Z = true) (G : own_Ctx Z s__VALUES s_HITS s_RESULTS s_VALIDATE s_HITS_name s_RESULTS_name s_VALIDATE_name s_HITS_name_value s_RESULTS_name_value s_VALIDATE_name_value s_DEFAULTCAPACITY_EMPTY_ELEMENTDATA s_COMPACT_STRINGS cl_s__VALUES cl_s_HITS_name_value cl_s_RESULTS_name_value cl_s_VALIDATE_name_value cl_s_DEFAULTCAPACITY_EMPTY_ELEMENTDATA) (ob : Addr) (el : Addr) (mc : Int32) (h0 : Heap) (O0 : Ext Z.heap h0) (prem0 : Exa Z h0 ob "java/util/ArrayList") (prem1 : Exa Z h0 el "java/lang/String") (prem2 : Fld Z h0 ob "java/util/AbstractList" "modCount" "I" (.int mc)) (prem3 : Fld Z h0 ob "java/util/ArrayList" "size" "I" (.int (0 : Int32))) (prem4 : Fld Z h0 ob "java/util/ArrayList" "elementData" "[Ljava/lang/Object;" (.ref s_DEFAULTCAPACITY_EMPTY_ELEMENTDATA)) (prem5 : Z.heap.size ≤ ob) :
    Ok l Z (⟨"java/util/ArrayList", "add", "(Ljava/lang/Object;[Ljava/lang/Object;I)V"⟩ : MethodName) jdk_38_method_24_code 4 none ({ frames := 3, cells := 1, slots := 10, locals := 41 } : Room) #[(.ref ob), (.ref el), (.ref s_DEFAULTCAPACITY_EMPTY_ELEMENTDATA), (.int (0 : Int32))] h0
      (fun v h L => ∃ ar : Addr, ∃ kr : ClassId, v = none ∧ (Fr Z.heap.size L) ∧ (Keep h0 h [ob]) ∧ (h0.size ≤ ar) ∧ (Arv Z h ar kr (.object "java/lang/Object") (10 : Int32) [(.ref el), .null, .null, .null, .null, .null, .null, .null, .null, .null] .null) ∧ (Exa Z h ar "[Ljava/lang/Object;") ∧ (Ovr Z kr "java/lang/Object") ∧ (Fld Z h ob "java/util/AbstractList" "modCount" "I" (.int mc)) ∧ (Fld Z h ob "java/util/ArrayList" "size" "I" (.int (1 : Int32))) ∧ (Fld Z h ob "java/util/ArrayList" "elementData" "[Ljava/lang/Object;" (.ref ar))) := by
  refine Ok.mk pn_java_util_ArrayList_add__Ljava_lang_Object__Ljava_lang_Object_I_V ?_
  intro p e s m below meth c T0 hx hby hml hown hnm hret hlk hZ e0 X0
  refine Go.cast (ef_rm_add3_0 m ob el s_DEFAULTCAPACITY_EMPTY_ELEMENTDATA) ?_
  obtain ⟨S__VALUES, E_s__VALUES, S_HITS, E_s_HITS, S_RESULTS, E_s_RESULTS, S_VALIDATE, E_s_VALIDATE, F_s_HITS_name, E_s_HITS_name, F_s_RESULTS_name, E_s_RESULTS_name, F_s_VALIDATE_name, E_s_VALIDATE_name, F_s_HITS_name_coder, F_s_HITS_name_value, F_s_RESULTS_name_coder, F_s_RESULTS_name_value, F_s_VALIDATE_name_coder, F_s_VALIDATE_name_value, ne_s_HITS_name_s_RESULTS_name, ne_s_HITS_name_s_VALIDATE_name, ne_s_RESULTS_name_s_VALIDATE_name, S_DEFAULTCAPACITY_EMPTY_ELEMENTDATA, E_s_DEFAULTCAPACITY_EMPTY_ELEMENTDATA, S_COMPACT_STRINGS, hne_s_COMPACT_STRINGS_0, V_s__VALUES, V_s_HITS_name_value, V_s_RESULTS_name_value, V_s_VALIDATE_name_value, V_s_DEFAULTCAPACITY_EMPTY_ELEMENTDATA⟩ := id G
  have N0 := Fr.nil Z.heap.size
  have K0 : Keep h0 h0 [ob] := Keep.refl _ _
  refine Go.of (T' := T0) (f' := (mkF m 1 #[.val (.ref ob), .val (.ref el), .val (.ref s_DEFAULTCAPACITY_EMPTY_ELEMENTDATA), .val (.int (0 : Int32))] [(.int (0 : Int32))])) (fun _ k => XS.iloadN X0.here hx rfl (hb hby d_jdk_38_method_24_code_0) rfl k) ?_
  refine Go.of (T' := T0) (f' := (mkF m 2 #[.val (.ref ob), .val (.ref el), .val (.ref s_DEFAULTCAPACITY_EMPTY_ELEMENTDATA), .val (.int (0 : Int32))] [(.ref s_DEFAULTCAPACITY_EMPTY_ELEMENTDATA), (.int (0 : Int32))])) (fun _ k => XS.aloadN X0.here hx rfl (hb hby d_jdk_38_method_24_code_1) rfl rfl k) ?_
  obtain ⟨cl37, Ar37, qk37, S37, Ng37, H37, G37⟩ := id (Arv.ext V_s_DEFAULTCAPACITY_EMPTY_ELEMENTDATA O0)
  refine Go.of (T' := T0) (f' := (mkF m 3 #[.val (.ref ob), .val (.ref el), .val (.ref s_DEFAULTCAPACITY_EMPTY_ELEMENTDATA), .val (.int (0 : Int32))] [(.int (0 : Int32)), (.int (0 : Int32))])) (fun _ k => X0.arraylength hx (by rw [e0]; exact Ar37.1) (State.isArrayOf_alike hZ.alike Ar37.2.1) (g := (mkF m 2 #[.val (.ref ob), .val (.ref el), .val (.ref s_DEFAULTCAPACITY_EMPTY_ELEMENTDATA), .val (.int (0 : Int32))] [(.ref s_DEFAULTCAPACITY_EMPTY_ELEMENTDATA), (.int (0 : Int32))])) rfl rfl (hb hby d_jdk_38_method_24_code_2) _ (by rw [len_of S37 Ng37]; exact k)) ?_
  refine Go.of (T' := T0) (f' := (mkF m 6 #[.val (.ref ob), .val (.ref el), .val (.ref s_DEFAULTCAPACITY_EMPTY_ELEMENTDATA), .val (.int (0 : Int32))] [])) (fun _ k => XS.icmpNo X0.here hx rfl (hb hby d_jdk_38_method_24_code_3) rfl (teq (by decide : (0 : Int32) = (0 : Int32))).2 k) ?_
  refine Go.of (T' := T0) (f' := (mkF m 7 #[.val (.ref ob), .val (.ref el), .val (.ref s_DEFAULTCAPACITY_EMPTY_ELEMENTDATA), .val (.int (0 : Int32))] [(.ref ob)])) (fun _ k => XS.aloadN X0.here hx rfl (hb hby d_jdk_38_method_24_code_6) rfl rfl k) ?_
  obtain ⟨T39, v39, L39, X39, q39, st39⟩ := callPr X0 hx hZ (y := (⟨"java/util/ArrayList", "grow", "()[Ljava/lang/Object;"⟩ : MethodName)) hown (hw _ (List.mem_of_getElem? (i := 68) rfl)) (hw _ (List.mem_of_getElem? (i := 69) rfl)) (hw _ (List.mem_of_getElem? (i := 71) rfl)) (hw _ (List.mem_of_getElem? (i := 70) rfl)) (hw _ (List.mem_of_getElem? (i := 6) rfl)) (hw _ (List.mem_of_getElem? (i := 72) rfl)) (by decide) (rm_grow0 hw G ob mc h0 O0 prem0 prem2 prem3 prem4 prem5) e0 (W := 0) (by decide) (by decide) (by decide) (by decide) prem0 (g := (mkF m 7 #[.val (.ref ob), .val (.ref el), .val (.ref s_DEFAULTCAPACITY_EMPTY_ELEMENTDATA), .val (.int (0 : Int32))] [(.ref ob)])) rfl (by rw [hml]; rfl) (a := ob) (argsL := []) (rest := []) (lenOf pd____Ljava_lang_Object_ rfl) rfl rfl (by show 2 * 0 + _ ≤ _; exact Nat.le_of_eq rfl) (hb hby d_jdk_38_method_24_code_7)
  obtain ⟨ar_39, kr_39, rfl, N39q, K39q, p39_0, p39_1, p39_2, p39_3, p39_4, p39_5, p39_6⟩ := q39
  have N39 := Fr.app N0 N39q
  have O40 := Old0.keep O0 K39q (allS prem5 all0)
  have K40 := Keep.trans K0 K39q (allS (Or.inl (List.mem_of_getElem? (i := 0) rfl)) all0)
  have z_ar_39 : h0.size ≤ ar_39 := Nat.le_trans K0.1 p39_0
  have g_ar_39 : Z.heap.size ≤ ar_39 := Nat.le_trans O0.1 p39_0
  have ne_ob_ar_39 : ob ≠ ar_39 := Nat.ne_of_lt (Nat.lt_of_lt_of_le prem0.lt p39_0)
  have ne_el_ar_39 : el ≠ ar_39 := Nat.ne_of_lt (Nat.lt_of_lt_of_le prem1.lt p39_0)
  refine Go.of (T' := T39) (f' := (mkF m 10 #[.val (.ref ob), .val (.ref el), .val (.ref s_DEFAULTCAPACITY_EMPTY_ELEMENTDATA), .val (.int (0 : Int32))] [(.ref ar_39)])) (fun _ k => st39 _ k) ?_
  refine Go.of (T' := T39) (f' := (mkF m 11 #[.val (.ref ob), .val (.ref el), .val (.ref ar_39), .val (.int (0 : Int32))] [])) (fun _ k => XS.astoreN X39.here hx rfl (hb hby d_jdk_38_method_24_code_10) rfl rfl (l' := #[.val (.ref ob), .val (.ref el), .val (.ref ar_39), .val (.int (0 : Int32))]) rfl k) ?_
  refine Go.of (T' := T39) (f' := (mkF m 12 #[.val (.ref ob), .val (.ref el), .val (.ref ar_39), .val (.int (0 : Int32))] [(.ref ar_39)])) (fun _ k => XS.aloadN X39.here hx rfl (hb hby d_jdk_38_method_24_code_11) rfl rfl k) ?_
  refine Go.of (T' := T39) (f' := (mkF m 13 #[.val (.ref ob), .val (.ref el), .val (.ref ar_39), .val (.int (0 : Int32))] [(.int (0 : Int32)), (.ref ar_39)])) (fun _ k => XS.iloadN X39.here hx rfl (hb hby d_jdk_38_method_24_code_12) rfl k) ?_
  refine Go.of (T' := T39) (f' := (mkF m 14 #[.val (.ref ob), .val (.ref el), .val (.ref ar_39), .val (.int (0 : Int32))] [(.ref el), (.int (0 : Int32)), (.ref ar_39)])) (fun _ k => XS.aloadN X39.here hx rfl (hb hby d_jdk_38_method_24_code_13) rfl rfl k) ?_
  obtain ⟨cl41, Ar41, qk41, S41, Ng41, H41, G41⟩ := id p39_1
  have f42 : Exa Z T39.heap el "java/lang/String" := (Exa.keep prem1 K39q)
  obtain ⟨T41, h41, X41, e41, W41, st41⟩ := stR X39 hx hZ rfl Ar41 (j := (0 : Int32)) (inb_of S41 ⟨by decide, by decide⟩) rfl (Sto.ofV Ar41 qk41 p39_3 (Ins.of_exa f42 (hw _ (List.mem_of_getElem? (i := 84) rfl)))) (g := (mkF m 14 #[.val (.ref ob), .val (.ref el), .val (.ref ar_39), .val (.int (0 : Int32))] [(.ref el), (.int (0 : Int32)), (.ref ar_39)])) rfl rfl (hb hby d_jdk_38_method_24_code_14)
  have O43 := Old0.wr O40 W41 g_ar_39
  have K43 := Keep.wr K40 W41 (Or.inr z_ar_39)
  have f41 : Arv Z h41 ar_39 kr_39 (.object "java/lang/Object") (10 : Int32) [(.ref el), .null, .null, .null, .null, .null, .null, .null, .null, .null] .null := Arv.set Ar41 qk41 S41 Ng41 H41 G41 (v := (.ref el)) rfl W41 0 rfl (Nat.le_of_ble_eq_true rfl)
  have N41 := Fr.snoc X41 N39 g_ar_39
  refine Go.of (T' := T41) (f' := (mkF m 15 #[.val (.ref ob), .val (.ref el), .val (.ref ar_39), .val (.int (0 : Int32))] [])) (fun _ k => st41 _ k) ?_
  refine Go.of (T' := T41) (f' := (mkF m 16 #[.val (.ref ob), .val (.ref el), .val (.ref ar_39), .val (.int (0 : Int32))] [(.ref ob)])) (fun _ k => XS.aloadN X41.here hx rfl (hb hby d_jdk_38_method_24_code_15) rfl rfl k) ?_
  refine Go.of (T' := T41) (f' := (mkF m 17 #[.val (.ref ob), .val (.ref el), .val (.ref ar_39), .val (.int (0 : Int32))] [(.int (0 : Int32)), (.ref ob)])) (fun _ k => XS.iloadN X41.here hx rfl (hb hby d_jdk_38_method_24_code_16) rfl k) ?_
  refine Go.of (T' := T41) (f' := (mkF m 18 #[.val (.ref ob), .val (.ref el), .val (.ref ar_39), .val (.int (0 : Int32))] [(.int (1 : Int32)), (.int (0 : Int32)), (.ref ob)])) (fun _ k => XS.iconst X41.here hx rfl (hb hby d_jdk_38_method_24_code_17) k) ?_
  refine Go.of (T' := T41) (f' := (mkF m 19 #[.val (.ref ob), .val (.ref el), .val (.ref ar_39), .val (.int (0 : Int32))] [(.int (1 : Int32)), (.ref ob)])) (fun _ k => XS.iadd X41.here hx rfl (hb hby d_jdk_38_method_24_code_18) rfl k) ?_
  have f45 : Exa Z h41 ob "java/util/ArrayList" := (Exa.wr W41 (Exa.keep prem0 K39q))
  have f46 : Fld Z h41 ob "java/util/ArrayList" "size" "I" (.int (0 : Int32)) := (Fld.other W41 p39_5 (Or.inl ne_ob_ar_39))
  obtain ⟨T44, h44, X44, e44, W44, st44⟩ := putF X41 hx hZ hown (host := "") (Or.inl (hw _ (List.mem_of_getElem? (i := 61) rfl))) Via.refl e41 f46 f45 (Or.inl (hw _ (List.mem_of_getElem? (i := 62) rfl))) (hw _ (List.mem_of_getElem? (i := 5) rfl)) (ty := .int) (by decide) rfl rfl (g := (mkF m 19 #[.val (.ref ob), .val (.ref el), .val (.ref ar_39), .val (.int (0 : Int32))] [(.int (1 : Int32)), (.ref ob)])) rfl rfl (hb hby d_jdk_38_method_24_code_19)
  have O47 := Old0.wr O43 W44 prem5
  have K47 := Keep.wr K43 W44 (Or.inl (List.mem_of_getElem? (i := 0) rfl))
  have N44 := Fr.snoc X44 N41 prem5
  have f44 : Fld Z h44 ob "java/util/ArrayList" "size" "I" (.int (1 : Int32)) := Fld.same W44 f46
  refine Go.of (T' := T44) (f' := (mkF m 22 #[.val (.ref ob), .val (.ref el), .val (.ref ar_39), .val (.int (0 : Int32))] [])) (fun _ k => st44 _ k) ?_
  have f48 : Arv Z h44 ar_39 kr_39 (.object "java/lang/Object") (10 : Int32) [(.ref el), .null, .null, .null, .null, .null, .null, .null, .null, .null] .null := (Arv.other f41 W44 (Ne.symm ne_ob_ar_39))
  have f49 : Exa Z h44 ar_39 "[Ljava/lang/Object;" := (Exa.wr W44 (Exa.wr W41 p39_2))
  have f50 : Fld Z h44 ob "java/util/AbstractList" "modCount" "I" (.int mc) := (Fld.other W44 (Fld.other W41 p39_4 (Or.inl ne_ob_ar_39)) (Or.inr (slot_ne (Or.inl (hw _ (List.mem_of_getElem? (i := 26) rfl))) (Or.inl (hw _ (List.mem_of_getElem? (i := 62) rfl))) (by decide) (t := .int) (t' := .int) (by decide) (by decide))))
  have f51 : Fld Z h44 ob "java/util/ArrayList" "elementData" "[Ljava/lang/Object;" (.ref ar_39) := (Fld.other W44 (Fld.other W41 p39_6 (Or.inl ne_ob_ar_39)) (Or.inr (slot_ne (Or.inl (hw _ (List.mem_of_getElem? (i := 29) rfl))) (Or.inl (hw _ (List.mem_of_getElem? (i := 62) rfl))) (by decide) (t := (.array (.object "java/lang/Object"))) (t' := .int) (by decide) (by decide))))
  exact Go.retV X44 hx hlk hret (hb hby d_jdk_38_method_24_code_22) (by decide) (by decide) (by rw [e44]; exact ⟨ar_39, kr_39, rfl, N44, K47, z_ar_39, f48, f49, p39_3, f50, f44, f51⟩)
theorem d_jdk_38_method_25_code_0 : decode jdk_38_method_25_code 0 = .ok (.aload_n 0, 1) := by decide +kernel
theorem d_jdk_38_method_25_code_1 : decode jdk_38_method_25_code 1 = .ok (.dup, 1) := by decide +kernel
theorem d_jdk_38_method_25_code_2 : decode jdk_38_method_25_code 2 = .ok (.getfield 63, 3) := by decide +kernel
theorem d_jdk_38_method_25_code_5 : decode jdk_38_method_25_code 5 = .ok (.iconst 1, 1) := by decide +kernel
theorem d_jdk_38_method_25_code_6 : decode jdk_38_method_25_code 6 = .ok (.iadd, 1) := by decide +kernel
theorem d_jdk_38_method_25_code_7 : decode jdk_38_method_25_code 7 = .ok (.putfield 63, 3) := by decide +kernel
theorem d_jdk_38_method_25_code_10 : decode jdk_38_method_25_code 10 = .ok (.aload_n 0, 1) := by decide +kernel
theorem d_jdk_38_method_25_code_11 : decode jdk_38_method_25_code 11 = .ok (.aload_n 1, 1) := by decide +kernel
theorem d_jdk_38_method_25_code_12 : decode jdk_38_method_25_code 12 = .ok (.aload_n 0, 1) := by decide +kernel
theorem d_jdk_38_method_25_code_13 : decode jdk_38_method_25_code 13 = .ok (.getfield 9, 3) := by decide +kernel
theorem d_jdk_38_method_25_code_16 : decode jdk_38_method_25_code 16 = .ok (.aload_n 0, 1) := by decide +kernel
theorem d_jdk_38_method_25_code_17 : decode jdk_38_method_25_code 17 = .ok (.getfield 48, 3) := by decide +kernel
theorem d_jdk_38_method_25_code_20 : decode jdk_38_method_25_code 20 = .ok (.invokevirtual 131, 3) := by decide +kernel
theorem pd__Ljava_lang_Object__Ljava_lang_Object_I_V : parseMethodDescriptor "(Ljava/lang/Object;[Ljava/lang/Object;I)V" = some ⟨[(.object "java/lang/Object"), (.array (.object "java/lang/Object")), .int], none⟩ := by decide +kernel
theorem d_jdk_38_method_25_code_23 : decode jdk_38_method_25_code 23 = .ok (.iconst 1, 1) := by decide +kernel
theorem d_jdk_38_method_25_code_24 : decode jdk_38_method_25_code 24 = .ok (.ireturn, 1) := by decide +kernel
theorem ef_rm_add_0 (m : MethodId) (ob : Addr) (el : Addr) : entryFrame m #[(.ref ob), (.ref el)] 2 = mkF m 0 #[.val (.ref ob), .val (.ref el)] [] := by first | (simp [entryFrame, mkF, argsToLocals, Value.category]; done) | rfl
theorem pn_java_util_ArrayList_add__Ljava_lang_Object__Z : plainFor (⟨"java/util/ArrayList", "add", "(Ljava/lang/Object;)Z"⟩ : MethodName) = true := by first | exact plainFor_of_name (by first | (simp [plainName, overriddenIn]; done) | decide +kernel) | decide +kernel
set_option maxRecDepth 65536 in
set_option maxHeartbeats 40000000 in
theorem rm_add_0 {l : Launch} {Z : State} {a0 : Array Value} {s__VALUES : Addr} {s_HITS : Addr} {s_RESULTS : Addr} {s_VALIDATE : Addr} {s_HITS_name : Addr} {s_RESULTS_name : Addr} {s_VALIDATE_name : Addr} {s_HITS_name_value : Addr} {s_RESULTS_name_value : Addr} {s_VALIDATE_name_value : Addr} {s_DEFAULTCAPACITY_EMPTY_ELEMENTDATA : Addr} {s_COMPACT_STRINGS : Int32} {cl_s__VALUES : Cell} {cl_s_HITS_name_value : Cell} {cl_s_RESULTS_name_value : Cell} {cl_s_VALIDATE_name_value : Cell} {cl_s_DEFAULTCAPACITY_EMPTY_ELEMENTDATA : Cell} (hw : ∀ d ∈ tables_1, d.before a0 Z = true) (G : own_Ctx Z s__VALUES s_HITS s_RESULTS s_VALIDATE s_HITS_name s_RESULTS_name s_VALIDATE_name s_HITS_name_value s_RESULTS_name_value s_VALIDATE_name_value s_DEFAULTCAPACITY_EMPTY_ELEMENTDATA s_COMPACT_STRINGS cl_s__VALUES cl_s_HITS_name_value cl_s_RESULTS_name_value cl_s_VALIDATE_name_value cl_s_DEFAULTCAPACITY_EMPTY_ELEMENTDATA) (ob : Addr) (el : Addr) (mc : Int32) (h0 : Heap) (O0 : Ext Z.heap h0) (prem0 : Exa Z h0 ob "java/util/ArrayList") (prem1 : Exa Z h0 el "java/lang/String") (prem2 : Fld Z h0 ob "java/util/AbstractList" "modCount" "I" (.int mc)) (prem3 : Fld Z h0 ob "java/util/ArrayList" "size" "I" (.int (0 : Int32))) (prem4 : Fld Z h0 ob "java/util/ArrayList" "elementData" "[Ljava/lang/Object;" (.ref s_DEFAULTCAPACITY_EMPTY_ELEMENTDATA)) (prem5 : Z.heap.size ≤ ob) :
    Ok l Z (⟨"java/util/ArrayList", "add", "(Ljava/lang/Object;)Z"⟩ : MethodName) jdk_38_method_25_code 2 (some .boolean) ({ frames := 4, cells := 1, slots := 10, locals := 56 } : Room) #[(.ref ob), (.ref el)] h0
      (fun v h L => ∃ ar : Addr, ∃ kr : ClassId, v = some (.int (1 : Int32)) ∧ (Fr Z.heap.size L) ∧ (Keep h0 h [ob]) ∧ (h0.size ≤ ar) ∧ (Arv Z h ar kr (.object "java/lang/Object") (10 : Int32) [(.ref el), .null, .null, .null, .null, .null, .null, .null, .null, .null] .null) ∧ (Exa Z h ar "[Ljava/lang/Object;") ∧ (Ovr Z kr "java/lang/Object") ∧ (Fld Z h ob "java/util/AbstractList" "modCount" "I" (.int (mc + (1 : Int32)))) ∧ (Fld Z h ob "java/util/ArrayList" "size" "I" (.int (1 : Int32))) ∧ (Fld Z h ob "java/util/ArrayList" "elementData" "[Ljava/lang/Object;" (.ref ar))) := by
  refine Ok.mk pn_java_util_ArrayList_add__Ljava_lang_Object__Z ?_
  intro p e s m below meth c T0 hx hby hml hown hnm hret hlk hZ e0 X0
  refine Go.cast (ef_rm_add_0 m ob el) ?_
  obtain ⟨S__VALUES, E_s__VALUES, S_HITS, E_s_HITS, S_RESULTS, E_s_RESULTS, S_VALIDATE, E_s_VALIDATE, F_s_HITS_name, E_s_HITS_name, F_s_RESULTS_name, E_s_RESULTS_name, F_s_VALIDATE_name, E_s_VALIDATE_name, F_s_HITS_name_coder, F_s_HITS_name_value, F_s_RESULTS_name_coder, F_s_RESULTS_name_value, F_s_VALIDATE_name_coder, F_s_VALIDATE_name_value, ne_s_HITS_name_s_RESULTS_name, ne_s_HITS_name_s_VALIDATE_name, ne_s_RESULTS_name_s_VALIDATE_name, S_DEFAULTCAPACITY_EMPTY_ELEMENTDATA, E_s_DEFAULTCAPACITY_EMPTY_ELEMENTDATA, S_COMPACT_STRINGS, hne_s_COMPACT_STRINGS_0, V_s__VALUES, V_s_HITS_name_value, V_s_RESULTS_name_value, V_s_VALIDATE_name_value, V_s_DEFAULTCAPACITY_EMPTY_ELEMENTDATA⟩ := id G
  have N0 := Fr.nil Z.heap.size
  have K0 : Keep h0 h0 [ob] := Keep.refl _ _
  refine Go.of (T' := T0) (f' := (mkF m 1 #[.val (.ref ob), .val (.ref el)] [(.ref ob)])) (fun _ k => XS.aloadN X0.here hx rfl (hb hby d_jdk_38_method_25_code_0) rfl rfl k) ?_
  refine Go.of (T' := T0) (f' := (mkF m 2 #[.val (.ref ob), .val (.ref el)] [(.ref ob), (.ref ob)])) (fun _ k => XS.dup X0.here hx rfl (hb hby d_jdk_38_method_25_code_1) rfl rfl k) ?_
  obtain ⟨T52, X52, e52, st52⟩ := getF X0 hx hZ hown (host := "") (Or.inl (hw _ (List.mem_of_getElem? (i := 59) rfl))) (Via.of (hw _ (List.mem_of_getElem? (i := 60) rfl))) e0 prem2 (g := (mkF m 2 #[.val (.ref ob), .val (.ref el)] [(.ref ob), (.ref ob)])) rfl rfl (hb hby d_jdk_38_method_25_code_2)
  refine Go.of (T' := T52) (f' := (mkF m 5 #[.val (.ref ob), .val (.ref el)] [(.int mc), (.ref ob)])) (fun _ k => st52 _ k) ?_
  refine Go.of (T' := T52) (f' := (mkF m 6 #[.val (.ref ob), .val (.ref el)] [(.int (1 : Int32)), (.int mc), (.ref ob)])) (fun _ k => XS.iconst X52.here hx rfl (hb hby d_jdk_38_method_25_code_5) k) ?_
  refine Go.of (T' := T52) (f' := (mkF m 7 #[.val (.ref ob), .val (.ref el)] [(.int (mc + (1 : Int32))), (.ref ob)])) (fun _ k => XS.iadd X52.here hx rfl (hb hby d_jdk_38_method_25_code_6) rfl k) ?_
  obtain ⟨T53, h53, X53, e53, W53, st53⟩ := putF X52 hx hZ hown (host := "") (Or.inl (hw _ (List.mem_of_getElem? (i := 59) rfl))) (Via.of (hw _ (List.mem_of_getElem? (i := 60) rfl))) e52 prem2 prem0 (Or.inl (hw _ (List.mem_of_getElem? (i := 26) rfl))) (hw _ (List.mem_of_getElem? (i := 5) rfl)) (ty := .int) (by decide) rfl rfl (g := (mkF m 7 #[.val (.ref ob), .val (.ref el)] [(.int (mc + (1 : Int32))), (.ref ob)])) rfl rfl (hb hby d_jdk_38_method_25_code_7)
  have O54 := Old0.wr O0 W53 prem5
  have K54 := Keep.wr K0 W53 (Or.inl (List.mem_of_getElem? (i := 0) rfl))
  have N53 := Fr.snoc X53 N0 prem5
  have f53 : Fld Z h53 ob "java/util/AbstractList" "modCount" "I" (.int (mc + (1 : Int32))) := Fld.same W53 prem2
  refine Go.of (T' := T53) (f' := (mkF m 10 #[.val (.ref ob), .val (.ref el)] [])) (fun _ k => st53 _ k) ?_
  refine Go.of (T' := T53) (f' := (mkF m 11 #[.val (.ref ob), .val (.ref el)] [(.ref ob)])) (fun _ k => XS.aloadN X53.here hx rfl (hb hby d_jdk_38_method_25_code_10) rfl rfl k) ?_
  refine Go.of (T' := T53) (f' := (mkF m 12 #[.val (.ref ob), .val (.ref el)] [(.ref el), (.ref ob)])) (fun _ k => XS.aloadN X53.here hx rfl (hb hby d_jdk_38_method_25_code_11) rfl rfl k) ?_
  refine Go.of (T' := T53) (f' := (mkF m 13 #[.val (.ref ob), .val (.ref el)] [(.ref ob), (.ref el), (.ref ob)])) (fun _ k => XS.aloadN X53.here hx rfl (hb hby d_jdk_38_method_25_code_12) rfl rfl k) ?_
  have f56 : Fld Z h53 ob "java/util/ArrayList" "elementData" "[Ljava/lang/Object;" (.ref s_DEFAULTCAPACITY_EMPTY_ELEMENTDATA) := (Fld.other W53 prem4 (Or.inr (slot_ne (Or.inl (hw _ (List.mem_of_getElem? (i := 29) rfl))) (Or.inl (hw _ (List.mem_of_getElem? (i := 26) rfl))) (by decide) (t := (.array (.object "java/lang/Object"))) (t' := .int) (by decide) (by decide))))
  obtain ⟨T55, X55, e55, st55⟩ := getF X53 hx hZ hown (host := "") (Or.inl (hw _ (List.mem_of_getElem? (i := 28) rfl))) Via.refl e53 f56 (g := (mkF m 13 #[.val (.ref ob), .val (.ref el)] [(.ref ob), (.ref el), (.ref ob)])) rfl rfl (hb hby d_jdk_38_method_25_code_13)
  refine Go.of (T' := T55) (f' := (mkF m 16 #[.val (.ref ob), .val (.ref el)] [(.ref s_DEFAULTCAPACITY_EMPTY_ELEMENTDATA), (.ref el), (.ref ob)])) (fun _ k => st55 _ k) ?_
  refine Go.of (T' := T55) (f' := (mkF m 17 #[.val (.ref ob), .val (.ref el)] [(.ref ob), (.ref s_DEFAULTCAPACITY_EMPTY_ELEMENTDATA), (.ref el), (.ref ob)])) (fun _ k => XS.aloadN X55.here hx rfl (hb hby d_jdk_38_method_25_code_16) rfl rfl k) ?_
  have f58 : Fld Z h53 ob "java/util/ArrayList" "size" "I" (.int (0 : Int32)) := (Fld.other W53 prem3 (Or.inr (slot_ne (Or.inl (hw _ (List.mem_of_getElem? (i := 62) rfl))) (Or.inl (hw _ (List.mem_of_getElem? (i := 26) rfl))) (by decide) (t := .int) (t' := .int) (by decide) (by decide))))
  obtain ⟨T57, X57, e57, st57⟩ := getF X55 hx hZ hown (host := "") (Or.inl (hw _ (List.mem_of_getElem? (i := 61) rfl))) Via.refl e55 f58 (g := (mkF m 17 #[.val (.ref ob), .val (.ref el)] [(.ref ob), (.ref s_DEFAULTCAPACITY_EMPTY_ELEMENTDATA), (.ref el), (.ref ob)])) rfl rfl (hb hby d_jdk_38_method_25_code_17)
  refine Go.of (T' := T57) (f' := (mkF m 20 #[.val (.ref ob), .val (.ref el)] [(.int (0 : Int32)), (.ref s_DEFAULTCAPACITY_EMPTY_ELEMENTDATA), (.ref el), (.ref ob)])) (fun _ k => st57 _ k) ?_
  have f60 : Exa Z h53 ob "java/util/ArrayList" := (Exa.wr W53 prem0)
  have f61 : Exa Z h53 el "java/lang/String" := (Exa.wr W53 prem1)
  obtain ⟨T59, v59, L59, X59, q59, st59⟩ := callPr X57 hx hZ (y := (⟨"java/util/ArrayList", "add", "(Ljava/lang/Object;[Ljava/lang/Object;I)V"⟩ : MethodName)) hown (hw _ (List.mem_of_getElem? (i := 63) rfl)) (hw _ (List.mem_of_getElem? (i := 64) rfl)) (hw _ (List.mem_of_getElem? (i := 66) rfl)) (hw _ (List.mem_of_getElem? (i := 65) rfl)) (hw _ (List.mem_of_getElem? (i := 6) rfl)) (hw _ (List.mem_of_getElem? (i := 67) rfl)) (by decide) (rm_add3_0 hw G ob el ((mc + (1 : Int32))) h53 O54 f60 f61 f53 f58 f56 prem5) e57 (W := 0) (by decide) (by decide) (by decide) (by decide) f60 (g := (mkF m 20 #[.val (.ref ob), .val (.ref el)] [(.int (0 : Int32)), (.ref s_DEFAULTCAPACITY_EMPTY_ELEMENTDATA), (.ref el), (.ref ob)])) rfl (by rw [hml]; rfl) (a := ob) (argsL := [(.ref el), (.ref s_DEFAULTCAPACITY_EMPTY_ELEMENTDATA), (.int (0 : Int32))]) (rest := []) (lenOf pd__Ljava_lang_Object__Ljava_lang_Object_I_V rfl) rfl rfl (by show 2 * 0 + _ ≤ _; exact Nat.le_of_eq rfl) (hb hby d_jdk_38_method_25_code_20)
  obtain ⟨ar_59, kr_59, rfl, N59q, K59q, p59_0, p59_1, p59_2, p59_3, p59_4, p59_5, p59_6⟩ := q59
  have N59 := Fr.app N53 N59q
  have O62 := Old0.keep O54 K59q (allS prem5 all0)
  have K62 := Keep.trans K54 K59q (allS (Or.inl (List.mem_of_getElem? (i := 0) rfl)) all0)
  have z_ar_59 : h0.size ≤ ar_59 := Nat.le_trans K54.1 p59_0
  have g_ar_59 : Z.heap.size ≤ ar_59 := Nat.le_trans O54.1 p59_0
  have ne_ob_ar_59 : ob ≠ ar_59 := Nat.ne_of_lt (Nat.lt_of_lt_of_le f60.lt p59_0)
  have ne_el_ar_59 : el ≠ ar_59 := Nat.ne_of_lt (Nat.lt_of_lt_of_le f61.lt p59_0)
  refine Go.of (T' := T59) (f' := (mkF m 23 #[.val (.ref ob), .val (.ref el)] [])) (fun _ k => st59 _ k) ?_
  refine Go.of (T' := T59) (f' := (mkF m 24 #[.val (.ref ob), .val (.ref el)] [(.int (1 : Int32))])) (fun _ k => XS.iconst X59.here hx rfl (hb hby d_jdk_38_method_25_code_23) k) ?_
  exact Go.retB X59 hx hlk hret (by simp) (hb hby d_jdk_38_method_25_code_24) (by decide) (by decide) (z' := (1 : Int32)) rfl ⟨ar_59, kr_59, rfl, N59, K62, z_ar_59, p59_1, p59_2, p59_3, p59_4, p59_5, p59_6⟩
theorem ef_rm_add3_1 (m : MethodId) (ob : Addr) (el : Addr) (ar : Addr) : entryFrame m #[(.ref ob), (.ref el), (.ref ar), (.int (1 : Int32))] 4 = mkF m 0 #[.val (.ref ob), .val (.ref el), .val (.ref ar), .val (.int (1 : Int32))] [] := by first | (simp [entryFrame, mkF, argsToLocals, Value.category]; done) | rfl
set_option maxRecDepth 65536 in
set_option maxHeartbeats 40000000 in
theorem rm_add3_1 {l : Launch} {Z : State} {a0 : Array Value} {s__VALUES : Addr} {s_HITS : Addr} {s_RESULTS : Addr} {s_VALIDATE : Addr} {s_HITS_name : Addr} {s_RESULTS_name : Addr} {s_VALIDATE_name : Addr} {s_HITS_name_value : Addr} {s_RESULTS_name_value : Addr} {s_VALIDATE_name_value : Addr} {s_DEFAULTCAPACITY_EMPTY_ELEMENTDATA : Addr} {s_COMPACT_STRINGS : Int32} {cl_s__VALUES : Cell} {cl_s_HITS_name_value : Cell} {cl_s_RESULTS_name_value : Cell} {cl_s_VALIDATE_name_value : Cell} {cl_s_DEFAULTCAPACITY_EMPTY_ELEMENTDATA : Cell} (hw : ∀ d ∈ tables_1, d.before a0 Z = true) (G : own_Ctx Z s__VALUES s_HITS s_RESULTS s_VALIDATE s_HITS_name s_RESULTS_name s_VALIDATE_name s_HITS_name_value s_RESULTS_name_value s_VALIDATE_name_value s_DEFAULTCAPACITY_EMPTY_ELEMENTDATA s_COMPACT_STRINGS cl_s__VALUES cl_s_HITS_name_value cl_s_RESULTS_name_value cl_s_VALIDATE_name_value cl_s_DEFAULTCAPACITY_EMPTY_ELEMENTDATA) (ob : Addr) (el : Addr) (ar : Addr) (mc : Int32) (kr : ClassId) (el0 : Addr) (h0 : Heap) (O0 : Ext Z.heap h0) (prem0 : Exa Z h0 ob "java/util/ArrayList") (prem1 : Exa Z h0 el "java/lang/String") (prem2 : Fld Z h0 ob "java/util/AbstractList" "modCount" "I" (.int mc)) (prem3 : Fld Z h0 ob "java/util/ArrayList" "size" "I" (.int (1 : Int32))) (prem4 : Fld Z h0 ob "java/util/ArrayList" "elementData" "[Ljava/lang/Object;" (.ref ar)) (prem5 : Arv Z h0 ar kr (.object "java/lang/Object") (10 : Int32) [(.ref el0), .null, .null, .null, .null, .null, .null, .null, .null, .null] .null) (prem6 : Exa Z h0 ar "[Ljava/lang/Object;") (prem7 : Ovr Z kr "java/lang/Object") (prem8 : Z.heap.size ≤ ob) (prem9 : Z.heap.size ≤ ar) (prem10 : ob ≠ ar) :
    Ok l Z (⟨"java/util/ArrayList", "add", "(Ljava/lang/Object;[Ljava/lang/Object;I)V"⟩ : MethodName) jdk_38_method_24_code 4 none ({ frames := 0, cells := 0, slots := 0, locals := 0 } : Room) #[(.ref ob), (.ref el), (.ref ar), (.int (1 : Int32))] h0
      (fun v h L => v = none ∧ (Fr Z.heap.size L) ∧ (Keep h0 h [ob, ar]) ∧ (Arv Z h ar kr (.object "java/lang/Object") (10 : Int32) [(.ref el0), (.ref el), .null, .null, .null, .null, .null, .null, .null, .null] .null) ∧ (Fld Z h ob "java/util/AbstractList" "modCount" "I" (.int mc)) ∧ (Fld Z h ob "java/util/ArrayList" "size" "I" (.int (2 : Int32))) ∧ (Fld Z h ob "java/util/ArrayList" "elementData" "[Ljava/lang/Object;" (.ref ar))) := by
  refine Ok.mk pn_java_util_ArrayList_add__Ljava_lang_Object__Ljava_lang_Object_I_V ?_
  intro p e s m below meth c T0 hx hby hml hown hnm hret hlk hZ e0 X0
  refine Go.cast (ef_rm_add3_1 m ob el ar) ?_
  obtain ⟨S__VALUES, E_s__VALUES, S_HITS, E_s_HITS, S_RESULTS, E_s_RESULTS, S_VALIDATE, E_s_VALIDATE, F_s_HITS_name, E_s_HITS_name, F_s_RESULTS_name, E_s_RESULTS_name, F_s_VALIDATE_name, E_s_VALIDATE_name, F_s_HITS_name_coder, F_s_HITS_name_value, F_s_RESULTS_name_coder, F_s_RESULTS_name_value, F_s_VALIDATE_name_coder, F_s_VALIDATE_name_value, ne_s_HITS_name_s_RESULTS_name, ne_s_HITS_name_s_VALIDATE_name, ne_s_RESULTS_name_s_VALIDATE_name, S_DEFAULTCAPACITY_EMPTY_ELEMENTDATA, E_s_DEFAULTCAPACITY_EMPTY_ELEMENTDATA, S_COMPACT_STRINGS, hne_s_COMPACT_STRINGS_0, V_s__VALUES, V_s_HITS_name_value, V_s_RESULTS_name_value, V_s_VALIDATE_name_value, V_s_DEFAULTCAPACITY_EMPTY_ELEMENTDATA⟩ := id G
  have N0 := Fr.nil Z.heap.size
  have K0 : Keep h0 h0 [ob, ar] := Keep.refl _ _
  refine Go.of (T' := T0) (f' := (mkF m 1 #[.val (.ref ob), .val (.ref el), .val (.ref ar), .val (.int (1 : Int32))] [(.int (1 : Int32))])) (fun _ k => XS.iloadN X0.here hx rfl (hb hby d_jdk_38_method_24_code_0) rfl k) ?_
  refine Go.of (T' := T0) (f' := (mkF m 2 #[.val (.ref ob), .val (.ref el), .val (.ref ar), .val (.int (1 : Int32))] [(.ref ar), (.int (1 : Int32))])) (fun _ k => XS.aloadN X0.here hx rfl (hb hby d_jdk_38_method_24_code_1) rfl rfl k) ?_
  obtain ⟨cl63, Ar63, qk63, S63, Ng63, H63, G63⟩ := id prem5
  refine Go.of (T' := T0) (f' := (mkF m 3 #[.val (.ref ob), .val (.ref el), .val (.ref ar), .val (.int (1 : Int32))] [(.int (10 : Int32)), (.int (1 : Int32))])) (fun _ k => X0.arraylength hx (by rw [e0]; exact Ar63.1) (State.isArrayOf_alike hZ.alike Ar63.2.1) (g := (mkF m 2 #[.val (.ref ob), .val (.ref el), .val (.ref ar), .val (.int (1 : Int32))] [(.ref ar), (.int (1 : Int32))])) rfl rfl (hb hby d_jdk_38_method_24_code_2) _ (by rw [len_of S63 Ng63]; exact k)) ?_
  refine Go.of (T' := T0) (f' := (mkF m 11 #[.val (.ref ob), .val (.ref el), .val (.ref ar), .val (.int (1 : Int32))] [])) (fun _ k => XS.icmpYes X0.here hx rfl (pc0 := 3) (pc' := 11) rfl (hb hby d_jdk_38_method_24_code_3) rfl (feq (by decide : ¬ ((1 : Int32) = (10 : Int32)))).2 (by decide) (by decide) k) ?_
  refine Go.of (T' := T0) (f' := (mkF m 12 #[.val (.ref ob), .val (.ref el), .val (.ref ar), .val (.int (1 : Int32))] [(.ref ar)])) (fun _ k => XS.aloadN X0.here hx rfl (hb hby d_jdk_38_method_24_code_11) rfl rfl k) ?_
  refine Go.of (T' := T0) (f' := (mkF m 13 #[.val (.ref ob), .val (.ref el), .val (.ref ar), .val (.int (1 : Int32))] [(.int (1 : Int32)), (.ref ar)])) (fun _ k => XS.iloadN X0.here hx rfl (hb hby d_jdk_38_method_24_code_12) rfl k) ?_
  refine Go.of (T' := T0) (f' := (mkF m 14 #[.val (.ref ob), .val (.ref el), .val (.ref ar), .val (.int (1 : Int32))] [(.ref el), (.int (1 : Int32)), (.ref ar)])) (fun _ k => XS.aloadN X0.here hx rfl (hb hby d_jdk_38_method_24_code_13) rfl rfl k) ?_
  obtain ⟨cl65, Ar65, qk65, S65, Ng65, H65, G65⟩ := id prem5
  obtain ⟨T65, h65, X65, e65, W65, st65⟩ := stR X0 hx hZ e0 Ar65 (j := (1 : Int32)) (inb_of S65 ⟨by decide, by decide⟩) rfl (Sto.ofV Ar65 qk65 prem7 (Ins.of_exa prem1 (hw _ (List.mem_of_getElem? (i := 84) rfl)))) (g := (mkF m 14 #[.val (.ref ob), .val (.ref el), .val (.ref ar), .val (.int (1 : Int32))] [(.ref el), (.int (1 : Int32)), (.ref ar)])) rfl rfl (hb hby d_jdk_38_method_24_code_14)
  have O66 := Old0.wr O0 W65 prem9
  have K66 := Keep.wr K0 W65 (Or.inl (List.mem_of_getElem? (i := 1) rfl))
  have f65 : Arv Z h65 ar kr (.object "java/lang/Object") (10 : Int32) [(.ref el0), (.ref el), .null, .null, .null, .null, .null, .null, .null, .null] .null := Arv.set Ar65 qk65 S65 Ng65 H65 G65 (v := (.ref el)) rfl W65 1 rfl (Nat.le_of_ble_eq_true rfl)
  have N65 := Fr.snoc X65 N0 prem9
  refine Go.of (T' := T65) (f' := (mkF m 15 #[.val (.ref ob), .val (.ref el), .val (.ref ar), .val (.int (1 : Int32))] [])) (fun _ k => st65 _ k) ?_
  refine Go.of (T' := T65) (f' := (mkF m 16 #[.val (.ref ob), .val (.ref el), .val (.ref ar), .val (.int (1 : Int32))] [(.ref ob)])) (fun _ k => XS.aloadN X65.here hx rfl (hb hby d_jdk_38_method_24_code_15) rfl rfl k) ?_
  refine Go.of (T' := T65) (f' := (mkF m 17 #[.val (.ref ob), .val (.ref el), .val (.ref ar), .val (.int (1 : Int32))] [(.int (1 : Int32)), (.ref ob)])) (fun _ k => XS.iloadN X65.here hx rfl (hb hby d_jdk_38_method_24_code_16) rfl k) ?_
  refine Go.of (T' := T65) (f' := (mkF m 18 #[.val (.ref ob), .val (.ref el), .val (.ref ar), .val (.int (1 : Int32))] [(.int (1 : Int32)), (.int (1 : Int32)), (.ref ob)])) (fun _ k => XS.iconst X65.here hx rfl (hb hby d_jdk_38_method_24_code_17) k) ?_
  refine Go.of (T' := T65) (f' := (mkF m 19 #[.val (.ref ob), .val (.ref el), .val (.ref ar), .val (.int (1 : Int32))] [(.int (2 : Int32)), (.ref ob)])) (fun _ k => XS.iadd X65.here hx rfl (hb hby d_jdk_38_method_24_code_18) rfl k) ?_
  have f68 : Exa Z h65 ob "java/util/ArrayList" := (Exa.wr W65 prem0)
  have f69 : Fld Z h65 ob "java/util/ArrayList" "size" "I" (.int (1 : Int32)) := (Fld.other W65 prem3 (Or.inl prem10))
  obtain ⟨T67, h67, X67, e67, W67, st67⟩ := putF X65 hx hZ hown (host := "") (Or.inl (hw _ (List.mem_of_getElem? (i := 61) rfl))) Via.refl e65 f69 f68 (Or.inl (hw _ (List.mem_of_getElem? (i := 62) rfl))) (hw _ (List.mem_of_getElem? (i := 5) rfl)) (ty := .int) (by decide) rfl rfl (g := (mkF m 19 #[.val (.ref ob), .val (.ref el), .val (.ref ar), .val (.int (1 : Int32))] [(.int (2 : Int32)), (.ref ob)])) rfl rfl (hb hby d_jdk_38_method_24_code_19)
  have O70 := Old0.wr O66 W67 prem8
  have K70 := Keep.wr K66 W67 (Or.inl (List.mem_of_getElem? (i := 0) rfl))
  have N67 := Fr.snoc X67 N65 prem8
  have f67 : Fld Z h67 ob "java/util/ArrayList" "size" "I" (.int (2 : Int32)) := Fld.same W67 f69
  refine Go.of (T' := T67) (f' := (mkF m 22 #[.val (.ref ob), .val (.ref el), .val (.ref ar), .val (.int (1 : Int32))] [])) (fun _ k => st67 _ k) ?_
  have f71 : Arv Z h67 ar kr (.object "java/lang/Object") (10 : Int32) [(.ref el0), (.ref el), .null, .null, .null, .null, .null, .null, .null, .null] .null := (Arv.other f65 W67 (Ne.symm prem10))
  have f72 : Fld Z h67 ob "java/util/AbstractList" "modCount" "I" (.int mc) := (Fld.other W67 (Fld.other W65 prem2 (Or.inl prem10)) (Or.inr (slot_ne (Or.inl (hw _ (List.mem_of_getElem? (i := 26) rfl))) (Or.inl (hw _ (List.mem_of_getElem? (i := 62) rfl))) (by decide) (t := .int) (t' := .int) (by decide) (by decide))))
  have f73 : Fld Z h67 ob "java/util/ArrayList" "elementData" "[Ljava/lang/Object;" (.ref ar) := (Fld.other W67 (Fld.other W65 prem4 (Or.inl prem10)) (Or.inr (slot_ne (Or.inl (hw _ (List.mem_of_getElem? (i := 29) rfl))) (Or.inl (hw _ (List.mem_of_getElem? (i := 62) rfl))) (by decide) (t := (.array (.object "java/lang/Object"))) (t' := .int) (by decide) (by decide))))
  exact Go.retV X67 hx hlk hret (hb hby d_jdk_38_method_24_code_22) (by decide) (by decide) (by rw [e67]; exact ⟨rfl, N67, K70, f71, f72, f67, f73⟩)
theorem ef_rm_add_1 (m : MethodId) (ob : Addr) (el : Addr) : entryFrame m #[(.ref ob), (.ref el)] 2 = mkF m 0 #[.val (.ref ob), .val (.ref el)] [] := by first | (simp [entryFrame, mkF, argsToLocals, Value.category]; done) | rfl
set_option maxRecDepth 65536 in
set_option maxHeartbeats 40000000 in
theorem rm_add_1 {l : Launch} {Z : State} {a0 : Array Value} {s__VALUES : Addr} {s_HITS : Addr} {s_RESULTS : Addr} {s_VALIDATE : Addr} {s_HITS_name : Addr} {s_RESULTS_name : Addr} {s_VALIDATE_name : Addr} {s_HITS_name_value : Addr} {s_RESULTS_name_value : Addr} {s_VALIDATE_name_value : Addr} {s_DEFAULTCAPACITY_EMPTY_ELEMENTDATA : Addr} {s_COMPACT_STRINGS : Int32} {cl_s__VALUES : Cell} {cl_s_HITS_name_value : Cell} {cl_s_RESULTS_name_value : Cell} {cl_s_VALIDATE_name_value : Cell} {cl_s_DEFAULTCAPACITY_EMPTY_ELEMENTDATA : Cell} (hw : ∀ d ∈ tables_1, d.before a0 Z = true) (G : own_Ctx Z s__VALUES s_HITS s_RESULTS s_VALIDATE s_HITS_name s_RESULTS_name s_VALIDATE_name s_HITS_name_value s_RESULTS_name_value s_VALIDATE_name_value s_DEFAULTCAPACITY_EMPTY_ELEMENTDATA s_COMPACT_STRINGS cl_s__VALUES cl_s_HITS_name_value cl_s_RESULTS_name_value cl_s_VALIDATE_name_value cl_s_DEFAULTCAPACITY_EMPTY_ELEMENTDATA) (ob : Addr) (el : Addr) (ar : Addr) (mc : Int32) (kr : ClassId) (el0 : Addr) (h0 : Heap) (O0 : Ext Z.heap h0) (prem0 : Exa Z h0 ob "java/util/ArrayList") (prem1 : Exa Z h0 el "java/lang/String") (prem2 : Fld Z h0 ob "java/util/AbstractList" "modCount" "I" (.int mc)) (prem3 : Fld Z h0 ob "java/util/ArrayList" "size" "I" (.int (1 : Int32))) (prem4 : Fld Z h0 ob "java/util/ArrayList" "elementData" "[Ljava/lang/Object;" (.ref ar)) (prem5 : Arv Z h0 ar kr (.object "java/lang/Object") (10 : Int32) [(.ref el0), .null, .null, .null, .null, .null, .null, .null, .null, .null] .null) (prem6 : Exa Z h0 ar "[Ljava/lang/Object;") (prem7 : Ovr Z kr "java/lang/Object") (prem8 : Z.heap.size ≤ ob) (prem9 : Z.heap.size ≤ ar) (prem10 : ob ≠ ar) :
    Ok l Z (⟨"java/util/ArrayList", "add", "(Ljava/lang/Object;)Z"⟩ : MethodName) jdk_38_method_25_code 2 (some .boolean) ({ frames := 1, cells := 0, slots := 0, locals := 15 } : Room) #[(.ref ob), (.ref el)] h0
      (fun v h L => v = some (.int (1 : Int32)) ∧ (Fr Z.heap.size L) ∧ (Keep h0 h [ob, ar]) ∧ (Arv Z h ar kr (.object "java/lang/Object") (10 : Int32) [(.ref el0), (.ref el), .null, .null, .null, .null, .null, .null, .null, .null] .null) ∧ (Fld Z h ob "java/util/AbstractList" "modCount" "I" (.int (mc + (1 : Int32)))) ∧ (Fld Z h ob "java/util/ArrayList" "size" "I" (.int (2 : Int32))) ∧ (Fld Z h ob "java/util/ArrayList" "elementData" "[Ljava/lang/Object;" (.ref ar))) := by
  refine Ok.mk pn_java_util_ArrayList_add__Ljava_lang_Object__Z ?_
  intro p e s m below meth c T0 hx hby hml hown hnm hret hlk hZ e0 X0
  refine Go.cast (ef_rm_add_1 m ob el) ?_
  obtain ⟨S__VALUES, E_s__VALUES, S_HITS, E_s_HITS, S_RESULTS, E_s_RESULTS, S_VALIDATE, E_s_VALIDATE, F_s_HITS_name, E_s_HITS_name, F_s_RESULTS_name, E_s_RESULTS_name, F_s_VALIDATE_name, E_s_VALIDATE_name, F_s_HITS_name_coder, F_s_HITS_name_value, F_s_RESULTS_name_coder, F_s_RESULTS_name_value, F_s_VALIDATE_name_coder, F_s_VALIDATE_name_value, ne_s_HITS_name_s_RESULTS_name, ne_s_HITS_name_s_VALIDATE_name, ne_s_RESULTS_name_s_VALIDATE_name, S_DEFAULTCAPACITY_EMPTY_ELEMENTDATA, E_s_DEFAULTCAPACITY_EMPTY_ELEMENTDATA, S_COMPACT_STRINGS, hne_s_COMPACT_STRINGS_0, V_s__VALUES, V_s_HITS_name_value, V_s_RESULTS_name_value, V_s_VALIDATE_name_value, V_s_DEFAULTCAPACITY_EMPTY_ELEMENTDATA⟩ := id G
  have N0 := Fr.nil Z.heap.size
  have K0 : Keep h0 h0 [ob, ar] := Keep.refl _ _
  refine Go.of (T' := T0) (f' := (mkF m 1 #[.val (.ref ob), .val (.ref el)] [(.ref ob)])) (fun _ k => XS.aloadN X0.here hx rfl (hb hby d_jdk_38_method_25_code_0) rfl rfl k) ?_
  refine Go.of (T' := T0) (f' := (mkF m 2 #[.val (.ref ob), .val (.ref el)] [(.ref ob), (.ref ob)])) (fun _ k => XS.dup X0.here hx rfl (hb hby d_jdk_38_method_25_code_1) rfl rfl k) ?_
  obtain ⟨T74, X74, e74, st74⟩ := getF X0 hx hZ hown (host := "") (Or.inl (hw _ (List.mem_of_getElem? (i := 59) rfl))) (Via.of (hw _ (List.mem_of_getElem? (i := 60) rfl))) e0 prem2 (g := (mkF m 2 #[.val (.ref ob), .val (.ref el)] [(.ref ob), (.ref ob)])) rfl rfl (hb hby d_jdk_38_method_25_code_2)
  refine Go.of (T' := T74) (f' := (mkF m 5 #[.val (.ref ob), .val (.ref el)] [(.int mc), (.ref ob)])) (fun _ k => st74 _ k) ?_
  refine Go.of (T' := T74) (f' := (mkF m 6 #[.val (.ref ob), .val (.ref el)] [(.int (1 : Int32)), (.int mc), (.ref ob)])) (fun _ k => XS.iconst X74.here hx rfl (hb hby d_jdk_38_method_25_code_5) k) ?_
  refine Go.of (T' := T74) (f' := (mkF m 7 #[.val (.ref ob), .val (.ref el)] [(.int (mc + (1 : Int32))), (.ref ob)])) (fun _ k => XS.iadd X74.here hx rfl (hb hby d_jdk_38_method_25_code_6) rfl k) ?_
  obtain ⟨T75, h75, X75, e75, W75, st75⟩ := putF X74 hx hZ hown (host := "") (Or.inl (hw _ (List.mem_of_getElem? (i := 59) rfl))) (Via.of (hw _ (List.mem_of_getElem? (i := 60) rfl))) e74 prem2 prem0 (Or.inl (hw _ (List.mem_of_getElem? (i := 26) rfl))) (hw _ (List.mem_of_getElem? (i := 5) rfl)) (ty := .int) (by decide) rfl rfl (g := (mkF m 7 #[.val (.ref ob), .val (.ref el)] [(.int (mc + (1 : Int32))), (.ref ob)])) rfl rfl (hb hby d_jdk_38_method_25_code_7)
  have O76 := Old0.wr O0 W75 prem8
  have K76 := Keep.wr K0 W75 (Or.inl (List.mem_of_getElem? (i := 0) rfl))
  have N75 := Fr.snoc X75 N0 prem8
  have f75 : Fld Z h75 ob "java/util/AbstractList" "modCount" "I" (.int (mc + (1 : Int32))) := Fld.same W75 prem2
  refine Go.of (T' := T75) (f' := (mkF m 10 #[.val (.ref ob), .val (.ref el)] [])) (fun _ k => st75 _ k) ?_
  refine Go.of (T' := T75) (f' := (mkF m 11 #[.val (.ref ob), .val (.ref el)] [(.ref ob)])) (fun _ k => XS.aloadN X75.here hx rfl (hb hby d_jdk_38_method_25_code_10) rfl rfl k) ?_
  refine Go.of (T' := T75) (f' := (mkF m 12 #[.val (.ref ob), .val (.ref el)] [(.ref el), (.ref ob)])) (fun _ k => XS.aloadN X75.here hx rfl (hb hby d_jdk_38_method_25_code_11) rfl rfl k) ?_
  refine Go.of (T' := T75) (f' := (mkF m 13 #[.val (.ref ob), .val (.ref el)] [(.ref ob), (.ref el), (.ref ob)])) (fun _ k => XS.aloadN X75.here hx rfl (hb hby d_jdk_38_method_25_code_12) rfl rfl k) ?_
  have f78 : Fld Z h75 ob "java/util/ArrayList" "elementData" "[Ljava/lang/Object;" (.ref ar) := (Fld.other W75 prem4 (Or.inr (slot_ne (Or.inl (hw _ (List.mem_of_getElem? (i := 29) rfl))) (Or.inl (hw _ (List.mem_of_getElem? (i := 26) rfl))) (by decide) (t := (.array (.object "java/lang/Object"))) (t' := .int) (by decide) (by decide))))
  obtain ⟨T77, X77, e77, st77⟩ := getF X75 hx hZ hown (host := "") (Or.inl (hw _ (List.mem_of_getElem? (i := 28) rfl))) Via.refl e75 f78 (g := (mkF m 13 #[.val (.ref ob), .val (.ref el)] [(.ref ob), (.ref el), (.ref ob)])) rfl rfl (hb hby d_jdk_38_method_25_code_13)
  refine Go.of (T' := T77) (f' := (mkF m 16 #[.val (.ref ob), .val (.ref el)] [(.ref ar), (.ref el), (.ref ob)])) (fun _ k => st77 _ k) ?_
  refine Go.of (T' := T77) (f' := (mkF m 17 #[.val (.ref ob), .val (.ref el)] [(.ref ob), (.ref ar), (.ref el), (.ref ob)])) (fun _ k => XS.aloadN X77.here hx rfl (hb hby d_jdk_38_method_25_code_16) rfl rfl k) ?_
  have f80 : Fld Z h75 ob "java/util/ArrayList" "size" "I" (.int (1 : Int32)) := (Fld.other W75 prem3 (Or.inr (slot_ne (Or.inl (hw _ (List.mem_of_getElem? (i := 62) rfl))) (Or.inl (hw _ (List.mem_of_getElem? (i := 26) rfl))) (by decide) (t := .int) (t' := .int) (by decide) (by decide))))
  obtain ⟨T79, X79, e79, st79⟩ := getF X77 hx hZ hown (host := "") (Or.inl (hw _ (List.mem_of_getElem? (i := 61) rfl))) Via.refl e77 f80 (g := (mkF m 17 #[.val (.ref ob), .val (.ref el)] [(.ref ob), (.ref ar), (.ref el), (.ref ob)])) rfl rfl (hb hby d_jdk_38_method_25_code_17)
  refine Go.of (T' := T79) (f' := (mkF m 20 #[.val (.ref ob), .val (.ref el)] [(.int (1 : Int32)), (.ref ar), (.ref el), (.ref ob)])) (fun _ k => st79 _ k) ?_
  have f82 : Exa Z h75 ob "java/util/ArrayList" := (Exa.wr W75 prem0)
  have f83 : Exa Z h75 el "java/lang/String" := (Exa.wr W75 prem1)
  have f84 : Arv Z h75 ar kr (.object "java/lang/Object") (10 : Int32) [(.ref el0), .null, .null, .null, .null, .null, .null, .null, .null, .null] .null := (Arv.other prem5 W75 (Ne.symm prem10))
  have f85 : Exa Z h75 ar "[Ljava/lang/Object;" := (Exa.wr W75 prem6)
  obtain ⟨T81, v81, L81, X81, q81, st81⟩ := callPr X79 hx hZ (y := (⟨"java/util/ArrayList", "add", "(Ljava/lang/Object;[Ljava/lang/Object;I)V"⟩ : MethodName)) hown (hw _ (List.mem_of_getElem? (i := 63) rfl)) (hw _ (List.mem_of_getElem? (i := 64) rfl)) (hw _ (List.mem_of_getElem? (i := 66) rfl)) (hw _ (List.mem_of_getElem? (i := 65) rfl)) (hw _ (List.mem_of_getElem? (i := 6) rfl)) (hw _ (List.mem_of_getElem? (i := 67) rfl)) (by decide) (rm_add3_1 hw G ob el ar ((mc + (1 : Int32))) kr el0 h75 O76 f82 f83 f75 f80 f78 f84 f85 prem7 prem8 prem9 prem10) e79 (W := 0) (by decide) (by decide) (by decide) (by decide) f82 (g := (mkF m 20 #[.val (.ref ob), .val (.ref el)] [(.int (1 : Int32)), (.ref ar), (.ref el), (.ref ob)])) rfl (by rw [hml]; rfl) (a := ob) (argsL := [(.ref el), (.ref ar), (.int (1 : Int32))]) (rest := []) (lenOf pd__Ljava_lang_Object__Ljava_lang_Object_I_V rfl) rfl rfl (by show 2 * 0 + _ ≤ _; exact Nat.le_of_eq rfl) (hb hby d_jdk_38_method_25_code_20)
  obtain ⟨rfl, N81q, K81q, p81_0, p81_1, p81_2, p81_3⟩ := q81
  have N81 := Fr.app N75 N81q
  have O86 := Old0.keep O76 K81q (allS prem8 (allS prem9 all0))
  have K86 := Keep.trans K76 K81q (allS (Or.inl (List.mem_of_getElem? (i := 0) rfl)) (allS (Or.inl (List.mem_of_getElem? (i := 1) rfl)) all0))
  refine Go.of (T' := T81) (f' := (mkF m 23 #[.val (.ref ob), .val (.ref el)] [])) (fun _ k => st81 _ k) ?_
  refine Go.of (T' := T81) (f' := (mkF m 24 #[.val (.ref ob), .val (.ref el)] [(.int (1 : Int32))])) (fun _ k => XS.iconst X81.here hx rfl (hb hby d_jdk_38_method_25_code_23) k) ?_
  exact Go.retB X81 hx hlk hret (by simp) (hb hby d_jdk_38_method_25_code_24) (by decide) (by decide) (z' := (1 : Int32)) rfl ⟨rfl, N81, K86, p81_0, p81_1, p81_2, p81_3⟩
theorem ef_rm_add3_2 (m : MethodId) (ob : Addr) (el : Addr) (ar : Addr) : entryFrame m #[(.ref ob), (.ref el), (.ref ar), (.int (2 : Int32))] 4 = mkF m 0 #[.val (.ref ob), .val (.ref el), .val (.ref ar), .val (.int (2 : Int32))] [] := by first | (simp [entryFrame, mkF, argsToLocals, Value.category]; done) | rfl
set_option maxRecDepth 65536 in
set_option maxHeartbeats 40000000 in
theorem rm_add3_2 {l : Launch} {Z : State} {a0 : Array Value} {s__VALUES : Addr} {s_HITS : Addr} {s_RESULTS : Addr} {s_VALIDATE : Addr} {s_HITS_name : Addr} {s_RESULTS_name : Addr} {s_VALIDATE_name : Addr} {s_HITS_name_value : Addr} {s_RESULTS_name_value : Addr} {s_VALIDATE_name_value : Addr} {s_DEFAULTCAPACITY_EMPTY_ELEMENTDATA : Addr} {s_COMPACT_STRINGS : Int32} {cl_s__VALUES : Cell} {cl_s_HITS_name_value : Cell} {cl_s_RESULTS_name_value : Cell} {cl_s_VALIDATE_name_value : Cell} {cl_s_DEFAULTCAPACITY_EMPTY_ELEMENTDATA : Cell} (hw : ∀ d ∈ tables_1, d.before a0 Z = true) (G : own_Ctx Z s__VALUES s_HITS s_RESULTS s_VALIDATE s_HITS_name s_RESULTS_name s_VALIDATE_name s_HITS_name_value s_RESULTS_name_value s_VALIDATE_name_value s_DEFAULTCAPACITY_EMPTY_ELEMENTDATA s_COMPACT_STRINGS cl_s__VALUES cl_s_HITS_name_value cl_s_RESULTS_name_value cl_s_VALIDATE_name_value cl_s_DEFAULTCAPACITY_EMPTY_ELEMENTDATA) (ob : Addr) (el : Addr) (ar : Addr) (mc : Int32) (kr : ClassId) (el0 : Addr) (el1 : Addr) (h0 : Heap) (O0 : Ext Z.heap h0) (prem0 : Exa Z h0 ob "java/util/ArrayList") (prem1 : Exa Z h0 el "java/lang/String") (prem2 : Fld Z h0 ob "java/util/AbstractList" "modCount" "I" (.int mc)) (prem3 : Fld Z h0 ob "java/util/ArrayList" "size" "I" (.int (2 : Int32))) (prem4 : Fld Z h0 ob "java/util/ArrayList" "elementData" "[Ljava/lang/Object;" (.ref ar)) (prem5 : Arv Z h0 ar kr (.object "java/lang/Object") (10 : Int32) [(.ref el0), (.ref el1), .null, .null, .null, .null, .null, .null, .null, .null] .null) (prem6 : Exa Z h0 ar "[Ljava/lang/Object;") (prem7 : Ovr Z kr "java/lang/Object") (prem8 : Z.heap.size ≤ ob) (prem9 : Z.heap.size ≤ ar) (prem10 : ob ≠ ar) :
    Ok l Z (⟨"java/util/ArrayList", "add", "(Ljava/lang/Object;[Ljava/lang/Object;I)V"⟩ : MethodName) jdk_38_method_24_code 4 none ({ frames := 0, cells := 0, slots := 0, locals := 0 } : Room) #[(.ref ob), (.ref el), (.ref ar), (.int (2 : Int32))] h0
      (fun v h L => v = none ∧ (Fr Z.heap.size L) ∧ (Keep h0 h [ob, ar]) ∧ (Arv Z h ar kr (.object "java/lang/Object") (10 : Int32) [(.ref el0), (.ref el1), (.ref el), .null, .null, .null, .null, .null, .null, .null] .null) ∧ (Fld Z h ob "java/util/AbstractList" "modCount" "I" (.int mc)) ∧ (Fld Z h ob "java/util/ArrayList" "size" "I" (.int (3 : Int32))) ∧ (Fld Z h ob "java/util/ArrayList" "elementData" "[Ljava/lang/Object;" (.ref ar))) := by
  refine Ok.mk pn_java_util_ArrayList_add__Ljava_lang_Object__Ljava_lang_Object_I_V ?_
  intro p e s m below meth c T0 hx hby hml hown hnm hret hlk hZ e0 X0
  refine Go.cast (ef_rm_add3_2 m ob el ar) ?_
  obtain ⟨S__VALUES, E_s__VALUES, S_HITS, E_s_HITS, S_RESULTS, E_s_RESULTS, S_VALIDATE, E_s_VALIDATE, F_s_HITS_name, E_s_HITS_name, F_s_RESULTS_name, E_s_RESULTS_name, F_s_VALIDATE_name, E_s_VALIDATE_name, F_s_HITS_name_coder, F_s_HITS_name_value, F_s_RESULTS_name_coder, F_s_RESULTS_name_value, F_s_VALIDATE_name_coder, F_s_VALIDATE_name_value, ne_s_HITS_name_s_RESULTS_name, ne_s_HITS_name_s_VALIDATE_name, ne_s_RESULTS_name_s_VALIDATE_name, S_DEFAULTCAPACITY_EMPTY_ELEMENTDATA, E_s_DEFAULTCAPACITY_EMPTY_ELEMENTDATA, S_COMPACT_STRINGS, hne_s_COMPACT_STRINGS_0, V_s__VALUES, V_s_HITS_name_value, V_s_RESULTS_name_value, V_s_VALIDATE_name_value, V_s_DEFAULTCAPACITY_EMPTY_ELEMENTDATA⟩ := id G
  have N0 := Fr.nil Z.heap.size
  have K0 : Keep h0 h0 [ob, ar] := Keep.refl _ _
  refine Go.of (T' := T0) (f' := (mkF m 1 #[.val (.ref ob), .val (.ref el), .val (.ref ar), .val (.int (2 : Int32))] [(.int (2 : Int32))])) (fun _ k => XS.iloadN X0.here hx rfl (hb hby d_jdk_38_method_24_code_0) rfl k) ?_
  refine Go.of (T' := T0) (f' := (mkF m 2 #[.val (.ref ob), .val (.ref el), .val (.ref ar), .val (.int (2 : Int32))] [(.ref ar), (.int (2 : Int32))])) (fun _ k => XS.aloadN X0.here hx rfl (hb hby d_jdk_38_method_24_code_1) rfl rfl k) ?_
  obtain ⟨cl87, Ar87, qk87, S87, Ng87, H87, G87⟩ := id prem5
  refine Go.of (T' := T0) (f' := (mkF m 3 #[.val (.ref ob), .val (.ref el), .val (.ref ar), .val (.int (2 : Int32))] [(.int (10 : Int32)), (.int (2 : Int32))])) (fun _ k => X0.arraylength hx (by rw [e0]; exact Ar87.1) (State.isArrayOf_alike hZ.alike Ar87.2.1) (g := (mkF m 2 #[.val (.ref ob), .val (.ref el), .val (.ref ar), .val (.int (2 : Int32))] [(.ref ar), (.int (2 : Int32))])) rfl rfl (hb hby d_jdk_38_method_24_code_2) _ (by rw [len_of S87 Ng87]; exact k)) ?_
  refine Go.of (T' := T0) (f' := (mkF m 11 #[.val (.ref ob), .val (.ref el), .val (.ref ar), .val (.int (2 : Int32))] [])) (fun _ k => XS.icmpYes X0.here hx rfl (pc0 := 3) (pc' := 11) rfl (hb hby d_jdk_38_method_24_code_3) rfl (feq (by decide : ¬ ((2 : Int32) = (10 : Int32)))).2 (by decide) (by decide) k) ?_
  refine Go.of (T' := T0) (f' := (mkF m 12 #[.val (.ref ob), .val (.ref el), .val (.ref ar), .val (.int (2 : Int32))] [(.ref ar)])) (fun _ k => XS.aloadN X0.here hx rfl (hb hby d_jdk_38_method_24_code_11) rfl rfl k) ?_
  refine Go.of (T' := T0) (f' := (mkF m 13 #[.val (.ref ob), .val (.ref el), .val (.ref ar), .val (.int (2 : Int32))] [(.int (2 : Int32)), (.ref ar)])) (fun _ k => XS.iloadN X0.here hx rfl (hb hby d_jdk_38_method_24_code_12) rfl k) ?_
  refine Go.of (T' := T0) (f' := (mkF m 14 #[.val (.ref ob), .val (.ref el), .val (.ref ar), .val (.int (2 : Int32))] [(.ref el), (.int (2 : Int32)), (.ref ar)])) (fun _ k => XS.aloadN X0.here hx rfl (hb hby d_jdk_38_method_24_code_13) rfl rfl k) ?_
  obtain ⟨cl89, Ar89, qk89, S89, Ng89, H89, G89⟩ := id prem5
  obtain ⟨T89, h89, X89, e89, W89, st89⟩ := stR X0 hx hZ e0 Ar89 (j := (2 : Int32)) (inb_of S89 ⟨by decide, by decide⟩) rfl (Sto.ofV Ar89 qk89 prem7 (Ins.of_exa prem1 (hw _ (List.mem_of_getElem? (i := 84) rfl)))) (g := (mkF m 14 #[.val (.ref ob), .val (.ref el), .val (.ref ar), .val (.int (2 : Int32))] [(.ref el), (.int (2 : Int32)), (.ref ar)])) rfl rfl (hb hby d_jdk_38_method_24_code_14)
  have O90 := Old0.wr O0 W89 prem9
  have K90 := Keep.wr K0 W89 (Or.inl (List.mem_of_getElem? (i := 1) rfl))
  have f89 : Arv Z h89 ar kr (.object "java/lang/Object") (10 : Int32) [(.ref el0), (.ref el1), (.ref el), .null, .null, .null, .null, .null, .null, .null] .null := Arv.set Ar89 qk89 S89 Ng89 H89 G89 (v := (.ref el)) rfl W89 2 rfl (Nat.le_of_ble_eq_true rfl)
  have N89 := Fr.snoc X89 N0 prem9
  refine Go.of (T' := T89) (f' := (mkF m 15 #[.val (.ref ob), .val (.ref el), .val (.ref ar), .val (.int (2 : Int32))] [])) (fun _ k => st89 _ k) ?_
  refine Go.of (T' := T89) (f' := (mkF m 16 #[.val (.ref ob), .val (.ref el), .val (.ref ar), .val (.int (2 : Int32))] [(.ref ob)])) (fun _ k => XS.aloadN X89.here hx rfl (hb hby d_jdk_38_method_24_code_15) rfl rfl k) ?_
  refine Go.of (T' := T89) (f' := (mkF m 17 #[.val (.ref ob), .val (.ref el), .val (.ref ar), .val (.int (2 : Int32))] [(.int (2 : Int32)), (.ref ob)])) (fun _ k => XS.iloadN X89.here hx rfl (hb hby d_jdk_38_method_24_code_16) rfl k) ?_
  refine Go.of (T' := T89) (f' := (mkF m 18 #[.val (.ref ob), .val (.ref el), .val (.ref ar), .val (.int (2 : Int32))] [(.int (1 : Int32)), (.int (2 : Int32)), (.ref ob)])) (fun _ k => XS.iconst X89.here hx rfl (hb hby d_jdk_38_method_24_code_17) k) ?_
  refine Go.of (T' := T89) (f' := (mkF m 19 #[.val (.ref ob), .val (.ref el), .val (.ref ar), .val (.int (2 : Int32))] [(.int (3 : Int32)), (.ref ob)])) (fun _ k => XS.iadd X89.here hx rfl (hb hby d_jdk_38_method_24_code_18) rfl k) ?_
  have f92 : Exa Z h89 ob "java/util/ArrayList" := (Exa.wr W89 prem0)
  have f93 : Fld Z h89 ob "java/util/ArrayList" "size" "I" (.int (2 : Int32)) := (Fld.other W89 prem3 (Or.inl prem10))
  obtain ⟨T91, h91, X91, e91, W91, st91⟩ := putF X89 hx hZ hown (host := "") (Or.inl (hw _ (List.mem_of_getElem? (i := 61) rfl))) Via.refl e89 f93 f92 (Or.inl (hw _ (List.mem_of_getElem? (i := 62) rfl))) (hw _ (List.mem_of_getElem? (i := 5) rfl)) (ty := .int) (by decide) rfl rfl (g := (mkF m 19 #[.val (.ref ob), .val (.ref el), .val (.ref ar), .val (.int (2 : Int32))] [(.int (3 : Int32)), (.ref ob)])) rfl rfl (hb hby d_jdk_38_method_24_code_19)
  have O94 := Old0.wr O90 W91 prem8
  have K94 := Keep.wr K90 W91 (Or.inl (List.mem_of_getElem? (i := 0) rfl))
  have N91 := Fr.snoc X91 N89 prem8
  have f91 : Fld Z h91 ob "java/util/ArrayList" "size" "I" (.int (3 : Int32)) := Fld.same W91 f93
  refine Go.of (T' := T91) (f' := (mkF m 22 #[.val (.ref ob), .val (.ref el), .val (.ref ar), .val (.int (2 : Int32))] [])) (fun _ k => st91 _ k) ?_
  have f95 : Arv Z h91 ar kr (.object "java/lang/Object") (10 : Int32) [(.ref el0), (.ref el1), (.ref el), .null, .null, .null, .null, .null, .null, .null] .null := (Arv.other f89 W91 (Ne.symm prem10))
  have f96 : Fld Z h91 ob "java/util/AbstractList" "modCount" "I" (.int mc) := (Fld.other W91 (Fld.other W89 prem2 (Or.inl prem10)) (Or.inr (slot_ne (Or.inl (hw _ (List.mem_of_getElem? (i := 26) rfl))) (Or.inl (hw _ (List.mem_of_getElem? (i := 62) rfl))) (by decide) (t := .int) (t' := .int) (by decide) (by decide))))
  have f97 : Fld Z h91 ob "java/util/ArrayList" "elementData" "[Ljava/lang/Object;" (.ref ar) := (Fld.other W91 (Fld.other W89 prem4 (Or.inl prem10)) (Or.inr (slot_ne (Or.inl (hw _ (List.mem_of_getElem? (i := 29) rfl))) (Or.inl (hw _ (List.mem_of_getElem? (i := 62) rfl))) (by decide) (t := (.array (.object "java/lang/Object"))) (t' := .int) (by decide) (by decide))))
  exact Go.retV X91 hx hlk hret (hb hby d_jdk_38_method_24_code_22) (by decide) (by decide) (by rw [e91]; exact ⟨rfl, N91, K94, f95, f96, f91, f97⟩)
theorem ef_rm_add_2 (m : MethodId) (ob : Addr) (el : Addr) : entryFrame m #[(.ref ob), (.ref el)] 2 = mkF m 0 #[.val (.ref ob), .val (.ref el)] [] := by first | (simp [entryFrame, mkF, argsToLocals, Value.category]; done) | rfl
set_option maxRecDepth 65536 in
set_option maxHeartbeats 40000000 in
theorem rm_add_2 {l : Launch} {Z : State} {a0 : Array Value} {s__VALUES : Addr} {s_HITS : Addr} {s_RESULTS : Addr} {s_VALIDATE : Addr} {s_HITS_name : Addr} {s_RESULTS_name : Addr} {s_VALIDATE_name : Addr} {s_HITS_name_value : Addr} {s_RESULTS_name_value : Addr} {s_VALIDATE_name_value : Addr} {s_DEFAULTCAPACITY_EMPTY_ELEMENTDATA : Addr} {s_COMPACT_STRINGS : Int32} {cl_s__VALUES : Cell} {cl_s_HITS_name_value : Cell} {cl_s_RESULTS_name_value : Cell} {cl_s_VALIDATE_name_value : Cell} {cl_s_DEFAULTCAPACITY_EMPTY_ELEMENTDATA : Cell} (hw : ∀ d ∈ tables_1, d.before a0 Z = true) (G : own_Ctx Z s__VALUES s_HITS s_RESULTS s_VALIDATE s_HITS_name s_RESULTS_name s_VALIDATE_name s_HITS_name_value s_RESULTS_name_value s_VALIDATE_name_value s_DEFAULTCAPACITY_EMPTY_ELEMENTDATA s_COMPACT_STRINGS cl_s__VALUES cl_s_HITS_name_value cl_s_RESULTS_name_value cl_s_VALIDATE_name_value cl_s_DEFAULTCAPACITY_EMPTY_ELEMENTDATA) (ob : Addr) (el : Addr) (ar : Addr) (mc : Int32) (kr : ClassId) (el0 : Addr) (el1 : Addr) (h0 : Heap) (O0 : Ext Z.heap h0) (prem0 : Exa Z h0 ob "java/util/ArrayList") (prem1 : Exa Z h0 el "java/lang/String") (prem2 : Fld Z h0 ob "java/util/AbstractList" "modCount" "I" (.int mc)) (prem3 : Fld Z h0 ob "java/util/ArrayList" "size" "I" (.int (2 : Int32))) (prem4 : Fld Z h0 ob "java/util/ArrayList" "elementData" "[Ljava/lang/Object;" (.ref ar)) (prem5 : Arv Z h0 ar kr (.object "java/lang/Object") (10 : Int32) [(.ref el0), (.ref el1), .null, .null, .null, .null, .null, .null, .null, .null] .null) (prem6 : Exa Z h0 ar "[Ljava/lang/Object;") (prem7 : Ovr Z kr "java/lang/Object") (prem8 : Z.heap.size ≤ ob) (prem9 : Z.heap.size ≤ ar) (prem10 : ob ≠ ar) :
    Ok l Z (⟨"java/util/ArrayList", "add", "(Ljava/lang/Object;)Z"⟩ : MethodName) jdk_38_method_25_code 2 (some .boolean) ({ frames := 1, cells := 0, slots := 0, locals := 15 } : Room) #[(.ref ob), (.ref el)] h0
      (fun v h L => v = some (.int (1 : Int32)) ∧ (Fr Z.heap.size L) ∧ (Keep h0 h [ob, ar]) ∧ (Arv Z h ar kr (.object "java/lang/Object") (10 : Int32) [(.ref el0), (.ref el1), (.ref el), .null, .null, .null, .null, .null, .null, .null] .null) ∧ (Fld Z h ob "java/util/AbstractList" "modCount" "I" (.int (mc + (1 : Int32)))) ∧ (Fld Z h ob "java/util/ArrayList" "size" "I" (.int (3 : Int32))) ∧ (Fld Z h ob "java/util/ArrayList" "elementData" "[Ljava/lang/Object;" (.ref ar))) := by
  refine Ok.mk pn_java_util_ArrayList_add__Ljava_lang_Object__Z ?_
  intro p e s m below meth c T0 hx hby hml hown hnm hret hlk hZ e0 X0
  refine Go.cast (ef_rm_add_2 m ob el) ?_
  obtain ⟨S__VALUES, E_s__VALUES, S_HITS, E_s_HITS, S_RESULTS, E_s_RESULTS, S_VALIDATE, E_s_VALIDATE, F_s_HITS_name, E_s_HITS_name, F_s_RESULTS_name, E_s_RESULTS_name, F_s_VALIDATE_name, E_s_VALIDATE_name, F_s_HITS_name_coder, F_s_HITS_name_value, F_s_RESULTS_name_coder, F_s_RESULTS_name_value, F_s_VALIDATE_name_coder, F_s_VALIDATE_name_value, ne_s_HITS_name_s_RESULTS_name, ne_s_HITS_name_s_VALIDATE_name, ne_s_RESULTS_name_s_VALIDATE_name, S_DEFAULTCAPACITY_EMPTY_ELEMENTDATA, E_s_DEFAULTCAPACITY_EMPTY_ELEMENTDATA, S_COMPACT_STRINGS, hne_s_COMPACT_STRINGS_0, V_s__VALUES, V_s_HITS_name_value, V_s_RESULTS_name_value, V_s_VALIDATE_name_value, V_s_DEFAULTCAPACITY_EMPTY_ELEMENTDATA⟩ := id G
  have N0 := Fr.nil Z.heap.size
  have K0 : Keep h0 h0 [ob, ar] := Keep.refl _ _
  refine Go.of (T' := T0) (f' := (mkF m 1 #[.val (.ref ob), .val (.ref el)] [(.ref ob)])) (fun _ k => XS.aloadN X0.here hx rfl (hb hby d_jdk_38_method_25_code_0) rfl rfl k) ?_
  refine Go.of (T' := T0) (f' := (mkF m 2 #[.val (.ref ob), .val (.ref el)] [(.ref ob), (.ref ob)])) (fun _ k => XS.dup X0.here hx rfl (hb hby d_jdk_38_method_25_code_1) rfl rfl k) ?_
  obtain ⟨T98, X98, e98, st98⟩ := getF X0 hx hZ hown (host := "") (Or.inl (hw _ (List.mem_of_getElem? (i := 59) rfl))) (Via.of (hw _ (List.mem_of_getElem? (i := 60) rfl))) e0 prem2 (g := (mkF m 2 #[.val (.ref ob), .val (.ref el)] [(.ref ob), (.ref ob)])) rfl rfl (hb hby d_jdk_38_method_25_code_2)
  refine Go.of (T' := T98) (f' := (mkF m 5 #[.val (.ref ob), .val (.ref el)] [(.int mc), (.ref ob)])) (fun _ k => st98 _ k) ?_
  refine Go.of (T' := T98) (f' := (mkF m 6 #[.val (.ref ob), .val (.ref el)] [(.int (1 : Int32)), (.int mc), (.ref ob)])) (fun _ k => XS.iconst X98.here hx rfl (hb hby d_jdk_38_method_25_code_5) k) ?_
  refine Go.of (T' := T98) (f' := (mkF m 7 #[.val (.ref ob), .val (.ref el)] [(.int (mc + (1 : Int32))), (.ref ob)])) (fun _ k => XS.iadd X98.here hx rfl (hb hby d_jdk_38_method_25_code_6) rfl k) ?_
  obtain ⟨T99, h99, X99, e99, W99, st99⟩ := putF X98 hx hZ hown (host := "") (Or.inl (hw _ (List.mem_of_getElem? (i := 59) rfl))) (Via.of (hw _ (List.mem_of_getElem? (i := 60) rfl))) e98 prem2 prem0 (Or.inl (hw _ (List.mem_of_getElem? (i := 26) rfl))) (hw _ (List.mem_of_getElem? (i := 5) rfl)) (ty := .int) (by decide) rfl rfl (g := (mkF m 7 #[.val (.ref ob), .val (.ref el)] [(.int (mc + (1 : Int32))), (.ref ob)])) rfl rfl (hb hby d_jdk_38_method_25_code_7)
  have O100 := Old0.wr O0 W99 prem8
  have K100 := Keep.wr K0 W99 (Or.inl (List.mem_of_getElem? (i := 0) rfl))
  have N99 := Fr.snoc X99 N0 prem8
  have f99 : Fld Z h99 ob "java/util/AbstractList" "modCount" "I" (.int (mc + (1 : Int32))) := Fld.same W99 prem2
  refine Go.of (T' := T99) (f' := (mkF m 10 #[.val (.ref ob), .val (.ref el)] [])) (fun _ k => st99 _ k) ?_
  refine Go.of (T' := T99) (f' := (mkF m 11 #[.val (.ref ob), .val (.ref el)] [(.ref ob)])) (fun _ k => XS.aloadN X99.here hx rfl (hb hby d_jdk_38_method_25_code_10) rfl rfl k) ?_
  refine Go.of (T' := T99) (f' := (mkF m 12 #[.val (.ref ob), .val (.ref el)] [(.ref el), (.ref ob)])) (fun _ k => XS.aloadN X99.here hx rfl (hb hby d_jdk_38_method_25_code_11) rfl rfl k) ?_
  refine Go.of (T' := T99) (f' := (mkF m 13 #[.val (.ref ob), .val (.ref el)] [(.ref ob), (.ref el), (.ref ob)])) (fun _ k => XS.aloadN X99.here hx rfl (hb hby d_jdk_38_method_25_code_12) rfl rfl k) ?_
  have f102 : Fld Z h99 ob "java/util/ArrayList" "elementData" "[Ljava/lang/Object;" (.ref ar) := (Fld.other W99 prem4 (Or.inr (slot_ne (Or.inl (hw _ (List.mem_of_getElem? (i := 29) rfl))) (Or.inl (hw _ (List.mem_of_getElem? (i := 26) rfl))) (by decide) (t := (.array (.object "java/lang/Object"))) (t' := .int) (by decide) (by decide))))
  obtain ⟨T101, X101, e101, st101⟩ := getF X99 hx hZ hown (host := "") (Or.inl (hw _ (List.mem_of_getElem? (i := 28) rfl))) Via.refl e99 f102 (g := (mkF m 13 #[.val (.ref ob), .val (.ref el)] [(.ref ob), (.ref el), (.ref ob)])) rfl rfl (hb hby d_jdk_38_method_25_code_13)
  refine Go.of (T' := T101) (f' := (mkF m 16 #[.val (.ref ob), .val (.ref el)] [(.ref ar), (.ref el), (.ref ob)])) (fun _ k => st101 _ k) ?_
  refine Go.of (T' := T101) (f' := (mkF m 17 #[.val (.ref ob), .val (.ref el)] [(.ref ob), (.ref ar), (.ref el), (.ref ob)])) (fun _ k => XS.aloadN X101.here hx rfl (hb hby d_jdk_38_method_25_code_16) rfl rfl k) ?_
  have f104 : Fld Z h99 ob "java/util/ArrayList" "size" "I" (.int (2 : Int32)) := (Fld.other W99 prem3 (Or.inr (slot_ne (Or.inl (hw _ (List.mem_of_getElem? (i := 62) rfl))) (Or.inl (hw _ (List.mem_of_getElem? (i := 26) rfl))) (by decide) (t := .int) (t' := .int) (by decide) (by decide))))
  obtain ⟨T103, X103, e103, st103⟩ := getF X101 hx hZ hown (host := "") (Or.inl (hw _ (List.mem_of_getElem? (i := 61) rfl))) Via.refl e101 f104 (g := (mkF m 17 #[.val (.ref ob), .val (.ref el)] [(.ref ob), (.ref ar), (.ref el), (.ref ob)])) rfl rfl (hb hby d_jdk_38_method_25_code_17)
  refine Go.of (T' := T103) (f' := (mkF m 20 #[.val (.ref ob), .val (.ref el)] [(.int (2 : Int32)), (.ref ar), (.ref el), (.ref ob)])) (fun _ k => st103 _ k) ?_
  have f106 : Exa Z h99 ob "java/util/ArrayList" := (Exa.wr W99 prem0)
  have f107 : Exa Z h99 el "java/lang/String" := (Exa.wr W99 prem1)
  have f108 : Arv Z h99 ar kr (.object "java/lang/Object") (10 : Int32) [(.ref el0), (.ref el1), .null, .null, .null, .null, .null, .null, .null, .null] .null := (Arv.other prem5 W99 (Ne.symm prem10))
  have f109 : Exa Z h99 ar "[Ljava/lang/Object;" := (Exa.wr W99 prem6)
  obtain ⟨T105, v105, L105, X105, q105, st105⟩ := callPr X103 hx hZ (y := (⟨"java/util/ArrayList", "add", "(Ljava/lang/Object;[Ljava/lang/Object;I)V"⟩ : MethodName)) hown (hw _ (List.mem_of_getElem? (i := 63) rfl)) (hw _ (List.mem_of_getElem? (i := 64) rfl)) (hw _ (List.mem_of_getElem? (i := 66) rfl)) (hw _ (List.mem_of_getElem? (i := 65) rfl)) (hw _ (List.mem_of_getElem? (i := 6) rfl)) (hw _ (List.mem_of_getElem? (i := 67) rfl)) (by decide) (rm_add3_2 hw G ob el ar ((mc + (1 : Int32))) kr el0 el1 h99 O100 f106 f107 f99 f104 f102 f108 f109 prem7 prem8 prem9 prem10) e103 (W := 0) (by decide) (by decide) (by decide) (by decide) f106 (g := (mkF m 20 #[.val (.ref ob), .val (.ref el)] [(.int (2 : Int32)), (.ref ar), (.ref el), (.ref ob)])) rfl (by rw [hml]; rfl) (a := ob) (argsL := [(.ref el), (.ref ar), (.int (2 : Int32))]) (rest := []) (lenOf pd__Ljava_lang_Object__Ljava_lang_Object_I_V rfl) rfl rfl (by show 2 * 0 + _ ≤ _; exact Nat.le_of_eq rfl) (hb hby d_jdk_38_method_25_code_20)
  obtain ⟨rfl, N105q, K105q, p105_0, p105_1, p105_2, p105_3⟩ := q105
  have N105 := Fr.app N99 N105q
  have O110 := Old0.keep O100 K105q (allS prem8 (allS prem9 all0))
  have K110 := Keep.trans K100 K105q (allS (Or.inl (List.mem_of_getElem? (i := 0) rfl)) (allS (Or.inl (List.mem_of_getElem? (i := 1) rfl)) all0))
  refine Go.of (T' := T105) (f' := (mkF m 23 #[.val (.ref ob), .val (.ref el)] [])) (fun _ k => st105 _ k) ?_
  refine Go.of (T' := T105) (f' := (mkF m 24 #[.val (.ref ob), .val (.ref el)] [(.int (1 : Int32))])) (fun _ k => XS.iconst X105.here hx rfl (hb hby d_jdk_38_method_25_code_23) k) ?_
  exact Go.retB X105 hx hlk hret (by simp) (hb hby d_jdk_38_method_25_code_24) (by decide) (by decide) (z' := (1 : Int32)) rfl ⟨rfl, N105, K110, p105_0, p105_1, p105_2, p105_3⟩
theorem ef_rm_add3_3 (m : MethodId) (ob : Addr) (el : Addr) (ar : Addr) : entryFrame m #[(.ref ob), (.ref el), (.ref ar), (.int (3 : Int32))] 4 = mkF m 0 #[.val (.ref ob), .val (.ref el), .val (.ref ar), .val (.int (3 : Int32))] [] := by first | (simp [entryFrame, mkF, argsToLocals, Value.category]; done) | rfl
set_option maxRecDepth 65536 in
set_option maxHeartbeats 40000000 in
theorem rm_add3_3 {l : Launch} {Z : State} {a0 : Array Value} {s__VALUES : Addr} {s_HITS : Addr} {s_RESULTS : Addr} {s_VALIDATE : Addr} {s_HITS_name : Addr} {s_RESULTS_name : Addr} {s_VALIDATE_name : Addr} {s_HITS_name_value : Addr} {s_RESULTS_name_value : Addr} {s_VALIDATE_name_value : Addr} {s_DEFAULTCAPACITY_EMPTY_ELEMENTDATA : Addr} {s_COMPACT_STRINGS : Int32} {cl_s__VALUES : Cell} {cl_s_HITS_name_value : Cell} {cl_s_RESULTS_name_value : Cell} {cl_s_VALIDATE_name_value : Cell} {cl_s_DEFAULTCAPACITY_EMPTY_ELEMENTDATA : Cell} (hw : ∀ d ∈ tables_1, d.before a0 Z = true) (G : own_Ctx Z s__VALUES s_HITS s_RESULTS s_VALIDATE s_HITS_name s_RESULTS_name s_VALIDATE_name s_HITS_name_value s_RESULTS_name_value s_VALIDATE_name_value s_DEFAULTCAPACITY_EMPTY_ELEMENTDATA s_COMPACT_STRINGS cl_s__VALUES cl_s_HITS_name_value cl_s_RESULTS_name_value cl_s_VALIDATE_name_value cl_s_DEFAULTCAPACITY_EMPTY_ELEMENTDATA) (ob : Addr) (el : Addr) (ar : Addr) (mc : Int32) (kr : ClassId) (el0 : Addr) (el1 : Addr) (el2 : Addr) (h0 : Heap) (O0 : Ext Z.heap h0) (prem0 : Exa Z h0 ob "java/util/ArrayList") (prem1 : Exa Z h0 el "java/lang/String") (prem2 : Fld Z h0 ob "java/util/AbstractList" "modCount" "I" (.int mc)) (prem3 : Fld Z h0 ob "java/util/ArrayList" "size" "I" (.int (3 : Int32))) (prem4 : Fld Z h0 ob "java/util/ArrayList" "elementData" "[Ljava/lang/Object;" (.ref ar)) (prem5 : Arv Z h0 ar kr (.object "java/lang/Object") (10 : Int32) [(.ref el0), (.ref el1), (.ref el2), .null, .null, .null, .null, .null, .null, .null] .null) (prem6 : Exa Z h0 ar "[Ljava/lang/Object;") (prem7 : Ovr Z kr "java/lang/Object") (prem8 : Z.heap.size ≤ ob) (prem9 : Z.heap.size ≤ ar) (prem10 : ob ≠ ar) :
    Ok l Z (⟨"java/util/ArrayList", "add", "(Ljava/lang/Object;[Ljava/lang/Object;I)V"⟩ : MethodName) jdk_38_method_24_code 4 none ({ frames := 0, cells := 0, slots := 0, locals := 0 } : Room) #[(.ref ob), (.ref el), (.ref ar), (.int (3 : Int32))] h0
      (fun v h L => v = none ∧ (Fr Z.heap.size L) ∧ (Keep h0 h [ob, ar]) ∧ (Arv Z h ar kr (.object "java/lang/Object") (10 : Int32) [(.ref el0), (.ref el1), (.ref el2), (.ref el), .null, .null, .null, .null, .null, .null] .null) ∧ (Fld Z h ob "java/util/AbstractList" "modCount" "I" (.int mc)) ∧ (Fld Z h ob "java/util/ArrayList" "size" "I" (.int (4 : Int32))) ∧ (Fld Z h ob "java/util/ArrayList" "elementData" "[Ljava/lang/Object;" (.ref ar))) := by
  refine Ok.mk pn_java_util_ArrayList_add__Ljava_lang_Object__Ljava_lang_Object_I_V ?_
  intro p e s m below meth c T0 hx hby hml hown hnm hret hlk hZ e0 X0
  refine Go.cast (ef_rm_add3_3 m ob el ar) ?_
  obtain ⟨S__VALUES, E_s__VALUES, S_HITS, E_s_HITS, S_RESULTS, E_s_RESULTS, S_VALIDATE, E_s_VALIDATE, F_s_HITS_name, E_s_HITS_name, F_s_RESULTS_name, E_s_RESULTS_name, F_s_VALIDATE_name, E_s_VALIDATE_name, F_s_HITS_name_coder, F_s_HITS_name_value, F_s_RESULTS_name_coder, F_s_RESULTS_name_value, F_s_VALIDATE_name_coder, F_s_VALIDATE_name_value, ne_s_HITS_name_s_RESULTS_name, ne_s_HITS_name_s_VALIDATE_name, ne_s_RESULTS_name_s_VALIDATE_name, S_DEFAULTCAPACITY_EMPTY_ELEMENTDATA, E_s_DEFAULTCAPACITY_EMPTY_ELEMENTDATA, S_COMPACT_STRINGS, hne_s_COMPACT_STRINGS_0, V_s__VALUES, V_s_HITS_name_value, V_s_RESULTS_name_value, V_s_VALIDATE_name_value, V_s_DEFAULTCAPACITY_EMPTY_ELEMENTDATA⟩ := id G
  have N0 := Fr.nil Z.heap.size
  have K0 : Keep h0 h0 [ob, ar] := Keep.refl _ _
  refine Go.of (T' := T0) (f' := (mkF m 1 #[.val (.ref ob), .val (.ref el), .val (.ref ar), .val (.int (3 : Int32))] [(.int (3 : Int32))])) (fun _ k => XS.iloadN X0.here hx rfl (hb hby d_jdk_38_method_24_code_0) rfl k) ?_
  refine Go.of (T' := T0) (f' := (mkF m 2 #[.val (.ref ob), .val (.ref el), .val (.ref ar), .val (.int (3 : Int32))] [(.ref ar), (.int (3 : Int32))])) (fun _ k => XS.aloadN X0.here hx rfl (hb hby d_jdk_38_method_24_code_1) rfl rfl k) ?_
  obtain ⟨cl111, Ar111, qk111, S111, Ng111, H111, G111⟩ := id prem5
  refine Go.of (T' := T0) (f' := (mkF m 3 #[.val (.ref ob), .val (.ref el), .val (.ref ar), .val (.int (3 : Int32))] [(.int (10 : Int32)), (.int (3 : Int32))])) (fun _ k => X0.arraylength hx (by rw [e0]; exact Ar111.1) (State.isArrayOf_alike hZ.alike Ar111.2.1) (g := (mkF m 2 #[.val (.ref ob), .val (.ref el), .val (.ref ar), .val (.int (3 : Int32))] [(.ref ar), (.int (3 : Int32))])) rfl rfl (hb hby d_jdk_38_method_24_code_2) _ (by rw [len_of S111 Ng111]; exact k)) ?_
  refine Go.of (T' := T0) (f' := (mkF m 11 #[.val (.ref ob), .val (.ref el), .val (.ref ar), .val (.int (3 : Int32))] [])) (fun _ k => XS.icmpYes X0.here hx rfl (pc0 := 3) (pc' := 11) rfl (hb hby d_jdk_38_method_24_code_3) rfl (feq (by decide : ¬ ((3 : Int32) = (10 : Int32)))).2 (by decide) (by decide) k) ?_
  refine Go.of (T' := T0) (f' := (mkF m 12 #[.val (.ref ob), .val (.ref el), .val (.ref ar), .val (.int (3 : Int32))] [(.ref ar)])) (fun _ k => XS.aloadN X0.here hx rfl (hb hby d_jdk_38_method_24_code_11) rfl rfl k) ?_
  refine Go.of (T' := T0) (f' := (mkF m 13 #[.val (.ref ob), .val (.ref el), .val (.ref ar), .val (.int (3 : Int32))] [(.int (3 : Int32)), (.ref ar)])) (fun _ k => XS.iloadN X0.here hx rfl (hb hby d_jdk_38_method_24_code_12) rfl k) ?_
  refine Go.of (T' := T0) (f' := (mkF m 14 #[.val (.ref ob), .val (.ref el), .val (.ref ar), .val (.int (3 : Int32))] [(.ref el), (.int (3 : Int32)), (.ref ar)])) (fun _ k => XS.aloadN X0.here hx rfl (hb hby d_jdk_38_method_24_code_13) rfl rfl k) ?_
  obtain ⟨cl113, Ar113, qk113, S113, Ng113, H113, G113⟩ := id prem5
  obtain ⟨T113, h113, X113, e113, W113, st113⟩ := stR X0 hx hZ e0 Ar113 (j := (3 : Int32)) (inb_of S113 ⟨by decide, by decide⟩) rfl (Sto.ofV Ar113 qk113 prem7 (Ins.of_exa prem1 (hw _ (List.mem_of_getElem? (i := 84) rfl)))) (g := (mkF m 14 #[.val (.ref ob), .val (.ref el), .val (.ref ar), .val (.int (3 : Int32))] [(.ref el), (.int (3 : Int32)), (.ref ar)])) rfl rfl (hb hby d_jdk_38_method_24_code_14)
  have O114 := Old0.wr O0 W113 prem9
  have K114 := Keep.wr K0 W113 (Or.inl (List.mem_of_getElem? (i := 1) rfl))
  have f113 : Arv Z h113 ar kr (.object "java/lang/Object") (10 : Int32) [(.ref el0), (.ref el1), (.ref el2), (.ref el), .null, .null, .null, .null, .null, .null] .null := Arv.set Ar113 qk113 S113 Ng113 H113 G113 (v := (.ref el)) rfl W113 3 rfl (Nat.le_of_ble_eq_true rfl)
  have N113 := Fr.snoc X113 N0 prem9
  refine Go.of (T' := T113) (f' := (mkF m 15 #[.val (.ref ob), .val (.ref el), .val (.ref ar), .val (.int (3 : Int32))] [])) (fun _ k => st113 _ k) ?_
  refine Go.of (T' := T113) (f' := (mkF m 16 #[.val (.ref ob), .val (.ref el), .val (.ref ar), .val (.int (3 : Int32))] [(.ref ob)])) (fun _ k => XS.aloadN X113.here hx rfl (hb hby d_jdk_38_method_24_code_15) rfl rfl k) ?_
  refine Go.of (T' := T113) (f' := (mkF m 17 #[.val (.ref ob), .val (.ref el), .val (.ref ar), .val (.int (3 : Int32))] [(.int (3 : Int32)), (.ref ob)])) (fun _ k => XS.iloadN X113.here hx rfl (hb hby d_jdk_38_method_24_code_16) rfl k) ?_
  refine Go.of (T' := T113) (f' := (mkF m 18 #[.val (.ref ob), .val (.ref el), .val (.ref ar), .val (.int (3 : Int32))] [(.int (1 : Int32)), (.int (3 : Int32)), (.ref ob)])) (fun _ k => XS.iconst X113.here hx rfl (hb hby d_jdk_38_method_24_code_17) k) ?_
  refine Go.of (T' := T113) (f' := (mkF m 19 #[.val (.ref ob), .val (.ref el), .val (.ref ar), .val (.int (3 : Int32))] [(.int (4 : Int32)), (.ref ob)])) (fun _ k => XS.iadd X113.here hx rfl (hb hby d_jdk_38_method_24_code_18) rfl k) ?_
  have f116 : Exa Z h113 ob "java/util/ArrayList" := (Exa.wr W113 prem0)
  have f117 : Fld Z h113 ob "java/util/ArrayList" "size" "I" (.int (3 : Int32)) := (Fld.other W113 prem3 (Or.inl prem10))
  obtain ⟨T115, h115, X115, e115, W115, st115⟩ := putF X113 hx hZ hown (host := "") (Or.inl (hw _ (List.mem_of_getElem? (i := 61) rfl))) Via.refl e113 f117 f116 (Or.inl (hw _ (List.mem_of_getElem? (i := 62) rfl))) (hw _ (List.mem_of_getElem? (i := 5) rfl)) (ty := .int) (by decide) rfl rfl (g := (mkF m 19 #[.val (.ref ob), .val (.ref el), .val (.ref ar), .val (.int (3 : Int32))] [(.int (4 : Int32)), (.ref ob)])) rfl rfl (hb hby d_jdk_38_method_24_code_19)
  have O118 := Old0.wr O114 W115 prem8
  have K118 := Keep.wr K114 W115 (Or.inl (List.mem_of_getElem? (i := 0) rfl))
  have N115 := Fr.snoc X115 N113 prem8
  have f115 : Fld Z h115 ob "java/util/ArrayList" "size" "I" (.int (4 : Int32)) := Fld.same W115 f117
  refine Go.of (T' := T115) (f' := (mkF m 22 #[.val (.ref ob), .val (.ref el), .val (.ref ar), .val (.int (3 : Int32))] [])) (fun _ k => st115 _ k) ?_
  have f119 : Arv Z h115 ar kr (.object "java/lang/Object") (10 : Int32) [(.ref el0), (.ref el1), (.ref el2), (.ref el), .null, .null, .null, .null, .null, .null] .null := (Arv.other f113 W115 (Ne.symm prem10))
  have f120 : Fld Z h115 ob "java/util/AbstractList" "modCount" "I" (.int mc) := (Fld.other W115 (Fld.other W113 prem2 (Or.inl prem10)) (Or.inr (slot_ne (Or.inl (hw _ (List.mem_of_getElem? (i := 26) rfl))) (Or.inl (hw _ (List.mem_of_getElem? (i := 62) rfl))) (by decide) (t := .int) (t' := .int) (by decide) (by decide))))
  have f121 : Fld Z h115 ob "java/util/ArrayList" "elementData" "[Ljava/lang/Object;" (.ref ar) := (Fld.other W115 (Fld.other W113 prem4 (Or.inl prem10)) (Or.inr (slot_ne (Or.inl (hw _ (List.mem_of_getElem? (i := 29) rfl))) (Or.inl (hw _ (List.mem_of_getElem? (i := 62) rfl))) (by decide) (t := (.array (.object "java/lang/Object"))) (t' := .int) (by decide) (by decide))))
  exact Go.retV X115 hx hlk hret (hb hby d_jdk_38_method_24_code_22) (by decide) (by decide) (by rw [e115]; exact ⟨rfl, N115, K118, f119, f120, f115, f121⟩)
theorem ef_rm_add_3 (m : MethodId) (ob : Addr) (el : Addr) : entryFrame m #[(.ref ob), (.ref el)] 2 = mkF m 0 #[.val (.ref ob), .val (.ref el)] [] := by first | (simp [entryFrame, mkF, argsToLocals, Value.category]; done) | rfl
set_option maxRecDepth 65536 in
set_option maxHeartbeats 40000000 in
theorem rm_add_3 {l : Launch} {Z : State} {a0 : Array Value} {s__VALUES : Addr} {s_HITS : Addr} {s_RESULTS : Addr} {s_VALIDATE : Addr} {s_HITS_name : Addr} {s_RESULTS_name : Addr} {s_VALIDATE_name : Addr} {s_HITS_name_value : Addr} {s_RESULTS_name_value : Addr} {s_VALIDATE_name_value : Addr} {s_DEFAULTCAPACITY_EMPTY_ELEMENTDATA : Addr} {s_COMPACT_STRINGS : Int32} {cl_s__VALUES : Cell} {cl_s_HITS_name_value : Cell} {cl_s_RESULTS_name_value : Cell} {cl_s_VALIDATE_name_value : Cell} {cl_s_DEFAULTCAPACITY_EMPTY_ELEMENTDATA : Cell} (hw : ∀ d ∈ tables_1, d.before a0 Z = true) (G : own_Ctx Z s__VALUES s_HITS s_RESULTS s_VALIDATE s_HITS_name s_RESULTS_name s_VALIDATE_name s_HITS_name_value s_RESULTS_name_value s_VALIDATE_name_value s_DEFAULTCAPACITY_EMPTY_ELEMENTDATA s_COMPACT_STRINGS cl_s__VALUES cl_s_HITS_name_value cl_s_RESULTS_name_value cl_s_VALIDATE_name_value cl_s_DEFAULTCAPACITY_EMPTY_ELEMENTDATA) (ob : Addr) (el : Addr) (ar : Addr) (mc : Int32) (kr : ClassId) (el0 : Addr) (el1 : Addr) (el2 : Addr) (h0 : Heap) (O0 : Ext Z.heap h0) (prem0 : Exa Z h0 ob "java/util/ArrayList") (prem1 : Exa Z h0 el "java/lang/String") (prem2 : Fld Z h0 ob "java/util/AbstractList" "modCount" "I" (.int mc)) (prem3 : Fld Z h0 ob "java/util/ArrayList" "size" "I" (.int (3 : Int32))) (prem4 : Fld Z h0 ob "java/util/ArrayList" "elementData" "[Ljava/lang/Object;" (.ref ar)) (prem5 : Arv Z h0 ar kr (.object "java/lang/Object") (10 : Int32) [(.ref el0), (.ref el1), (.ref el2), .null, .null, .null, .null, .null, .null, .null] .null) (prem6 : Exa Z h0 ar "[Ljava/lang/Object;") (prem7 : Ovr Z kr "java/lang/Object") (prem8 : Z.heap.size ≤ ob) (prem9 : Z.heap.size ≤ ar) (prem10 : ob ≠ ar) :
    Ok l Z (⟨"java/util/ArrayList", "add", "(Ljava/lang/Object;)Z"⟩ : MethodName) jdk_38_method_25_code 2 (some .boolean) ({ frames := 1, cells := 0, slots := 0, locals := 15 } : Room) #[(.ref ob), (.ref el)] h0
      (fun v h L => v = some (.int (1 : Int32)) ∧ (Fr Z.heap.size L) ∧ (Keep h0 h [ob, ar]) ∧ (Arv Z h ar kr (.object "java/lang/Object") (10 : Int32) [(.ref el0), (.ref el1), (.ref el2), (.ref el), .null, .null, .null, .null, .null, .null] .null) ∧ (Fld Z h ob "java/util/AbstractList" "modCount" "I" (.int (mc + (1 : Int32)))) ∧ (Fld Z h ob "java/util/ArrayList" "size" "I" (.int (4 : Int32))) ∧ (Fld Z h ob "java/util/ArrayList" "elementData" "[Ljava/lang/Object;" (.ref ar))) := by
  refine Ok.mk pn_java_util_ArrayList_add__Ljava_lang_Object__Z ?_
  intro p e s m below meth c T0 hx hby hml hown hnm hret hlk hZ e0 X0
  refine Go.cast (ef_rm_add_3 m ob el) ?_
  obtain ⟨S__VALUES, E_s__VALUES, S_HITS, E_s_HITS, S_RESULTS, E_s_RESULTS, S_VALIDATE, E_s_VALIDATE, F_s_HITS_name, E_s_HITS_name, F_s_RESULTS_name, E_s_RESULTS_name, F_s_VALIDATE_name, E_s_VALIDATE_name, F_s_HITS_name_coder, F_s_HITS_name_value, F_s_RESULTS_name_coder, F_s_RESULTS_name_value, F_s_VALIDATE_name_coder, F_s_VALIDATE_name_value, ne_s_HITS_name_s_RESULTS_name, ne_s_HITS_name_s_VALIDATE_name, ne_s_RESULTS_name_s_VALIDATE_name, S_DEFAULTCAPACITY_EMPTY_ELEMENTDATA, E_s_DEFAULTCAPACITY_EMPTY_ELEMENTDATA, S_COMPACT_STRINGS, hne_s_COMPACT_STRINGS_0, V_s__VALUES, V_s_HITS_name_value, V_s_RESULTS_name_value, V_s_VALIDATE_name_value, V_s_DEFAULTCAPACITY_EMPTY_ELEMENTDATA⟩ := id G
  have N0 := Fr.nil Z.heap.size
  have K0 : Keep h0 h0 [ob, ar] := Keep.refl _ _
  refine Go.of (T' := T0) (f' := (mkF m 1 #[.val (.ref ob), .val (.ref el)] [(.ref ob)])) (fun _ k => XS.aloadN X0.here hx rfl (hb hby d_jdk_38_method_25_code_0) rfl rfl k) ?_
  refine Go.of (T' := T0) (f' := (mkF m 2 #[.val (.ref ob), .val (.ref el)] [(.ref ob), (.ref ob)])) (fun _ k => XS.dup X0.here hx rfl (hb hby d_jdk_38_method_25_code_1) rfl rfl k) ?_
  obtain ⟨T122, X122, e122, st122⟩ := getF X0 hx hZ hown (host := "") (Or.inl (hw _ (List.mem_of_getElem? (i := 59) rfl))) (Via.of (hw _ (List.mem_of_getElem? (i := 60) rfl))) e0 prem2 (g := (mkF m 2 #[.val (.ref ob), .val (.ref el)] [(.ref ob), (.ref ob)])) rfl rfl (hb hby d_jdk_38_method_25_code_2)
  refine Go.of (T' := T122) (f' := (mkF m 5 #[.val (.ref ob), .val (.ref el)] [(.int mc), (.ref ob)])) (fun _ k => st122 _ k) ?_
  refine Go.of (T' := T122) (f' := (mkF m 6 #[.val (.ref ob), .val (.ref el)] [(.int (1 : Int32)), (.int mc), (.ref ob)])) (fun _ k => XS.iconst X122.here hx rfl (hb hby d_jdk_38_method_25_code_5) k) ?_
  refine Go.of (T' := T122) (f' := (mkF m 7 #[.val (.ref ob), .val (.ref el)] [(.int (mc + (1 : Int32))), (.ref ob)])) (fun _ k => XS.iadd X122.here hx rfl (hb hby d_jdk_38_method_25_code_6) rfl k) ?_
  obtain ⟨T123, h123, X123, e123, W123, st123⟩ := putF X122 hx hZ hown (host := "") (Or.inl (hw _ (List.mem_of_getElem? (i := 59) rfl))) (Via.of (hw _ (List.mem_of_getElem? (i := 60) rfl))) e122 prem2 prem0 (Or.inl (hw _ (List.mem_of_getElem? (i := 26) rfl))) (hw _ (List.mem_of_getElem? (i := 5) rfl)) (ty := .int) (by decide) rfl rfl (g := (mkF m 7 #[.val (.ref ob), .val (.ref el)] [(.int (mc + (1 : Int32))), (.ref ob)])) rfl rfl (hb hby d_jdk_38_method_25_code_7)
  have O124 := Old0.wr O0 W123 prem8
  have K124 := Keep.wr K0 W123 (Or.inl (List.mem_of_getElem? (i := 0) rfl))
  have N123 := Fr.snoc X123 N0 prem8
  have f123 : Fld Z h123 ob "java/util/AbstractList" "modCount" "I" (.int (mc + (1 : Int32))) := Fld.same W123 prem2
  refine Go.of (T' := T123) (f' := (mkF m 10 #[.val (.ref ob), .val (.ref el)] [])) (fun _ k => st123 _ k) ?_
  refine Go.of (T' := T123) (f' := (mkF m 11 #[.val (.ref ob), .val (.ref el)] [(.ref ob)])) (fun _ k => XS.aloadN X123.here hx rfl (hb hby d_jdk_38_method_25_code_10) rfl rfl k) ?_
  refine Go.of (T' := T123) (f' := (mkF m 12 #[.val (.ref ob), .val (.ref el)] [(.ref el), (.ref ob)])) (fun _ k => XS.aloadN X123.here hx rfl (hb hby d_jdk_38_method_25_code_11) rfl rfl k) ?_
  refine Go.of (T' := T123) (f' := (mkF m 13 #[.val (.ref ob), .val (.ref el)] [(.ref ob), (.ref el), (.ref ob)])) (fun _ k => XS.aloadN X123.here hx rfl (hb hby d_jdk_38_method_25_code_12) rfl rfl k) ?_
  have f126 : Fld Z h123 ob "java/util/ArrayList" "elementData" "[Ljava/lang/Object;" (.ref ar) := (Fld.other W123 prem4 (Or.inr (slot_ne (Or.inl (hw _ (List.mem_of_getElem? (i := 29) rfl))) (Or.inl (hw _ (List.mem_of_getElem? (i := 26) rfl))) (by decide) (t := (.array (.object "java/lang/Object"))) (t' := .int) (by decide) (by decide))))
  obtain ⟨T125, X125, e125, st125⟩ := getF X123 hx hZ hown (host := "") (Or.inl (hw _ (List.mem_of_getElem? (i := 28) rfl))) Via.refl e123 f126 (g := (mkF m 13 #[.val (.ref ob), .val (.ref el)] [(.ref ob), (.ref el), (.ref ob)])) rfl rfl (hb hby d_jdk_38_method_25_code_13)
  refine Go.of (T' := T125) (f' := (mkF m 16 #[.val (.ref ob), .val (.ref el)] [(.ref ar), (.ref el), (.ref ob)])) (fun _ k => st125 _ k) ?_
  refine Go.of (T' := T125) (f' := (mkF m 17 #[.val (.ref ob), .val (.ref el)] [(.ref ob), (.ref ar), (.ref el), (.ref ob)])) (fun _ k => XS.aloadN X125.here hx rfl (hb hby d_jdk_38_method_25_code_16) rfl rfl k) ?_
  have f128 : Fld Z h123 ob "java/util/ArrayList" "size" "I" (.int (3 : Int32)) := (Fld.other W123 prem3 (Or.inr (slot_ne (Or.inl (hw _ (List.mem_of_getElem? (i := 62) rfl))) (Or.inl (hw _ (List.mem_of_getElem? (i := 26) rfl))) (by decide) (t := .int) (t' := .int) (by decide) (by decide))))
  obtain ⟨T127, X127, e127, st127⟩ := getF X125 hx hZ hown (host := "") (Or.inl (hw _ (List.mem_of_getElem? (i := 61) rfl))) Via.refl e125 f128 (g := (mkF m 17 #[.val (.ref ob), .val (.ref el)] [(.ref ob), (.ref ar), (.ref el), (.ref ob)])) rfl rfl (hb hby d_jdk_38_method_25_code_17)
  refine Go.of (T' := T127) (f' := (mkF m 20 #[.val (.ref ob), .val (.ref el)] [(.int (3 : Int32)), (.ref ar), (.ref el), (.ref ob)])) (fun _ k => st127 _ k) ?_
  have f130 : Exa Z h123 ob "java/util/ArrayList" := (Exa.wr W123 prem0)
  have f131 : Exa Z h123 el "java/lang/String" := (Exa.wr W123 prem1)
  have f132 : Arv Z h123 ar kr (.object "java/lang/Object") (10 : Int32) [(.ref el0), (.ref el1), (.ref el2), .null, .null, .null, .null, .null, .null, .null] .null := (Arv.other prem5 W123 (Ne.symm prem10))
  have f133 : Exa Z h123 ar "[Ljava/lang/Object;" := (Exa.wr W123 prem6)
  obtain ⟨T129, v129, L129, X129, q129, st129⟩ := callPr X127 hx hZ (y := (⟨"java/util/ArrayList", "add", "(Ljava/lang/Object;[Ljava/lang/Object;I)V"⟩ : MethodName)) hown (hw _ (List.mem_of_getElem? (i := 63) rfl)) (hw _ (List.mem_of_getElem? (i := 64) rfl)) (hw _ (List.mem_of_getElem? (i := 66) rfl)) (hw _ (List.mem_of_getElem? (i := 65) rfl)) (hw _ (List.mem_of_getElem? (i := 6) rfl)) (hw _ (List.mem_of_getElem? (i := 67) rfl)) (by decide) (rm_add3_3 hw G ob el ar ((mc + (1 : Int32))) kr el0 el1 el2 h123 O124 f130 f131 f123 f128 f126 f132 f133 prem7 prem8 prem9 prem10) e127 (W := 0) (by decide) (by decide) (by decide) (by decide) f130 (g := (mkF m 20 #[.val (.ref ob), .val (.ref el)] [(.int (3 : Int32)), (.ref ar), (.ref el), (.ref ob)])) rfl (by rw [hml]; rfl) (a := ob) (argsL := [(.ref el), (.ref ar), (.int (3 : Int32))]) (rest := []) (lenOf pd__Ljava_lang_Object__Ljava_lang_Object_I_V rfl) rfl rfl (by show 2 * 0 + _ ≤ _; exact Nat.le_of_eq rfl) (hb hby d_jdk_38_method_25_code_20)
  obtain ⟨rfl, N129q, K129q, p129_0, p129_1, p129_2, p129_3⟩ := q129
  have N129 := Fr.app N123 N129q
  have O134 := Old0.keep O124 K129q (allS prem8 (allS prem9 all0))
  have K134 := Keep.trans K124 K129q (allS (Or.inl (List.mem_of_getElem? (i := 0) rfl)) (allS (Or.inl (List.mem_of_getElem? (i := 1) rfl)) all0))
  refine Go.of (T' := T129) (f' := (mkF m 23 #[.val (.ref ob), .val (.ref el)] [])) (fun _ k => st129 _ k) ?_
  refine Go.of (T' := T129) (f' := (mkF m 24 #[.val (.ref ob), .val (.ref el)] [(.int (1 : Int32))])) (fun _ k => XS.iconst X129.here hx rfl (hb hby d_jdk_38_method_25_code_23) k) ?_
  exact Go.retB X129 hx hlk hret (by simp) (hb hby d_jdk_38_method_25_code_24) (by decide) (by decide) (z' := (1 : Int32)) rfl ⟨rfl, N129, K134, p129_0, p129_1, p129_2, p129_3⟩
theorem d_prog_4_method_1_code_0 : decode prog_4_method_1_code 0 = .ok (.getstatic 13, 3) := by decide +kernel
theorem d_prog_4_method_1_code_3 : decode prog_4_method_1_code 3 = .ok (.invokevirtual 17, 3) := by decide +kernel
theorem d_prog_4_method_1_code_6 : decode prog_4_method_1_code 6 = .ok (.checkcast 18, 3) := by decide +kernel
theorem d_prog_4_method_1_code_9 : decode prog_4_method_1_code 9 = .ok (.areturn, 1) := by decide +kernel
theorem ef_rm_values (m : MethodId)  : entryFrame m #[] 0 = mkF m 0 #[] [] := by first | (simp [entryFrame, mkF, argsToLocals, Value.category]; done) | rfl
theorem pn_com_example_fair_index_fairindex_csw_ResultType_values____Lcom_example_fair_index_fairindex_csw_ResultType_ : plainFor (⟨"com/example/fair_index/fairindex/csw/ResultType", "values", "()[Lcom/example/fair_index/fairindex/csw/ResultType;"⟩ : MethodName) = true := by first | exact plainFor_of_name (by first | (simp [plainName, overriddenIn]; done) | decide +kernel) | decide +kernel
set_option maxRecDepth 65536 in
set_option maxHeartbeats 40000000 in
theorem rm_values {l : Launch} {Z : State} {a0 : Array Value} {s__VALUES : Addr} {s_HITS : Addr} {s_RESULTS : Addr} {s_VALIDATE : Addr} {s_HITS_name : Addr} {s_RESULTS_name : Addr} {s_VALIDATE_name : Addr} {s_HITS_name_value : Addr} {s_RESULTS_name_value : Addr} {s_VALIDATE_name_value : Addr} {s_DEFAULTCAPACITY_EMPTY_ELEMENTDATA : Addr} {s_COMPACT_STRINGS : Int32} {cl_s__VALUES : Cell} {cl_s_HITS_name_value : Cell} {cl_s_RESULTS_name_value : Cell} {cl_s_VALIDATE_name_value : Cell} {cl_s_DEFAULTCAPACITY_EMPTY_ELEMENTDATA : Cell} (hw : ∀ d ∈ tables_1, d.before a0 Z = true) (G : own_Ctx Z s__VALUES s_HITS s_RESULTS s_VALIDATE s_HITS_name s_RESULTS_name s_VALIDATE_name s_HITS_name_value s_RESULTS_name_value s_VALIDATE_name_value s_DEFAULTCAPACITY_EMPTY_ELEMENTDATA s_COMPACT_STRINGS cl_s__VALUES cl_s_HITS_name_value cl_s_RESULTS_name_value cl_s_VALIDATE_name_value cl_s_DEFAULTCAPACITY_EMPTY_ELEMENTDATA)   (h0 : Heap) (O0 : Ext Z.heap h0)  :
    Ok l Z (⟨"com/example/fair_index/fairindex/csw/ResultType", "values", "()[Lcom/example/fair_index/fairindex/csw/ResultType;"⟩ : MethodName) prog_4_method_1_code 0 (some (.array (.object "com/example/fair_index/fairindex/csw/ResultType"))) ({ frames := 1, cells := 1, slots := 3, locals := 14 } : Room) #[] h0
      (fun v h L => ∃ r : Addr, v = some (.ref r) ∧ (Fr Z.heap.size L) ∧ (Keep h0 h []) ∧ (h0.size ≤ r) ∧ (Arv Z h r cl_s__VALUES.cls (.object "com/example/fair_index/fairindex/csw/ResultType") (3 : Int32) [(.ref s_HITS), (.ref s_RESULTS), (.ref s_VALIDATE)] .null) ∧ (Exa Z h r "[Lcom/example/fair_index/fairindex/csw/ResultType;")) := by
  refine Ok.mk pn_com_example_fair_index_fairindex_csw_ResultType_values____Lcom_example_fair_index_fairindex_csw_ResultType_ ?_
  intro p e s m below meth c T0 hx hby hml hown hnm hret hlk hZ e0 X0
  refine Go.cast (ef_rm_values m ) ?_
  obtain ⟨S__VALUES, E_s__VALUES, S_HITS, E_s_HITS, S_RESULTS, E_s_RESULTS, S_VALIDATE, E_s_VALIDATE, F_s_HITS_name, E_s_HITS_name, F_s_RESULTS_name, E_s_RESULTS_name, F_s_VALIDATE_name, E_s_VALIDATE_name, F_s_HITS_name_coder, F_s_HITS_name_value, F_s_RESULTS_name_coder, F_s_RESULTS_name_value, F_s_VALIDATE_name_coder, F_s_VALIDATE_name_value, ne_s_HITS_name_s_RESULTS_name, ne_s_HITS_name_s_VALIDATE_name, ne_s_RESULTS_name_s_VALIDATE_name, S_DEFAULTCAPACITY_EMPTY_ELEMENTDATA, E_s_DEFAULTCAPACITY_EMPTY_ELEMENTDATA, S_COMPACT_STRINGS, hne_s_COMPACT_STRINGS_0, V_s__VALUES, V_s_HITS_name_value, V_s_RESULTS_name_value, V_s_VALIDATE_name_value, V_s_DEFAULTCAPACITY_EMPTY_ELEMENTDATA⟩ := id G
  have N0 := Fr.nil Z.heap.size
  have K0 : Keep h0 h0 [] := Keep.refl _ _
  obtain ⟨T135, X135, e135, st135⟩ := getS2 X0 hx hZ hown (host := "") (Or.inl (hw _ (List.mem_of_getElem? (i := 33) rfl))) Via.refl e0 (Sta.ext O0 S__VALUES) (g := (mkF m 0 #[] [])) rfl (hb hby d_prog_4_method_1_code_0)
  refine Go.of (T' := T135) (f' := (mkF m 3 #[] [(.ref s__VALUES)])) (fun _ k => st135 _ k) ?_
  obtain ⟨T136, h136, b136, q136, X136, e136, E136, V136, A136, st136⟩ := cloneV X135 hx hZ hown (hw _ (List.mem_of_getElem? (i := 35) rfl)) (hw _ (List.mem_of_getElem? (i := 36) rfl)) (hw _ (List.mem_of_getElem? (i := 40) rfl)) (hw _ (List.mem_of_getElem? (i := 38) rfl)) (hw _ (List.mem_of_getElem? (i := 39) rfl)) (hw _ (List.mem_of_getElem? (i := 41) rfl)) e135 (Arv.ext V_s__VALUES O0) (Exa.ext O0 E_s__VALUES) (g := (mkF m 3 #[] [(.ref s__VALUES)])) rfl (by rw [hml]; rfl) rfl (hb hby d_prog_4_method_1_code_3) (by decide) (W := 0) (cap := 3) (by show 2 * 0 + _ ≤ _; exact Nat.le_of_eq rfl) (by decide) (by decide) (by decide) (by decide)
  have O137 := Old0.ext O0 E136
  have K137 := Keep.ext K0 E136
  have g_b136 : Z.heap.size ≤ b136 := q136 ▸ O0.1
  have z_b136 : h0.size ≤ b136 := q136 ▸ K0.1
  refine Go.of (T' := T136) (f' := (mkF m 6 #[] [(.ref b136)])) (fun _ k => st136 _ k) ?_
  obtain ⟨T138, X138, e138, st138⟩ := castY X136 hx hZ hown (hw _ (List.mem_of_getElem? (i := 46) rfl)) e136 (Ins.self A136) (g := (mkF m 6 #[] [(.ref b136)])) rfl rfl (hb hby d_prog_4_method_1_code_6)
  refine Go.of (T' := T138) (f' := (mkF m 9 #[] [(.ref b136)])) (fun _ k => st138 _ k) ?_
  exact Go.retA X138 hx hlk hret rfl rfl (hb hby d_prog_4_method_1_code_9) (by decide) (by decide) (by rw [e138]; exact ⟨b136, rfl, N0, K137, z_b136, V136, A136⟩)
theorem d_prog_4_method_5_code_0 : decode prog_4_method_5_code 0 = .ok (.new 46, 3) := by decide +kernel
theorem d_prog_4_method_5_code_3 : decode prog_4_method_5_code 3 = .ok (.dup, 1) := by decide +kernel
theorem d_prog_4_method_5_code_4 : decode prog_4_method_5_code 4 = .ok (.invokespecial 48, 3) := by decide +kernel
theorem d_prog_4_method_5_code_7 : decode prog_4_method_5_code 7 = .ok (.astore_n 0, 1) := by decide +kernel
theorem d_prog_4_method_5_code_8 : decode prog_4_method_5_code 8 = .ok (.invokestatic 36, 3) := by decide +kernel
theorem pd____Lcom_example_fair_index_fairindex_csw_ResultType_ : parseMethodDescriptor "()[Lcom/example/fair_index/fairindex/csw/ResultType;" = some ⟨[], some (.array (.object "com/example/fair_index/fairindex/csw/ResultType"))⟩ := by decide +kernel
theorem d_prog_4_method_5_code_11 : decode prog_4_method_5_code 11 = .ok (.astore_n 1, 1) := by decide +kernel
theorem d_prog_4_method_5_code_12 : decode prog_4_method_5_code 12 = .ok (.aload_n 1, 1) := by decide +kernel
theorem d_prog_4_method_5_code_13 : decode prog_4_method_5_code 13 = .ok (.arraylength, 1) := by decide +kernel
theorem d_prog_4_method_5_code_14 : decode prog_4_method_5_code 14 = .ok (.istore_n 2, 1) := by decide +kernel
theorem d_prog_4_method_5_code_15 : decode prog_4_method_5_code 15 = .ok (.iconst 0, 1) := by decide +kernel
theorem d_prog_4_method_5_code_16 : decode prog_4_method_5_code 16 = .ok (.istore_n 3, 1) := by decide +kernel
theorem d_prog_4_method_5_code_17 : decode prog_4_method_5_code 17 = .ok (.iload_n 3, 1) := by decide +kernel
theorem d_prog_4_method_5_code_18 : decode prog_4_method_5_code 18 = .ok (.iload_n 2, 1) := by decide +kernel
theorem d_prog_4_method_5_code_19 : decode prog_4_method_5_code 19 = .ok (.if_icmp .ge 26, 3) := by decide +kernel
theorem d_prog_4_method_5_code_22 : decode prog_4_method_5_code 22 = .ok (.aload_n 1, 1) := by decide +kernel
theorem d_prog_4_method_5_code_23 : decode prog_4_method_5_code 23 = .ok (.iload_n 3, 1) := by decide +kernel
theorem d_prog_4_method_5_code_24 : decode prog_4_method_5_code 24 = .ok (.aaload, 1) := by decide +kernel
theorem d_prog_4_method_5_code_25 : decode prog_4_method_5_code 25 = .ok (.astore 4, 2) := by decide +kernel
theorem d_prog_4_method_5_code_27 : decode prog_4_method_5_code 27 = .ok (.aload_n 0, 1) := by decide +kernel
theorem d_prog_4_method_5_code_28 : decode prog_4_method_5_code 28 = .ok (.aload 4, 2) := by decide +kernel
theorem d_prog_4_method_5_code_30 : decode prog_4_method_5_code 30 = .ok (.getfield 32, 3) := by decide +kernel
theorem d_prog_4_method_5_code_33 : decode prog_4_method_5_code 33 = .ok (.invokeinterface 51 2, 5) := by decide +kernel
theorem pd__Ljava_lang_Object__Z : parseMethodDescriptor "(Ljava/lang/Object;)Z" = some ⟨[(.object "java/lang/Object")], some .boolean⟩ := by decide +kernel
theorem d_prog_4_method_5_code_38 : decode prog_4_method_5_code 38 = .ok (.pop, 1) := by decide +kernel
theorem d_prog_4_method_5_code_39 : decode prog_4_method_5_code 39 = .ok (.iinc 3 1, 3) := by decide +kernel
theorem d_prog_4_method_5_code_42 : decode prog_4_method_5_code 42 = .ok (.goto (-25), 3) := by decide +kernel
theorem d_prog_4_method_5_code_45 : decode prog_4_method_5_code 45 = .ok (.aload_n 0, 1) := by decide +kernel
theorem d_prog_4_method_5_code_46 : decode prog_4_method_5_code 46 = .ok (.areturn, 1) := by decide +kernel
theorem ef_rm_names (m : MethodId)  : entryFrame m #[] 5 = mkF m 0 #[.unset, .unset, .unset, .unset, .unset] [] := by first | (simp [entryFrame, mkF, argsToLocals, Value.category]; done) | rfl
theorem pn_com_example_fair_index_fairindex_csw_ResultType_names___Ljava_util_List_ : plainFor (⟨"com/example/fair_index/fairindex/csw/ResultType", "names", "()Ljava/util/List;"⟩ : MethodName) = true := by first | exact plainFor_of_name (by first | (simp [plainName, overriddenIn]; done) | decide +kernel) | decide +kernel
set_option maxRecDepth 65536 in
set_option maxHeartbeats 40000000 in
theorem rm_names {l : Launch} {Z : State} {a0 : Array Value} {s__VALUES : Addr} {s_HITS : Addr} {s_RESULTS : Addr} {s_VALIDATE : Addr} {s_HITS_name : Addr} {s_RESULTS_name : Addr} {s_VALIDATE_name : Addr} {s_HITS_name_value : Addr} {s_RESULTS_name_value : Addr} {s_VALIDATE_name_value : Addr} {s_DEFAULTCAPACITY_EMPTY_ELEMENTDATA : Addr} {s_COMPACT_STRINGS : Int32} {cl_s__VALUES : Cell} {cl_s_HITS_name_value : Cell} {cl_s_RESULTS_name_value : Cell} {cl_s_VALIDATE_name_value : Cell} {cl_s_DEFAULTCAPACITY_EMPTY_ELEMENTDATA : Cell} (hw : ∀ d ∈ tables_1, d.before a0 Z = true) (G : own_Ctx Z s__VALUES s_HITS s_RESULTS s_VALIDATE s_HITS_name s_RESULTS_name s_VALIDATE_name s_HITS_name_value s_RESULTS_name_value s_VALIDATE_name_value s_DEFAULTCAPACITY_EMPTY_ELEMENTDATA s_COMPACT_STRINGS cl_s__VALUES cl_s_HITS_name_value cl_s_RESULTS_name_value cl_s_VALIDATE_name_value cl_s_DEFAULTCAPACITY_EMPTY_ELEMENTDATA)   (h0 : Heap) (O0 : Ext Z.heap h0)  :
    Ok l Z (⟨"com/example/fair_index/fairindex/csw/ResultType", "names", "()Ljava/util/List;"⟩ : MethodName) prog_4_method_5_code 5 (some (.object "java/util/List")) ({ frames := 5, cells := 3, slots := 16, locals := 69 } : Room) #[] h0
      (fun v h L => ∃ ob : Addr, ∃ ar : Addr, ∃ kr : ClassId, ∃ mc : Int32, v = some (.ref ob) ∧ (Fr Z.heap.size L) ∧ (Keep h0 h []) ∧ (h0.size ≤ ob) ∧ (h0.size ≤ ar) ∧ (ob ≠ ar) ∧ (Exa Z h ob "java/util/ArrayList") ∧ (Fld Z h ob "java/util/ArrayList" "size" "I" (.int (3 : Int32))) ∧ (Fld Z h ob "java/util/ArrayList" "elementData" "[Ljava/lang/Object;" (.ref ar)) ∧ (Fld Z h ob "java/util/AbstractList" "modCount" "I" (.int mc)) ∧ (Arv Z h ar kr (.object "java/lang/Object") (10 : Int32) [(.ref s_HITS_name), (.ref s_RESULTS_name), (.ref s_VALIDATE_name), .null, .null, .null, .null, .null, .null, .null] .null) ∧ (Exa Z h ar "[Ljava/lang/Object;") ∧ (Ovr Z kr "java/lang/Object")) := by
  refine Ok.mk pn_com_example_fair_index_fairindex_csw_ResultType_names___Ljava_util_List_ ?_
  intro p e s m below meth c T0 hx hby hml hown hnm hret hlk hZ e0 X0
  refine Go.cast (ef_rm_names m ) ?_
  obtain ⟨S__VALUES, E_s__VALUES, S_HITS, E_s_HITS, S_RESULTS, E_s_RESULTS, S_VALIDATE, E_s_VALIDATE, F_s_HITS_name, E_s_HITS_name, F_s_RESULTS_name, E_s_RESULTS_name, F_s_VALIDATE_name, E_s_VALIDATE_name, F_s_HITS_name_coder, F_s_HITS_name_value, F_s_RESULTS_name_coder, F_s_RESULTS_name_value, F_s_VALIDATE_name_coder, F_s_VALIDATE_name_value, ne_s_HITS_name_s_RESULTS_name, ne_s_HITS_name_s_VALIDATE_name, ne_s_RESULTS_name_s_VALIDATE_name, S_DEFAULTCAPACITY_EMPTY_ELEMENTDATA, E_s_DEFAULTCAPACITY_EMPTY_ELEMENTDATA, S_COMPACT_STRINGS, hne_s_COMPACT_STRINGS_0, V_s__VALUES, V_s_HITS_name_value, V_s_RESULTS_name_value, V_s_VALIDATE_name_value, V_s_DEFAULTCAPACITY_EMPTY_ELEMENTDATA⟩ := id G
  have N0 := Fr.nil Z.heap.size
  have K0 : Keep h0 h0 [] := Keep.refl _ _
  obtain ⟨T139, h139, b139, q139, X139, e139, E139, A139, D139, st139⟩ := newOb X0 hx hZ hown (hw _ (List.mem_of_getElem? (i := 4) rfl)) (hw _ (List.mem_of_getElem? (i := 5) rfl)) (hw _ (List.mem_of_getElem? (i := 6) rfl)) e0 (g := (mkF m 0 #[.unset, .unset, .unset, .unset, .unset] [])) rfl (hb hby d_prog_4_method_5_code_0) (by decide) (by decide)
  have O140 := Old0.ext O0 E139
  have K140 := Keep.ext K0 E139
  have g_b139 : Z.heap.size ≤ b139 := q139 ▸ O0.1
  have z_b139 : h0.size ≤ b139 := q139 ▸ K0.1
  have f141 : Fld Z h139 b139 "java/util/AbstractList" "modCount" "I" (.int (0 : Int32)) := D139 (Or.inl (hw _ (List.mem_of_getElem? (i := 26) rfl))) (ty := .int) (by decide)
  have f142 : Fld Z h139 b139 "java/util/ArrayList" "elementData" "[Ljava/lang/Object;" .null := D139 (Or.inl (hw _ (List.mem_of_getElem? (i := 29) rfl))) (ty := (.array (.object "java/lang/Object"))) (by decide)
  have f143 : Fld Z h139 b139 "java/util/ArrayList" "size" "I" (.int (0 : Int32)) := D139 (Or.inl (hw _ (List.mem_of_getElem? (i := 62) rfl))) (ty := .int) (by decide)
  refine Go.of (T' := T139) (f' := (mkF m 3 #[.unset, .unset, .unset, .unset, .unset] [(.ref b139)])) (fun _ k => st139 _ k) ?_
  refine Go.of (T' := T139) (f' := (mkF m 4 #[.unset, .unset, .unset, .unset, .unset] [(.ref b139), (.ref b139)])) (fun _ k => XS.dup X139.here hx rfl (hb hby d_prog_4_method_5_code_3) rfl rfl k) ?_
  obtain ⟨T144, v144, L144, X144, q144, st144⟩ := callNew X139 hx hZ (y := (⟨"java/util/ArrayList", "<init>", "()V"⟩ : MethodName)) rfl hown (hw _ (List.mem_of_getElem? (i := 7) rfl)) (hw _ (List.mem_of_getElem? (i := 8) rfl)) (hw _ (List.mem_of_getElem? (i := 6) rfl)) (hw _ (List.mem_of_getElem? (i := 9) rfl)) (by decide) (rm_alinit hw G b139  h139 O140 A139 f141 f143 f142 g_b139) e139 (W := 1) (by decide) (by decide) (by decide) (by decide) (g := (mkF m 4 #[.unset, .unset, .unset, .unset, .unset] [(.ref b139), (.ref b139)])) rfl (by rw [hml]; rfl) (a := b139) (argsL := []) (rest := [(.ref b139)]) (lenOf pd___V rfl) rfl rfl (by show 2 * 0 + _ ≤ _; exact Nat.le_of_eq rfl) (hb hby d_prog_4_method_5_code_4)
  obtain ⟨rfl, N144q, K144q, p144_0, p144_1, p144_2⟩ := q144
  have N144 := Fr.app N0 N144q
  have O145 := Old0.keep O140 K144q (allS g_b139 all0)
  have K145 := Keep.trans K140 K144q (allS (Or.inr z_b139) all0)
  refine Go.of (T' := T144) (f' := (mkF m 7 #[.unset, .unset, .unset, .unset, .unset] [(.ref b139)])) (fun _ k => st144 _ k) ?_
  refine Go.of (T' := T144) (f' := (mkF m 8 #[.val (.ref b139), .unset, .unset, .unset, .unset] [])) (fun _ k => XS.astoreN X144.here hx rfl (hb hby d_prog_4_method_5_code_7) rfl rfl (l' := #[.val (.ref b139), .unset, .unset, .unset, .unset]) rfl k) ?_
  have f147 : Exa Z T144.heap b139 "java/util/ArrayList" := (Exa.keep A139 K144q)
  obtain ⟨T146, v146, L146, X146, q146, st146⟩ := callSt X144 hx hZ (y := (⟨"com/example/fair_index/fairindex/csw/ResultType", "values", "()[Lcom/example/fair_index/fairindex/csw/ResultType;"⟩ : MethodName)) hown (hw _ (List.mem_of_getElem? (i := 30) rfl)) (hw _ (List.mem_of_getElem? (i := 31) rfl)) (hw _ (List.mem_of_getElem? (i := 2) rfl)) (hw _ (List.mem_of_getElem? (i := 32) rfl)) (by decide) (rm_values hw G   T144.heap O145 ) rfl (W := 0) (by decide) (by decide) (by decide) (by decide) (g := (mkF m 8 #[.val (.ref b139), .unset, .unset, .unset, .unset] [])) rfl (by rw [hml]; rfl) (argsL := []) (rest := []) (lenOf pd____Lcom_example_fair_index_fairindex_csw_ResultType_ rfl) rfl rfl (by show 2 * 0 + _ ≤ _; exact Nat.le_of_eq rfl) (hb hby d_prog_4_method_5_code_8)
  obtain ⟨r_146, rfl, N146q, K146q, p146_0, p146_1, p146_2⟩ := q146
  have N146 := Fr.app N144 N146q
  have O148 := Old0.keep O145 K146q all0
  have K148 := Keep.trans K145 K146q all0
  have z_r_146 : h0.size ≤ r_146 := Nat.le_trans K145.1 p146_0
  have g_r_146 : Z.heap.size ≤ r_146 := Nat.le_trans O145.1 p146_0
  have ne_b139_r_146 : b139 ≠ r_146 := Nat.ne_of_lt (Nat.lt_of_lt_of_le f147.lt p146_0)
  refine Go.of (T' := T146) (f' := (mkF m 11 #[.val (.ref b139), .unset, .unset, .unset, .unset] [(.ref r_146)])) (fun _ k => st146 _ k) ?_
  refine Go.of (T' := T146) (f' := (mkF m 12 #[.val (.ref b139), .val (.ref r_146), .unset, .unset, .unset] [])) (fun _ k => XS.astoreN X146.here hx rfl (hb hby d_prog_4_method_5_code_11) rfl rfl (l' := #[.val (.ref b139), .val (.ref r_146), .unset, .unset, .unset]) rfl k) ?_
  refine Go.of (T' := T146) (f' := (mkF m 13 #[.val (.ref b139), .val (.ref r_146), .unset, .unset, .unset] [(.ref r_146)])) (fun _ k => XS.aloadN X146.here hx rfl (hb hby d_prog_4_method_5_code_12) rfl rfl k) ?_
  obtain ⟨cl149, Ar149, qk149, S149, Ng149, H149, G149⟩ := id p146_1
  refine Go.of (T' := T146) (f' := (mkF m 14 #[.val (.ref b139), .val (.ref r_146), .unset, .unset, .unset] [(.int (3 : Int32))])) (fun _ k => X146.arraylength hx Ar149.1 (State.isArrayOf_alike hZ.alike Ar149.2.1) (g := (mkF m 13 #[.val (.ref b139), .val (.ref r_146), .unset, .unset, .unset] [(.ref r_146)])) rfl rfl (hb hby d_prog_4_method_5_code_13) _ (by rw [len_of S149 Ng149]; exact k)) ?_
  refine Go.of (T' := T146) (f' := (mkF m 15 #[.val (.ref b139), .val (.ref r_146), .val (.int (3 : Int32)), .unset, .unset] [])) (fun _ k => XS.istoreN X146.here hx rfl (hb hby d_prog_4_method_5_code_14) rfl (l' := #[.val (.ref b139), .val (.ref r_146), .val (.int (3 : Int32)), .unset, .unset]) rfl k) ?_
  refine Go.of (T' := T146) (f' := (mkF m 16 #[.val (.ref b139), .val (.ref r_146), .val (.int (3 : Int32)), .unset, .unset] [(.int (0 : Int32))])) (fun _ k => XS.iconst X146.here hx rfl (hb hby d_prog_4_method_5_code_15) k) ?_
  refine Go.of (T' := T146) (f' := (mkF m 17 #[.val (.ref b139), .val (.ref r_146), .val (.int (3 : Int32)), .val (.int (0 : Int32)), .unset] [])) (fun _ k => XS.istoreN X146.here hx rfl (hb hby d_prog_4_method_5_code_16) rfl (l' := #[.val (.ref b139), .val (.ref r_146), .val (.int (3 : Int32)), .val (.int (0 : Int32)), .unset]) rfl k) ?_
  refine Go.of (T' := T146) (f' := (mkF m 18 #[.val (.ref b139), .val (.ref r_146), .val (.int (3 : Int32)), .val (.int (0 : Int32)), .unset] [(.int (0 : Int32))])) (fun _ k => XS.iloadN X146.here hx rfl (hb hby d_prog_4_method_5_code_17) rfl k) ?_
  refine Go.of (T' := T146) (f' := (mkF m 19 #[.val (.ref b139), .val (.ref r_146), .val (.int (3 : Int32)), .val (.int (0 : Int32)), .unset] [(.int (3 : Int32)), (.int (0 : Int32))])) (fun _ k => XS.iloadN X146.here hx rfl (hb hby d_prog_4_method_5_code_18) rfl k) ?_
  refine Go.of (T' := T146) (f' := (mkF m 22 #[.val (.ref b139), .val (.ref r_146), .val (.int (3 : Int32)), .val (.int (0 : Int32)), .unset] [])) (fun _ k => XS.icmpNo X146.here hx rfl (hb hby d_prog_4_method_5_code_19) rfl (tlt (by decide : (0 : Int32) < (3 : Int32))).2.1 k) ?_
  refine Go.of (T' := T146) (f' := (mkF m 23 #[.val (.ref b139), .val (.ref r_146), .val (.int (3 : Int32)), .val (.int (0 : Int32)), .unset] [(.ref r_146)])) (fun _ k => XS.aloadN X146.here hx rfl (hb hby d_prog_4_method_5_code_22) rfl rfl k) ?_
  refine Go.of (T' := T146) (f' := (mkF m 24 #[.val (.ref b139), .val (.ref r_146), .val (.int (3 : Int32)), .val (.int (0 : Int32)), .unset] [(.int (0 : Int32)), (.ref r_146)])) (fun _ k => XS.iloadN X146.here hx rfl (hb hby d_prog_4_method_5_code_23) rfl k) ?_
  obtain ⟨cl151, Ar151, qk151, S151, Ng151, H151, G151⟩ := id p146_1
  have hin151 := inb_of (j := (0 : Int32)) S151 ⟨by decide, by decide⟩
  refine Go.of (T' := T146) (f' := (mkF m 25 #[.val (.ref b139), .val (.ref r_146), .val (.int (3 : Int32)), .val (.int (0 : Int32)), .unset] [(.ref s_HITS)])) (fun _ k => X146.aaload hx (j := (0 : Int32)) (v := (.ref s_HITS)) Ar151.1 (State.isArrayOf_alike hZ.alike Ar151.2.1) rfl Ar151.2.2 hin151 (H151.at hin151 rfl) (g := (mkF m 24 #[.val (.ref b139), .val (.ref r_146), .val (.int (3 : Int32)), .val (.int (0 : Int32)), .unset] [(.int (0 : Int32)), (.ref r_146)])) rfl rfl (hb hby d_prog_4_method_5_code_24) _ k) ?_
  refine Go.of (T' := T146) (f' := (mkF m 27 #[.val (.ref b139), .val (.ref r_146), .val (.int (3 : Int32)), .val (.int (0 : Int32)), .val (.ref s_HITS)] [])) (fun _ k => XS.astore X146.here hx rfl (hb hby d_prog_4_method_5_code_25) rfl rfl (l' := #[.val (.ref b139), .val (.ref r_146), .val (.int (3 : Int32)), .val (.int (0 : Int32)), .val (.ref s_HITS)]) rfl k) ?_
  refine Go.of (T' := T146) (f' := (mkF m 28 #[.val (.ref b139), .val (.ref r_146), .val (.int (3 : Int32)), .val (.int (0 : Int32)), .val (.ref s_HITS)] [(.ref b139)])) (fun _ k => XS.aloadN X146.here hx rfl (hb hby d_prog_4_method_5_code_27) rfl rfl k) ?_
  refine Go.of (T' := T146) (f' := (mkF m 30 #[.val (.ref b139), .val (.ref r_146), .val (.int (3 : Int32)), .val (.int (0 : Int32)), .val (.ref s_HITS)] [(.ref s_HITS), (.ref b139)])) (fun _ k => XS.aload X146.here hx rfl (hb hby d_prog_4_method_5_code_28) rfl rfl k) ?_
  obtain ⟨T152, X152, e152, st152⟩ := getF X146 hx hZ hown (host := "") (Or.inl (hw _ (List.mem_of_getElem? (i := 48) rfl))) Via.refl rfl (Fld.ext O148 F_s_HITS_name) (g := (mkF m 30 #[.val (.ref b139), .val (.ref r_146), .val (.int (3 : Int32)), .val (.int (0 : Int32)), .val (.ref s_HITS)] [(.ref s_HITS), (.ref b139)])) rfl rfl (hb hby d_prog_4_method_5_code_30)
  refine Go.of (T' := T152) (f' := (mkF m 33 #[.val (.ref b139), .val (.ref r_146), .val (.int (3 : Int32)), .val (.int (0 : Int32)), .val (.ref s_HITS)] [(.ref s_HITS_name), (.ref b139)])) (fun _ k => st152 _ k) ?_
  have f154 : Exa Z T146.heap b139 "java/util/ArrayList" := (Exa.keep f147 K146q)
  have f155 : Fld Z T146.heap b139 "java/util/AbstractList" "modCount" "I" (.int (0 : Int32)) := (Fld.keep p144_0 K146q nin0)
  have f156 : Fld Z T146.heap b139 "java/util/ArrayList" "size" "I" (.int (0 : Int32)) := (Fld.keep p144_1 K146q nin0)
  have f157 : Fld Z T146.heap b139 "java/util/ArrayList" "elementData" "[Ljava/lang/Object;" (.ref s_DEFAULTCAPACITY_EMPTY_ELEMENTDATA) := (Fld.keep p144_2 K146q nin0)
  obtain ⟨T153, v153, L153, X153, q153, st153⟩ := callIf X152 hx hZ (xi := (⟨"java/util/List", "add", "(Ljava/lang/Object;)Z"⟩ : MethodName)) (y := (⟨"java/util/ArrayList", "add", "(Ljava/lang/Object;)Z"⟩ : MethodName)) hown (hw _ (List.mem_of_getElem? (i := 50) rfl)) (hw _ (List.mem_of_getElem? (i := 51) rfl)) (mvT hZ (hw _ (List.mem_of_getElem? (i := 52) rfl))) (hw _ (List.mem_of_getElem? (i := 53) rfl)) (hw _ (List.mem_of_getElem? (i := 54) rfl)) (hw _ (List.mem_of_getElem? (i := 55) rfl)) (hw _ (List.mem_of_getElem? (i := 56) rfl)) (hw _ (List.mem_of_getElem? (i := 57) rfl)) (hw _ (List.mem_of_getElem? (i := 58) rfl)) (hw _ (List.mem_of_getElem? (i := 6) rfl)) (by decide) (rm_add_0 hw G b139 s_HITS_name ((0 : Int32)) T146.heap O148 f154 (Exa.ext O148 E_s_HITS_name) f155 f156 f157 g_b139) e152 (W := 0) (by decide) (by decide) (by decide) (by decide) f154 (g := (mkF m 33 #[.val (.ref b139), .val (.ref r_146), .val (.int (3 : Int32)), .val (.int (0 : Int32)), .val (.ref s_HITS)] [(.ref s_HITS_name), (.ref b139)])) rfl (by rw [hml]; rfl) (argsL := [(.ref s_HITS_name)]) (rest := []) (lenOf pd__Ljava_lang_Object__Z rfl) rfl rfl (by show 2 * 0 + _ ≤ _; exact Nat.le_of_eq rfl) (hb hby d_prog_4_method_5_code_33)
  obtain ⟨ar_153, kr_153, rfl, N153q, K153q, p153_0, p153_1, p153_2, p153_3, p153_4, p153_5, p153_6⟩ := q153
  have N153 := Fr.app N146 N153q
  have O158 := Old0.keep O148 K153q (allS g_b139 all0)
  have K158 := Keep.trans K148 K153q (allS (Or.inr z_b139) all0)
  have z_ar_153 : h0.size ≤ ar_153 := Nat.le_trans K148.1 p153_0
  have g_ar_153 : Z.heap.size ≤ ar_153 := Nat.le_trans O148.1 p153_0
  have ne_b139_ar_153 : b139 ≠ ar_153 := Nat.ne_of_lt (Nat.lt_of_lt_of_le f154.lt p153_0)
  have ne_r_146_ar_153 : r_146 ≠ ar_153 := Nat.ne_of_lt (Nat.lt_of_lt_of_le p146_2.lt p153_0)
  refine Go.of (T' := T153) (f' := (mkF m 38 #[.val (.ref b139), .val (.ref r_146), .val (.int (3 : Int32)), .val (.int (0 : Int32)), .val (.ref s_HITS)] [(.int (1 : Int32))])) (fun _ k => st153 _ k) ?_
  refine Go.of (T' := T153) (f' := (mkF m 39 #[.val (.ref b139), .val (.ref r_146), .val (.int (3 : Int32)), .val (.int (0 : Int32)), .val (.ref s_HITS)] [])) (fun _ k => XT.pop X153.here hx rfl (hb hby d_prog_4_method_5_code_38) rfl rfl k) ?_
  refine Go.of (T' := T153) (f' := (mkF m 42 #[.val (.ref b139), .val (.ref r_146), .val (.int (3 : Int32)), .val (.int (1 : Int32)), .val (.ref s_HITS)] [])) (fun _ k => XS.iinc X153.here hx rfl (hb hby d_prog_4_method_5_code_39) rfl (l' := #[.val (.ref b139), .val (.ref r_146), .val (.int (3 : Int32)), .val (.int (1 : Int32)), .val (.ref s_HITS)]) rfl k) ?_
  refine Go.of (T' := T153) (f' := (mkF m 17 #[.val (.ref b139), .val (.ref r_146), .val (.int (3 : Int32)), .val (.int (1 : Int32)), .val (.ref s_HITS)] [])) (fun _ k => XS.goto X153.here hx rfl (pc0 := 42) (pc' := 17) rfl (hb hby d_prog_4_method_5_code_42) (by decide) (by decide) k) ?_
  refine Go.of (T' := T153) (f' := (mkF m 18 #[.val (.ref b139), .val (.ref r_146), .val (.int (3 : Int32)), .val (.int (1 : Int32)), .val (.ref s_HITS)] [(.int (1 : Int32))])) (fun _ k => XS.iloadN X153.here hx rfl (hb hby d_prog_4_method_5_code_17) rfl k) ?_
  refine Go.of (T' := T153) (f' := (mkF m 19 #[.val (.ref b139), .val (.ref r_146), .val (.int (3 : Int32)), .val (.int (1 : Int32)), .val (.ref s_HITS)] [(.int (3 : Int32)), (.int (1 : Int32))])) (fun _ k => XS.iloadN X153.here hx rfl (hb hby d_prog_4_method_5_code_18) rfl k) ?_
  refine Go.of (T' := T153) (f' := (mkF m 22 #[.val (.ref b139), .val (.ref r_146), .val (.int (3 : Int32)), .val (.int (1 : Int32)), .val (.ref s_HITS)] [])) (fun _ k => XS.icmpNo X153.here hx rfl (hb hby d_prog_4_method_5_code_19) rfl (tlt (by decide : (1 : Int32) < (3 : Int32))).2.1 k) ?_
  refine Go.of (T' := T153) (f' := (mkF m 23 #[.val (.ref b139), .val (.ref r_146), .val (.int (3 : Int32)), .val (.int (1 : Int32)), .val (.ref s_HITS)] [(.ref r_146)])) (fun _ k => XS.aloadN X153.here hx rfl (hb hby d_prog_4_method_5_code_22) rfl rfl k) ?_
  refine Go.of (T' := T153) (f' := (mkF m 24 #[.val (.ref b139), .val (.ref r_146), .val (.int (3 : Int32)), .val (.int (1 : Int32)), .val (.ref s_HITS)] [(.int (1 : Int32)), (.ref r_146)])) (fun _ k => XS.iloadN X153.here hx rfl (hb hby d_prog_4_method_5_code_23) rfl k) ?_
  have f161 : Arv Z T153.heap r_146 cl_s__VALUES.cls (.object "com/example/fair_index/fairindex/csw/ResultType") (3 : Int32) [(.ref s_HITS), (.ref s_RESULTS), (.ref s_VALIDATE)] .null := (Arv.keep p146_1 K153q (ninS (Ne.symm ne_b139_r_146) nin0))
  obtain ⟨cl160, Ar160, qk160, S160, Ng160, H160, G160⟩ := id f161
  have hin160 := inb_of (j := (1 : Int32)) S160 ⟨by decide, by decide⟩
  refine Go.of (T' := T153) (f' := (mkF m 25 #[.val (.ref b139), .val (.ref r_146), .val (.int (3 : Int32)), .val (.int (1 : Int32)), .val (.ref s_HITS)] [(.ref s_RESULTS)])) (fun _ k => X153.aaload hx (j := (1 : Int32)) (v := (.ref s_RESULTS)) Ar160.1 (State.isArrayOf_alike hZ.alike Ar160.2.1) rfl Ar160.2.2 hin160 (H160.at hin160 rfl) (g := (mkF m 24 #[.val (.ref b139), .val (.ref r_146), .val (.int (3 : Int32)), .val (.int (1 : Int32)), .val (.ref s_HITS)] [(.int (1 : Int32)), (.ref r_146)])) rfl rfl (hb hby d_prog_4_method_5_code_24) _ k) ?_
  refine Go.of (T' := T153) (f' := (mkF m 27 #[.val (.ref b139), .val (.ref r_146), .val (.int (3 : Int32)), .val (.int (1 : Int32)), .val (.ref s_RESULTS)] [])) (fun _ k => XS.astore X153.here hx rfl (hb hby d_prog_4_method_5_code_25) rfl rfl (l' := #[.val (.ref b139), .val (.ref r_146), .val (.int (3 : Int32)), .val (.int (1 : Int32)), .val (.ref s_RESULTS)]) rfl k) ?_
  refine Go.of (T' := T153) (f' := (mkF m 28 #[.val (.ref b139), .val (.ref r_146), .val (.int (3 : Int32)), .val (.int (1 : Int32)), .val (.ref s_RESULTS)] [(.ref b139)])) (fun _ k => XS.aloadN X153.here hx rfl (hb hby d_prog_4_method_5_code_27) rfl rfl k) ?_
  refine Go.of (T' := T153) (f' := (mkF m 30 #[.val (.ref b139), .val (.ref r_146), .val (.int (3 : Int32)), .val (.int (1 : Int32)), .val (.ref s_RESULTS)] [(.ref s_RESULTS), (.ref b139)])) (fun _ k => XS.aload X153.here hx rfl (hb hby d_prog_4_method_5_code_28) rfl rfl k) ?_
  obtain ⟨T162, X162, e162, st162⟩ := getF X153 hx hZ hown (host := "") (Or.inl (hw _ (List.mem_of_getElem? (i := 48) rfl))) Via.refl rfl (Fld.ext O158 F_s_RESULTS_name) (g := (mkF m 30 #[.val (.ref b139), .val (.ref r_146), .val (.int (3 : Int32)), .val (.int (1 : Int32)), .val (.ref s_RESULTS)] [(.ref s_RESULTS), (.ref b139)])) rfl rfl (hb hby d_prog_4_method_5_code_30)
  refine Go.of (T' := T162) (f' := (mkF m 33 #[.val (.ref b139), .val (.ref r_146), .val (.int (3 : Int32)), .val (.int (1 : Int32)), .val (.ref s_RESULTS)] [(.ref s_RESULTS_name), (.ref b139)])) (fun _ k => st162 _ k) ?_
  have f164 : Exa Z T153.heap b139 "java/util/ArrayList" := (Exa.keep f154 K153q)
  obtain ⟨T163, v163, L163, X163, q163, st163⟩ := callIf X162 hx hZ (xi := (⟨"java/util/List", "add", "(Ljava/lang/Object;)Z"⟩ : MethodName)) (y := (⟨"java/util/ArrayList", "add", "(Ljava/lang/Object;)Z"⟩ : MethodName)) hown (hw _ (List.mem_of_getElem? (i := 50) rfl)) (hw _ (List.mem_of_getElem? (i := 51) rfl)) (mvT hZ (hw _ (List.mem_of_getElem? (i := 52) rfl))) (hw _ (List.mem_of_getElem? (i := 53) rfl)) (hw _ (List.mem_of_getElem? (i := 54) rfl)) (hw _ (List.mem_of_getElem? (i := 55) rfl)) (hw _ (List.mem_of_getElem? (i := 56) rfl)) (hw _ (List.mem_of_getElem? (i := 57) rfl)) (hw _ (List.mem_of_getElem? (i := 58) rfl)) (hw _ (List.mem_of_getElem? (i := 6) rfl)) (by decide) (rm_add_1 hw G b139 s_RESULTS_name ar_153 (((0 : Int32) + (1 : Int32))) kr_153 s_HITS_name T153.heap O158 f164 (Exa.ext O158 E_s_RESULTS_name) p153_4 p153_5 p153_6 p153_1 p153_2 p153_3 g_b139 g_ar_153 ne_b139_ar_153) e162 (W := 0) (by decide) (by decide) (by decide) (by decide) f164 (g := (mkF m 33 #[.val (.ref b139), .val (.ref r_146), .val (.int (3 : Int32)), .val (.int (1 : Int32)), .val (.ref s_RESULTS)] [(.ref s_RESULTS_name), (.ref b139)])) rfl (by rw [hml]; rfl) (argsL := [(.ref s_RESULTS_name)]) (rest := []) (lenOf pd__Ljava_lang_Object__Z rfl) rfl rfl (by show 2 * 0 + _ ≤ _; exact Nat.le_of_eq rfl) (hb hby d_prog_4_method_5_code_33)
  obtain ⟨rfl, N163q, K163q, p163_0, p163_1, p163_2, p163_3⟩ := q163
  have N163 := Fr.app N153 N163q
  have O165 := Old0.keep O158 K163q (allS g_b139 (allS g_ar_153 all0))
  have K165 := Keep.trans K158 K163q (allS (Or.inr z_b139) (allS (Or.inr z_ar_153) all0))
  refine Go.of (T' := T163) (f' := (mkF m 38 #[.val (.ref b139), .val (.ref r_146), .val (.int (3 : Int32)), .val (.int (1 : Int32)), .val (.ref s_RESULTS)] [(.int (1 : Int32))])) (fun _ k => st163 _ k) ?_
  refine Go.of (T' := T163) (f' := (mkF m 39 #[.val (.ref b139), .val (.ref r_146), .val (.int (3 : Int32)), .val (.int (1 : Int32)), .val (.ref s_RESULTS)] [])) (fun _ k => XT.pop X163.here hx rfl (hb hby d_prog_4_method_5_code_38) rfl rfl k) ?_
  refine Go.of (T' := T163) (f' := (mkF m 42 #[.val (.ref b139), .val (.ref r_146), .val (.int (3 : Int32)), .val (.int (2 : Int32)), .val (.ref s_RESULTS)] [])) (fun _ k => XS.iinc X163.here hx rfl (hb hby d_prog_4_method_5_code_39) rfl (l' := #[.val (.ref b139), .val (.ref r_146), .val (.int (3 : Int32)), .val (.int (2 : Int32)), .val (.ref s_RESULTS)]) rfl k) ?_
  refine Go.of (T' := T163) (f' := (mkF m 17 #[.val (.ref b139), .val (.ref r_146), .val (.int (3 : Int32)), .val (.int (2 : Int32)), .val (.ref s_RESULTS)] [])) (fun _ k => XS.goto X163.here hx rfl (pc0 := 42) (pc' := 17) rfl (hb hby d_prog_4_method_5_code_42) (by decide) (by decide) k) ?_
  refine Go.of (T' := T163) (f' := (mkF m 18 #[.val (.ref b139), .val (.ref r_146), .val (.int (3 : Int32)), .val (.int (2 : Int32)), .val (.ref s_RESULTS)] [(.int (2 : Int32))])) (fun _ k => XS.iloadN X163.here hx rfl (hb hby d_prog_4_method_5_code_17) rfl k) ?_
  refine Go.of (T' := T163) (f' := (mkF m 19 #[.val (.ref b139), .val (.ref r_146), .val (.int (3 : Int32)), .val (.int (2 : Int32)), .val (.ref s_RESULTS)] [(.int (3 : Int32)), (.int (2 : Int32))])) (fun _ k => XS.iloadN X163.here hx rfl (hb hby d_prog_4_method_5_code_18) rfl k) ?_
  refine Go.of (T' := T163) (f' := (mkF m 22 #[.val (.ref b139), .val (.ref r_146), .val (.int (3 : Int32)), .val (.int (2 : Int32)), .val (.ref s_RESULTS)] [])) (fun _ k => XS.icmpNo X163.here hx rfl (hb hby d_prog_4_method_5_code_19) rfl (tlt (by decide : (2 : Int32) < (3 : Int32))).2.1 k) ?_
  refine Go.of (T' := T163) (f' := (mkF m 23 #[.val (.ref b139), .val (.ref r_146), .val (.int (3 : Int32)), .val (.int (2 : Int32)), .val (.ref s_RESULTS)] [(.ref r_146)])) (fun _ k => XS.aloadN X163.here hx rfl (hb hby d_prog_4_method_5_code_22) rfl rfl k) ?_
  refine Go.of (T' := T163) (f' := (mkF m 24 #[.val (.ref b139), .val (.ref r_146), .val (.int (3 : Int32)), .val (.int (2 : Int32)), .val (.ref s_RESULTS)] [(.int (2 : Int32)), (.ref r_146)])) (fun _ k => XS.iloadN X163.here hx rfl (hb hby d_prog_4_method_5_code_23) rfl k) ?_
  have f168 : Arv Z T163.heap r_146 cl_s__VALUES.cls (.object "com/example/fair_index/fairindex/csw/ResultType") (3 : Int32) [(.ref s_HITS), (.ref s_RESULTS), (.ref s_VALIDATE)] .null := (Arv.keep f161 K163q (ninS (Ne.symm ne_b139_r_146) (ninS ne_r_146_ar_153 nin0)))
  obtain ⟨cl167, Ar167, qk167, S167, Ng167, H167, G167⟩ := id f168
  have hin167 := inb_of (j := (2 : Int32)) S167 ⟨by decide, by decide⟩
  refine Go.of (T' := T163) (f' := (mkF m 25 #[.val (.ref b139), .val (.ref r_146), .val (.int (3 : Int32)), .val (.int (2 : Int32)), .val (.ref s_RESULTS)] [(.ref s_VALIDATE)])) (fun _ k => X163.aaload hx (j := (2 : Int32)) (v := (.ref s_VALIDATE)) Ar167.1 (State.isArrayOf_alike hZ.alike Ar167.2.1) rfl Ar167.2.2 hin167 (H167.at hin167 rfl) (g := (mkF m 24 #[.val (.ref b139), .val (.ref r_146), .val (.int (3 : Int32)), .val (.int (2 : Int32)), .val (.ref s_RESULTS)] [(.int (2 : Int32)), (.ref r_146)])) rfl rfl (hb hby d_prog_4_method_5_code_24) _ k) ?_
  refine Go.of (T' := T163) (f' := (mkF m 27 #[.val (.ref b139), .val (.ref r_146), .val (.int (3 : Int32)), .val (.int (2 : Int32)), .val (.ref s_VALIDATE)] [])) (fun _ k => XS.astore X163.here hx rfl (hb hby d_prog_4_method_5_code_25) rfl rfl (l' := #[.val (.ref b139), .val (.ref r_146), .val (.int (3 : Int32)), .val (.int (2 : Int32)), .val (.ref s_VALIDATE)]) rfl k) ?_
  refine Go.of (T' := T163) (f' := (mkF m 28 #[.val (.ref b139), .val (.ref r_146), .val (.int (3 : Int32)), .val (.int (2 : Int32)), .val (.ref s_VALIDATE)] [(.ref b139)])) (fun _ k => XS.aloadN X163.here hx rfl (hb hby d_prog_4_method_5_code_27) rfl rfl k) ?_
  refine Go.of (T' := T163) (f' := (mkF m 30 #[.val (.ref b139), .val (.ref r_146), .val (.int (3 : Int32)), .val (.int (2 : Int32)), .val (.ref s_VALIDATE)] [(.ref s_VALIDATE), (.ref b139)])) (fun _ k => XS.aload X163.here hx rfl (hb hby d_prog_4_method_5_code_28) rfl rfl k) ?_
  obtain ⟨T169, X169, e169, st169⟩ := getF X163 hx hZ hown (host := "") (Or.inl (hw _ (List.mem_of_getElem? (i := 48) rfl))) Via.refl rfl (Fld.ext O165 F_s_VALIDATE_name) (g := (mkF m 30 #[.val (.ref b139), .val (.ref r_146), .val (.int (3 : Int32)), .val (.int (2 : Int32)), .val (.ref s_VALIDATE)] [(.ref s_VALIDATE), (.ref b139)])) rfl rfl (hb hby d_prog_4_method_5_code_30)
  refine Go.of (T' := T169) (f' := (mkF m 33 #[.val (.ref b139), .val (.ref r_146), .val (.int (3 : Int32)), .val (.int (2 : Int32)), .val (.ref s_VALIDATE)] [(.ref s_VALIDATE_name), (.ref b139)])) (fun _ k => st169 _ k) ?_
  have f171 : Exa Z T163.heap b139 "java/util/ArrayList" := (Exa.keep f164 K163q)
  have f172 : Exa Z T163.heap ar_153 "[Ljava/lang/Object;" := (Exa.keep p153_2 K163q)
  obtain ⟨T170, v170, L170, X170, q170, st170⟩ := callIf X169 hx hZ (xi := (⟨"java/util/List", "add", "(Ljava/lang/Object;)Z"⟩ : MethodName)) (y := (⟨"java/util/ArrayList", "add", "(Ljava/lang/Object;)Z"⟩ : MethodName)) hown (hw _ (List.mem_of_getElem? (i := 50) rfl)) (hw _ (List.mem_of_getElem? (i := 51) rfl)) (mvT hZ (hw _ (List.mem_of_getElem? (i := 52) rfl))) (hw _ (List.mem_of_getElem? (i := 53) rfl)) (hw _ (List.mem_of_getElem? (i := 54) rfl)) (hw _ (List.mem_of_getElem? (i := 55) rfl)) (hw _ (List.mem_of_getElem? (i := 56) rfl)) (hw _ (List.mem_of_getElem? (i := 57) rfl)) (hw _ (List.mem_of_getElem? (i := 58) rfl)) (hw _ (List.mem_of_getElem? (i := 6) rfl)) (by decide) (rm_add_2 hw G b139 s_VALIDATE_name ar_153 ((((0 : Int32) + (1 : Int32)) + (1 : Int32))) kr_153 s_HITS_name s_RESULTS_name T163.heap O165 f171 (Exa.ext O165 E_s_VALIDATE_name) p163_1 p163_2 p163_3 p163_0 f172 p153_3 g_b139 g_ar_153 ne_b139_ar_153) e169 (W := 0) (by decide) (by decide) (by decide) (by decide) f171 (g := (mkF m 33 #[.val (.ref b139), .val (.ref r_146), .val (.int (3 : Int32)), .val (.int (2 : Int32)), .val (.ref s_VALIDATE)] [(.ref s_VALIDATE_name), (.ref b139)])) rfl (by rw [hml]; rfl) (argsL := [(.ref s_VALIDATE_name)]) (rest := []) (lenOf pd__Ljava_lang_Object__Z rfl) rfl rfl (by show 2 * 0 + _ ≤ _; exact Nat.le_of_eq rfl) (hb hby d_prog_4_method_5_code_33)
  obtain ⟨rfl, N170q, K170q, p170_0, p170_1, p170_2, p170_3⟩ := q170
  have N170 := Fr.app N163 N170q
  have O173 := Old0.keep O165 K170q (allS g_b139 (allS g_ar_153 all0))
  have K173 := Keep.trans K165 K170q (allS (Or.inr z_b139) (allS (Or.inr z_ar_153) all0))
  refine Go.of (T' := T170) (f' := (mkF m 38 #[.val (.ref b139), .val (.ref r_146), .val (.int (3 : Int32)), .val (.int (2 : Int32)), .val (.ref s_VALIDATE)] [(.int (1 : Int32))])) (fun _ k => st170 _ k) ?_
  refine Go.of (T' := T170) (f' := (mkF m 39 #[.val (.ref b139), .val (.ref r_146), .val (.int (3 : Int32)), .val (.int (2 : Int32)), .val (.ref s_VALIDATE)] [])) (fun _ k => XT.pop X170.here hx rfl (hb hby d_prog_4_method_5_code_38) rfl rfl k) ?_
  refine Go.of (T' := T170) (f' := (mkF m 42 #[.val (.ref b139), .val (.ref r_146), .val (.int (3 : Int32)), .val (.int (3 : Int32)), .val (.ref s_VALIDATE)] [])) (fun _ k => XS.iinc X170.here hx rfl (hb hby d_prog_4_method_5_code_39) rfl (l' := #[.val (.ref b139), .val (.ref r_146), .val (.int (3 : Int32)), .val (.int (3 : Int32)), .val (.ref s_VALIDATE)]) rfl k) ?_
  refine Go.of (T' := T170) (f' := (mkF m 17 #[.val (.ref b139), .val (.ref r_146), .val (.int (3 : Int32)), .val (.int (3 : Int32)), .val (.ref s_VALIDATE)] [])) (fun _ k => XS.goto X170.here hx rfl (pc0 := 42) (pc' := 17) rfl (hb hby d_prog_4_method_5_code_42) (by decide) (by decide) k) ?_
  refine Go.of (T' := T170) (f' := (mkF m 18 #[.val (.ref b139), .val (.ref r_146), .val (.int (3 : Int32)), .val (.int (3 : Int32)), .val (.ref s_VALIDATE)] [(.int (3 : Int32))])) (fun _ k => XS.iloadN X170.here hx rfl (hb hby d_prog_4_method_5_code_17) rfl k) ?_
  refine Go.of (T' := T170) (f' := (mkF m 19 #[.val (.ref b139), .val (.ref r_146), .val (.int (3 : Int32)), .val (.int (3 : Int32)), .val (.ref s_VALIDATE)] [(.int (3 : Int32)), (.int (3 : Int32))])) (fun _ k => XS.iloadN X170.here hx rfl (hb hby d_prog_4_method_5_code_18) rfl k) ?_
  refine Go.of (T' := T170) (f' := (mkF m 45 #[.val (.ref b139), .val (.ref r_146), .val (.int (3 : Int32)), .val (.int (3 : Int32)), .val (.ref s_VALIDATE)] [])) (fun _ k => XS.icmpYes X170.here hx rfl (pc0 := 19) (pc' := 45) rfl (hb hby d_prog_4_method_5_code_19) rfl (flt (by decide : ¬ ((3 : Int32) < (3 : Int32)))).2.1 (by decide) (by decide) k) ?_
  refine Go.of (T' := T170) (f' := (mkF m 46 #[.val (.ref b139), .val (.ref r_146), .val (.int (3 : Int32)), .val (.int (3 : Int32)), .val (.ref s_VALIDATE)] [(.ref b139)])) (fun _ k => XS.aloadN X170.here hx rfl (hb hby d_prog_4_method_5_code_45) rfl rfl k) ?_
  have f175 : Exa Z T170.heap b139 "java/util/ArrayList" := (Exa.keep f171 K170q)
  have f176 : Exa Z T170.heap ar_153 "[Ljava/lang/Object;" := (Exa.keep f172 K170q)
  exact Go.retA X170 hx hlk hret rfl rfl (hb hby d_prog_4_method_5_code_46) (by decide) (by decide) ⟨b139, ar_153, kr_153, ((((0 : Int32) + (1 : Int32)) + (1 : Int32)) + (1 : Int32)), rfl, N170, K173, z_b139, z_ar_153, ne_b139_ar_153, f175, p170_2, p170_3, p170_1, p170_0, f176, p153_3⟩
theorem d_jdk_38_method_8_code_0 : decode jdk_38_method_8_code 0 = .ok (.aload_n 0, 1) := by decide +kernel
theorem d_jdk_38_method_8_code_1 : decode jdk_38_method_8_code 1 = .ok (.getfield 48, 3) := by decide +kernel
theorem d_jdk_38_method_8_code_4 : decode jdk_38_method_8_code 4 = .ok (.ireturn, 1) := by decide +kernel
theorem ef_rm_size3 (m : MethodId) (ob : Addr) : entryFrame m #[(.ref ob)] 1 = mkF m 0 #[.val (.ref ob)] [] := by first | (simp [entryFrame, mkF, argsToLocals, Value.category]; done) | rfl
theorem pn_java_util_ArrayList_size___I : plainFor (⟨"java/util/ArrayList", "size", "()I"⟩ : MethodName) = true := by first | exact plainFor_of_name (by first | (simp [plainName, overriddenIn]; done) | decide +kernel) | decide +kernel
set_option maxRecDepth 65536 in
set_option maxHeartbeats 40000000 in
theorem rm_size3 {l : Launch} {Z : State} {a0 : Array Value} {s__VALUES : Addr} {s_HITS : Addr} {s_RESULTS : Addr} {s_VALIDATE : Addr} {s_HITS_name : Addr} {s_RESULTS_name : Addr} {s_VALIDATE_name : Addr} {s_HITS_name_value : Addr} {s_RESULTS_name_value : Addr} {s_VALIDATE_name_value : Addr} {s_DEFAULTCAPACITY_EMPTY_ELEMENTDATA : Addr} {s_COMPACT_STRINGS : Int32} {cl_s__VALUES : Cell} {cl_s_HITS_name_value : Cell} {cl_s_RESULTS_name_value : Cell} {cl_s_VALIDATE_name_value : Cell} {cl_s_DEFAULTCAPACITY_EMPTY_ELEMENTDATA : Cell} (hw : ∀ d ∈ tables_1, d.before a0 Z = true) (G : own_Ctx Z s__VALUES s_HITS s_RESULTS s_VALIDATE s_HITS_name s_RESULTS_name s_VALIDATE_name s_HITS_name_value s_RESULTS_name_value s_VALIDATE_name_value s_DEFAULTCAPACITY_EMPTY_ELEMENTDATA s_COMPACT_STRINGS cl_s__VALUES cl_s_HITS_name_value cl_s_RESULTS_name_value cl_s_VALIDATE_name_value cl_s_DEFAULTCAPACITY_EMPTY_ELEMENTDATA) (ob : Addr)  (h0 : Heap) (O0 : Ext Z.heap h0) (prem0 : Fld Z h0 ob "java/util/ArrayList" "size" "I" (.int (3 : Int32))) :
    Ok l Z (⟨"java/util/ArrayList", "size", "()I"⟩ : MethodName) jdk_38_method_8_code 1 (some .int) ({ frames := 0, cells := 0, slots := 0, locals := 0 } : Room) #[(.ref ob)] h0
      (fun v h L => v = some (.int (3 : Int32)) ∧ (h = h0) ∧ (L = [])) := by
  refine Ok.mk pn_java_util_ArrayList_size___I ?_
  intro p e s m below meth c T0 hx hby hml hown hnm hret hlk hZ e0 X0
  refine Go.cast (ef_rm_size3 m ob) ?_
  obtain ⟨S__VALUES, E_s__VALUES, S_HITS, E_s_HITS, S_RESULTS, E_s_RESULTS, S_VALIDATE, E_s_VALIDATE, F_s_HITS_name, E_s_HITS_name, F_s_RESULTS_name, E_s_RESULTS_name, F_s_VALIDATE_name, E_s_VALIDATE_name, F_s_HITS_name_coder, F_s_HITS_name_value, F_s_RESULTS_name_coder, F_s_RESULTS_name_value, F_s_VALIDATE_name_coder, F_s_VALIDATE_name_value, ne_s_HITS_name_s_RESULTS_name, ne_s_HITS_name_s_VALIDATE_name, ne_s_RESULTS_name_s_VALIDATE_name, S_DEFAULTCAPACITY_EMPTY_ELEMENTDATA, E_s_DEFAULTCAPACITY_EMPTY_ELEMENTDATA, S_COMPACT_STRINGS, hne_s_COMPACT_STRINGS_0, V_s__VALUES, V_s_HITS_name_value, V_s_RESULTS_name_value, V_s_VALIDATE_name_value, V_s_DEFAULTCAPACITY_EMPTY_ELEMENTDATA⟩ := id G
  have N0 := Fr.nil Z.heap.size
  have K0 : Keep h0 h0 [] := Keep.refl _ _
  refine Go.of (T' := T0) (f' := (mkF m 1 #[.val (.ref ob)] [(.ref ob)])) (fun _ k => XS.aloadN X0.here hx rfl (hb hby d_jdk_38_method_8_code_0) rfl rfl k) ?_
  obtain ⟨T177, X177, e177, st177⟩ := getF X0 hx hZ hown (host := "") (Or.inl (hw _ (List.mem_of_getElem? (i := 61) rfl))) Via.refl e0 prem0 (g := (mkF m 1 #[.val (.ref ob)] [(.ref ob)])) rfl rfl (hb hby d_jdk_38_method_8_code_1)
  refine Go.of (T' := T177) (f' := (mkF m 4 #[.val (.ref ob)] [(.int (3 : Int32))])) (fun _ k => st177 _ k) ?_
  exact Go.retI X177 hx hlk hret (hb hby d_jdk_38_method_8_code_4) (by decide) (by decide) (by rw [e177]; exact ⟨rfl, rfl, by simp⟩)
theorem d_jdk_43_method_3_code_0 : decode jdk_43_method_3_code 0 = .ok (.iload_n 0, 1) := by decide +kernel
theorem d_jdk_43_method_3_code_1 : decode jdk_43_method_3_code 1 = .ok (.sipush 255, 3) := by decide +kernel
theorem d_jdk_43_method_3_code_4 : decode jdk_43_method_3_code 4 = .ok (.if_icmp .gt 7, 3) := by decide +kernel
theorem d_jdk_43_method_3_code_7 : decode jdk_43_method_3_code 7 = .ok (.iconst 1, 1) := by decide +kernel
theorem d_jdk_43_method_3_code_8 : decode jdk_43_method_3_code 8 = .ok (.goto 4, 3) := by decide +kernel
theorem d_jdk_43_method_3_code_12 : decode jdk_43_method_3_code 12 = .ok (.ireturn, 1) := by decide +kernel
theorem ef_rm_canenc (m : MethodId) (ch : Int32) : entryFrame m #[(.int ch)] 1 = mkF m 0 #[.val (.int ch)] [] := by first | (simp [entryFrame, mkF, argsToLocals, Value.category]; done) | rfl
theorem pn_java_lang_StringLatin1_canEncode__C_Z : plainFor (⟨"java/lang/StringLatin1", "canEncode", "(C)Z"⟩ : MethodName) = true := by first | exact plainFor_of_name (by first | (simp [plainName, overriddenIn]; done) | decide +kernel) | decide +kernel
set_option maxRecDepth 65536 in
set_option maxHeartbeats 40000000 in
theorem rm_canenc {l : Launch} {Z : State} {a0 : Array Value} {s__VALUES : Addr} {s_HITS : Addr} {s_RESULTS : Addr} {s_VALIDATE : Addr} {s_HITS_name : Addr} {s_RESULTS_name : Addr} {s_VALIDATE_name : Addr} {s_HITS_name_value : Addr} {s_RESULTS_name_value : Addr} {s_VALIDATE_name_value : Addr} {s_DEFAULTCAPACITY_EMPTY_ELEMENTDATA : Addr} {s_COMPACT_STRINGS : Int32} {cl_s__VALUES : Cell} {cl_s_HITS_name_value : Cell} {cl_s_RESULTS_name_value : Cell} {cl_s_VALIDATE_name_value : Cell} {cl_s_DEFAULTCAPACITY_EMPTY_ELEMENTDATA : Cell} (hw : ∀ d ∈ tables_1, d.before a0 Z = true) (G : own_Ctx Z s__VALUES s_HITS s_RESULTS s_VALIDATE s_HITS_name s_RESULTS_name s_VALIDATE_name s_HITS_name_value s_RESULTS_name_value s_VALIDATE_name_value s_DEFAULTCAPACITY_EMPTY_ELEMENTDATA s_COMPACT_STRINGS cl_s__VALUES cl_s_HITS_name_value cl_s_RESULTS_name_value cl_s_VALIDATE_name_value cl_s_DEFAULTCAPACITY_EMPTY_ELEMENTDATA) (ch : Int32)  (h0 : Heap) (O0 : Ext Z.heap h0) (prem0 : ¬ ((255 : Int32) < ch)) :
    Ok l Z (⟨"java/lang/StringLatin1", "canEncode", "(C)Z"⟩ : MethodName) jdk_43_method_3_code 1 (some .boolean) ({ frames := 0, cells := 0, slots := 0, locals := 0 } : Room) #[(.int ch)] h0
      (fun v h L => v = some (.int (1 : Int32)) ∧ (h = h0) ∧ (L = [])) := by
  refine Ok.mk pn_java_lang_StringLatin1_canEncode__C_Z ?_
  intro p e s m below meth c T0 hx hby hml hown hnm hret hlk hZ e0 X0
  refine Go.cast (ef_rm_canenc m ch) ?_
  obtain ⟨S__VALUES, E_s__VALUES, S_HITS, E_s_HITS, S_RESULTS, E_s_RESULTS, S_VALIDATE, E_s_VALIDATE, F_s_HITS_name, E_s_HITS_name, F_s_RESULTS_name, E_s_RESULTS_name, F_s_VALIDATE_name, E_s_VALIDATE_name, F_s_HITS_name_coder, F_s_HITS_name_value, F_s_RESULTS_name_coder, F_s_RESULTS_name_value, F_s_VALIDATE_name_coder, F_s_VALIDATE_name_value, ne_s_HITS_name_s_RESULTS_name, ne_s_HITS_name_s_VALIDATE_name, ne_s_RESULTS_name_s_VALIDATE_name, S_DEFAULTCAPACITY_EMPTY_ELEMENTDATA, E_s_DEFAULTCAPACITY_EMPTY_ELEMENTDATA, S_COMPACT_STRINGS, hne_s_COMPACT_STRINGS_0, V_s__VALUES, V_s_HITS_name_value, V_s_RESULTS_name_value, V_s_VALIDATE_name_value, V_s_DEFAULTCAPACITY_EMPTY_ELEMENTDATA⟩ := id G
  have N0 := Fr.nil Z.heap.size
  have K0 : Keep h0 h0 [] := Keep.refl _ _
  refine Go.of (T' := T0) (f' := (mkF m 1 #[.val (.int ch)] [(.int ch)])) (fun _ k => XS.iloadN X0.here hx rfl (hb hby d_jdk_43_method_3_code_0) rfl k) ?_
  refine Go.of (T' := T0) (f' := (mkF m 4 #[.val (.int ch)] [(.int (255 : Int32)), (.int ch)])) (fun _ k => XS.sipush X0.here hx rfl (hb hby d_jdk_43_method_3_code_1) k) ?_
  have hc178 : ¬ ((255 : Int32) < ch) := prem0
  refine Go.of (T' := T0) (f' := (mkF m 7 #[.val (.int ch)] [])) (fun _ k => XS.icmpNo X0.here hx rfl (hb hby d_jdk_43_method_3_code_4) rfl (flt hc178).2.2.1 k) ?_
  refine Go.of (T' := T0) (f' := (mkF m 8 #[.val (.int ch)] [(.int (1 : Int32))])) (fun _ k => XS.iconst X0.here hx rfl (hb hby d_jdk_43_method_3_code_7) k) ?_
  refine Go.of (T' := T0) (f' := (mkF m 12 #[.val (.int ch)] [(.int (1 : Int32))])) (fun _ k => XS.goto X0.here hx rfl (pc0 := 8) (pc' := 12) rfl (hb hby d_jdk_43_method_3_code_8) (by decide) (by decide) k) ?_
  exact Go.retB X0 hx hlk hret (by simp) (hb hby d_jdk_43_method_3_code_12) (by decide) (by decide) (z' := (1 : Int32)) rfl (by rw [e0]; exact ⟨rfl, rfl, by simp⟩)
theorem d_jdk_43_method_46_code_0 : decode jdk_43_method_46_code 0 = .ok (.iconst 1, 1) := by decide +kernel
theorem d_jdk_43_method_46_code_1 : decode jdk_43_method_46_code 1 = .ok (.newarray .byte, 2) := by decide +kernel
theorem d_jdk_43_method_46_code_3 : decode jdk_43_method_46_code 3 = .ok (.dup, 1) := by decide +kernel
theorem d_jdk_43_method_46_code_4 : decode jdk_43_method_46_code 4 = .ok (.iconst 0, 1) := by decide +kernel
theorem d_jdk_43_method_46_code_5 : decode jdk_43_method_46_code 5 = .ok (.iload_n 0, 1) := by decide +kernel
theorem d_jdk_43_method_46_code_6 : decode jdk_43_method_46_code 6 = .ok (.i2b, 1) := by decide +kernel
theorem d_jdk_43_method_46_code_7 : decode jdk_43_method_46_code 7 = .ok (.bastore, 1) := by decide +kernel
theorem d_jdk_43_method_46_code_8 : decode jdk_43_method_46_code 8 = .ok (.areturn, 1) := by decide +kernel
theorem ef_rm_tobytes (m : MethodId) (ch : Int32) : entryFrame m #[(.int ch)] 1 = mkF m 0 #[.val (.int ch)] [] := by first | (simp [entryFrame, mkF, argsToLocals, Value.category]; done) | rfl
theorem pn_java_lang_StringLatin1_toBytes__C__B : plainFor (⟨"java/lang/StringLatin1", "toBytes", "(C)[B"⟩ : MethodName) = true := by first | exact plainFor_of_name (by first | (simp [plainName, overriddenIn]; done) | decide +kernel) | decide +kernel
set_option maxRecDepth 65536 in
set_option maxHeartbeats 40000000 in
theorem rm_tobytes {l : Launch} {Z : State} {a0 : Array Value} {s__VALUES : Addr} {s_HITS : Addr} {s_RESULTS : Addr} {s_VALIDATE : Addr} {s_HITS_name : Addr} {s_RESULTS_name : Addr} {s_VALIDATE_name : Addr} {s_HITS_name_value : Addr} {s_RESULTS_name_value : Addr} {s_VALIDATE_name_value : Addr} {s_DEFAULTCAPACITY_EMPTY_ELEMENTDATA : Addr} {s_COMPACT_STRINGS : Int32} {cl_s__VALUES : Cell} {cl_s_HITS_name_value : Cell} {cl_s_RESULTS_name_value : Cell} {cl_s_VALIDATE_name_value : Cell} {cl_s_DEFAULTCAPACITY_EMPTY_ELEMENTDATA : Cell} (hw : ∀ d ∈ tables_1, d.before a0 Z = true) (G : own_Ctx Z s__VALUES s_HITS s_RESULTS s_VALIDATE s_HITS_name s_RESULTS_name s_VALIDATE_name s_HITS_name_value s_RESULTS_name_value s_VALIDATE_name_value s_DEFAULTCAPACITY_EMPTY_ELEMENTDATA s_COMPACT_STRINGS cl_s__VALUES cl_s_HITS_name_value cl_s_RESULTS_name_value cl_s_VALIDATE_name_value cl_s_DEFAULTCAPACITY_EMPTY_ELEMENTDATA) (ch : Int32)  (h0 : Heap) (O0 : Ext Z.heap h0)  :
    Ok l Z (⟨"java/lang/StringLatin1", "toBytes", "(C)[B"⟩ : MethodName) jdk_43_method_46_code 1 (some (.array .byte)) ({ frames := 0, cells := 1, slots := 1, locals := 0 } : Room) #[(.int ch)] h0
      (fun v h L => ∃ r : Addr, v = some (.ref r) ∧ (Fr Z.heap.size L) ∧ (Keep h0 h []) ∧ (h0.size ≤ r) ∧ (Exa Z h r "[B")) := by
  refine Ok.mk pn_java_lang_StringLatin1_toBytes__C__B ?_
  intro p e s m below meth c T0 hx hby hml hown hnm hret hlk hZ e0 X0
  refine Go.cast (ef_rm_tobytes m ch) ?_
  obtain ⟨S__VALUES, E_s__VALUES, S_HITS, E_s_HITS, S_RESULTS, E_s_RESULTS, S_VALIDATE, E_s_VALIDATE, F_s_HITS_name, E_s_HITS_name, F_s_RESULTS_name, E_s_RESULTS_name, F_s_VALIDATE_name, E_s_VALIDATE_name, F_s_HITS_name_coder, F_s_HITS_name_value, F_s_RESULTS_name_coder, F_s_RESULTS_name_value, F_s_VALIDATE_name_coder, F_s_VALIDATE_name_value, ne_s_HITS_name_s_RESULTS_name, ne_s_HITS_name_s_VALIDATE_name, ne_s_RESULTS_name_s_VALIDATE_name, S_DEFAULTCAPACITY_EMPTY_ELEMENTDATA, E_s_DEFAULTCAPACITY_EMPTY_ELEMENTDATA, S_COMPACT_STRINGS, hne_s_COMPACT_STRINGS_0, V_s__VALUES, V_s_HITS_name_value, V_s_RESULTS_name_value, V_s_VALIDATE_name_value, V_s_DEFAULTCAPACITY_EMPTY_ELEMENTDATA⟩ := id G
  have N0 := Fr.nil Z.heap.size
  have K0 : Keep h0 h0 [] := Keep.refl _ _
  refine Go.of (T' := T0) (f' := (mkF m 1 #[.val (.int ch)] [(.int (1 : Int32))])) (fun _ k => XS.iconst X0.here hx rfl (hb hby d_jdk_43_method_46_code_0) k) ?_
  obtain ⟨T179, h179, k179, b179, q179, X179, e179, E179, V179, A179, st179⟩ := newAr X0 hx hZ (hw _ (List.mem_of_getElem? (i := 107) rfl)) e0 (g := (mkF m 1 #[.val (.int ch)] [(.int (1 : Int32))])) rfl (hb hby d_jdk_43_method_46_code_1) rfl (by decide) (cap := 1) (by decide) (by decide) (by decide) (by decide) (ad := "[B") (by decide)
  have O180 := Old0.ext O0 E179
  have K180 := Keep.ext K0 E179
  have g_b179 : Z.heap.size ≤ b179 := q179 ▸ O0.1
  have z_b179 : h0.size ≤ b179 := q179 ▸ K0.1
  have f181 : Arv Z h179 b179 k179 .byte (1 : Int32) [(.int (0 : Int32))] (.int (0 : Int32)) := Arv.pad V179 (pad_rep [] (.int (0 : Int32)) 1)
  refine Go.of (T' := T179) (f' := (mkF m 3 #[.val (.int ch)] [(.ref b179)])) (fun _ k => st179 _ k) ?_
  refine Go.of (T' := T179) (f' := (mkF m 4 #[.val (.int ch)] [(.ref b179), (.ref b179)])) (fun _ k => XS.dup X179.here hx rfl (hb hby d_jdk_43_method_46_code_3) rfl rfl k) ?_
  refine Go.of (T' := T179) (f' := (mkF m 5 #[.val (.int ch)] [(.int (0 : Int32)), (.ref b179), (.ref b179)])) (fun _ k => XS.iconst X179.here hx rfl (hb hby d_jdk_43_method_46_code_4) k) ?_
  refine Go.of (T' := T179) (f' := (mkF m 6 #[.val (.int ch)] [(.int ch), (.int (0 : Int32)), (.ref b179), (.ref b179)])) (fun _ k => XS.iloadN X179.here hx rfl (hb hby d_jdk_43_method_46_code_5) rfl k) ?_
  refine Go.of (T' := T179) (f' := (mkF m 7 #[.val (.int ch)] [(.int (ch.toInt8.toInt32)), (.int (0 : Int32)), (.ref b179), (.ref b179)])) (fun _ k => XS.i2b X179.here hx rfl (hb hby d_jdk_43_method_46_code_6) rfl k) ?_
  obtain ⟨cl182, Ar182, qk182, S182, Ng182, H182, G182⟩ := id f181
  obtain ⟨T182, h182, X182, e182, W182, st182⟩ := stB X179 hx hZ e179 Ar182 (j := (0 : Int32)) (inb_of S182 ⟨by decide, by decide⟩) (g := (mkF m 7 #[.val (.int ch)] [(.int (ch.toInt8.toInt32)), (.int (0 : Int32)), (.ref b179), (.ref b179)])) rfl rfl (hb hby d_jdk_43_method_46_code_7)
  have O183 := Old0.wr O180 W182 g_b179
  have K183 := Keep.wr K180 W182 (Or.inr z_b179)
  have f182 : Arv Z h182 b179 k179 .byte (1 : Int32) [(.int (nar .byte (ch.toInt8.toInt32)))] (.int (0 : Int32)) := Arv.set Ar182 qk182 S182 Ng182 H182 G182 (v := (.int (nar .byte (ch.toInt8.toInt32)))) (fits_nar_byte _) W182 0 rfl (Nat.le_of_ble_eq_true rfl)
  have N182 := Fr.snoc X182 N0 g_b179
  refine Go.of (T' := T182) (f' := (mkF m 8 #[.val (.int ch)] [(.ref b179)])) (fun _ k => st182 _ k) ?_
  have f184 : Exa Z h182 b179 "[B" := (Exa.wr W182 A179)
  exact Go.retA X182 hx hlk hret rfl rfl (hb hby d_jdk_43_method_46_code_8) (by decide) (by decide) (by rw [e182]; exact ⟨b179, rfl, N182, K183, z_b179, f184⟩)
theorem d_jdk_42_method_151_code_0 : decode jdk_42_method_151_code 0 = .ok (.aload_n 0, 1) := by decide +kernel
theorem d_jdk_42_method_151_code_1 : decode jdk_42_method_151_code 1 = .ok (.invokespecial 1, 3) := by decide +kernel
theorem d_jdk_42_method_151_code_4 : decode jdk_42_method_151_code 4 = .ok (.aload_n 0, 1) := by decide +kernel
theorem d_jdk_42_method_151_code_5 : decode jdk_42_method_151_code 5 = .ok (.aload_n 1, 1) := by decide +kernel
theorem d_jdk_42_method_151_code_6 : decode jdk_42_method_151_code 6 = .ok (.putfield 9, 3) := by decide +kernel
theorem d_jdk_42_method_151_code_9 : decode jdk_42_method_151_code 9 = .ok (.aload_n 0, 1) := by decide +kernel
theorem d_jdk_42_method_151_code_10 : decode jdk_42_method_151_code 10 = .ok (.iload_n 2, 1) := by decide +kernel
theorem d_jdk_42_method_151_code_11 : decode jdk_42_method_151_code 11 = .ok (.putfield 15, 3) := by decide +kernel
theorem d_jdk_42_method_151_code_14 : decode jdk_42_method_151_code 14 = .ok (.return_, 1) := by decide +kernel
theorem ef_rm_strinit (m : MethodId) (sb : Addr) (bt : Addr) : entryFrame m #[(.ref sb), (.ref bt), (.int (0 : Int32))] 3 = mkF m 0 #[.val (.ref sb), .val (.ref bt), .val (.int (0 : Int32))] [] := by first | (simp [entryFrame, mkF, argsToLocals, Value.category]; done) | rfl
theorem pn_java_lang_String__init____BB_V : plainFor (⟨"java/lang/String", "<init>", "([BB)V"⟩ : MethodName) = true := by first | exact plainFor_of_name (by first | (simp [plainName, overriddenIn]; done) | decide +kernel) | decide +kernel
set_option maxRecDepth 65536 in
set_option maxHeartbeats 40000000 in
theorem rm_strinit {l : Launch} {Z : State} {a0 : Array Value} {s__VALUES : Addr} {s_HITS : Addr} {s_RESULTS : Addr} {s_VALIDATE : Addr} {s_HITS_name : Addr} {s_RESULTS_name : Addr} {s_VALIDATE_name : Addr} {s_HITS_name_value : Addr} {s_RESULTS_name_value : Addr} {s_VALIDATE_name_value : Addr} {s_DEFAULTCAPACITY_EMPTY_ELEMENTDATA : Addr} {s_COMPACT_STRINGS : Int32} {cl_s__VALUES : Cell} {cl_s_HITS_name_value : Cell} {cl_s_RESULTS_name_value : Cell} {cl_s_VALIDATE_name_value : Cell} {cl_s_DEFAULTCAPACITY_EMPTY_ELEMENTDATA : Cell} (hw : ∀ d ∈ tables_1, d.before a0 Z = true) (G : own_Ctx Z s__VALUES s_HITS s_RESULTS s_VALIDATE s_HITS_name s_RESULTS_name s_VALIDATE_name s_HITS_name_value s_RESULTS_name_value s_VALIDATE_name_value s_DEFAULTCAPACITY_EMPTY_ELEMENTDATA s_COMPACT_STRINGS cl_s__VALUES cl_s_HITS_name_value cl_s_RESULTS_name_value cl_s_VALIDATE_name_value cl_s_DEFAULTCAPACITY_EMPTY_ELEMENTDATA) (sb : Addr) (bt : Addr)  (h0 : Heap) (O0 : Ext Z.heap h0) (prem0 : Exa Z h0 sb "java/lang/String") (prem1 : Fld Z h0 sb "java/lang/String" "value" "[B" .null) (prem2 : Fld Z h0 sb "java/lang/String" "coder" "B" (.int (0 : Int32))) (prem3 : Z.heap.size ≤ sb) :
    Ok l Z (⟨"java/lang/String", "<init>", "([BB)V"⟩ : MethodName) jdk_42_method_151_code 3 none ({ frames := 1, cells := 0, slots := 0, locals := 12 } : Room) #[(.ref sb), (.ref bt), (.int (0 : Int32))] h0
      (fun v h L => v = none ∧ (Fr Z.heap.size L) ∧ (Keep h0 h [sb])) := by
  refine Ok.mk pn_java_lang_String__init____BB_V ?_
  intro p e s m below meth c T0 hx hby hml hown hnm hret hlk hZ e0 X0
  refine Go.cast (ef_rm_strinit m sb bt) ?_
  obtain ⟨S__VALUES, E_s__VALUES, S_HITS, E_s_HITS, S_RESULTS, E_s_RESULTS, S_VALIDATE, E_s_VALIDATE, F_s_HITS_name, E_s_HITS_name, F_s_RESULTS_name, E_s_RESULTS_name, F_s_VALIDATE_name, E_s_VALIDATE_name, F_s_HITS_name_coder, F_s_HITS_name_value, F_s_RESULTS_name_coder, F_s_RESULTS_name_value, F_s_VALIDATE_name_coder, F_s_VALIDATE_name_value, ne_s_HITS_name_s_RESULTS_name, ne_s_HITS_name_s_VALIDATE_name, ne_s_RESULTS_name_s_VALIDATE_name, S_DEFAULTCAPACITY_EMPTY_ELEMENTDATA, E_s_DEFAULTCAPACITY_EMPTY_ELEMENTDATA, S_COMPACT_STRINGS, hne_s_COMPACT_STRINGS_0, V_s__VALUES, V_s_HITS_name_value, V_s_RESULTS_name_value, V_s_VALIDATE_name_value, V_s_DEFAULTCAPACITY_EMPTY_ELEMENTDATA⟩ := id G
  have N0 := Fr.nil Z.heap.size
  have K0 : Keep h0 h0 [sb] := Keep.refl _ _
  refine Go.of (T' := T0) (f' := (mkF m 1 #[.val (.ref sb), .val (.ref bt), .val (.int (0 : Int32))] [(.ref sb)])) (fun _ k => XS.aloadN X0.here hx rfl (hb hby d_jdk_42_method_151_code_0) rfl rfl k) ?_
  obtain ⟨T185, X185, e185, st185⟩ := initO X0 hx hZ hown (hw _ (List.mem_of_getElem? (i := 112) rfl)) (hw _ (List.mem_of_getElem? (i := 23) rfl)) (hw _ (List.mem_of_getElem? (i := 24) rfl)) e0 (g := (mkF m 1 #[.val (.ref sb), .val (.ref bt), .val (.int (0 : Int32))] [(.ref sb)])) rfl (by rw [hml]; rfl) rfl (hb hby d_jdk_42_method_151_code_1) (by decide) (W := 0) (by show 2 * 0 + _ ≤ _; exact Nat.le_of_eq rfl) (by decide)
  refine Go.of (T' := T185) (f' := (mkF m 4 #[.val (.ref sb), .val (.ref bt), .val (.int (0 : Int32))] [])) (fun _ k => st185 _ k) ?_
  refine Go.of (T' := T185) (f' := (mkF m 5 #[.val (.ref sb), .val (.ref bt), .val (.int (0 : Int32))] [(.ref sb)])) (fun _ k => XS.aloadN X185.here hx rfl (hb hby d_jdk_42_method_151_code_4) rfl rfl k) ?_
  refine Go.of (T' := T185) (f' := (mkF m 6 #[.val (.ref sb), .val (.ref bt), .val (.int (0 : Int32))] [(.ref bt), (.ref sb)])) (fun _ k => XS.aloadN X185.here hx rfl (hb hby d_jdk_42_method_151_code_5) rfl rfl k) ?_
  obtain ⟨T186, h186, X186, e186, W186, st186⟩ := putF X185 hx hZ hown (host := "") (Or.inl (hw _ (List.mem_of_getElem? (i := 113) rfl))) Via.refl e185 prem1 prem0 (Or.inr ⟨(hw _ (List.mem_of_getElem? (i := 114) rfl)), rfl, hnm⟩) (hw _ (List.mem_of_getElem? (i := 103) rfl)) (ty := (.array .byte)) (by decide) rfl rfl (g := (mkF m 6 #[.val (.ref sb), .val (.ref bt), .val (.int (0 : Int32))] [(.ref bt), (.ref sb)])) rfl rfl (hb hby d_jdk_42_method_151_code_6)
  have O187 := Old0.wr O0 W186 prem3
  have K187 := Keep.wr K0 W186 (Or.inl (List.mem_of_getElem? (i := 0) rfl))
  have N186 := Fr.snoc X186 N0 prem3
  have f186 : Fld Z h186 sb "java/lang/String" "value" "[B" (.ref bt) := Fld.same W186 prem1
  refine Go.of (T' := T186) (f' := (mkF m 9 #[.val (.ref sb), .val (.ref bt), .val (.int (0 : Int32))] [])) (fun _ k => st186 _ k) ?_
  refine Go.of (T' := T186) (f' := (mkF m 10 #[.val (.ref sb), .val (.ref bt), .val (.int (0 : Int32))] [(.ref sb)])) (fun _ k => XS.aloadN X186.here hx rfl (hb hby d_jdk_42_method_151_code_9) rfl rfl k) ?_
  refine Go.of (T' := T186) (f' := (mkF m 11 #[.val (.ref sb), .val (.ref bt), .val (.int (0 : Int32))] [(.int (0 : Int32)), (.ref sb)])) (fun _ k => XS.iloadN X186.here hx rfl (hb hby d_jdk_42_method_151_code_10) rfl k) ?_
  have f189 : Exa Z h186 sb "java/lang/String" := (Exa.wr W186 prem0)
  have f190 : Fld Z h186 sb "java/lang/String" "coder" "B" (.int (0 : Int32)) := (Fld.other W186 prem2 (Or.inr (slot_ne (Or.inr (hw _ (List.mem_of_getElem? (i := 116) rfl))) (Or.inr (hw _ (List.mem_of_getElem? (i := 114) rfl))) (by decide) (t := .byte) (t' := (.array .byte)) (by decide) (by decide))))
  obtain ⟨T188, h188, X188, e188, W188, st188⟩ := putFN X186 hx hZ hown (hw _ (List.mem_of_getElem? (i := 115) rfl)) Via.refl e186 f190 f189 (Or.inr ⟨(hw _ (List.mem_of_getElem? (i := 116) rfl)), rfl, hnm⟩) (hw _ (List.mem_of_getElem? (i := 103) rfl)) (ty := .byte) (v' := (.int (0 : Int32))) (by decide) rfl rfl (g := (mkF m 11 #[.val (.ref sb), .val (.ref bt), .val (.int (0 : Int32))] [(.int (0 : Int32)), (.ref sb)])) rfl rfl (hb hby d_jdk_42_method_151_code_11)
  have O191 := Old0.wr O187 W188 prem3
  have K191 := Keep.wr K187 W188 (Or.inl (List.mem_of_getElem? (i := 0) rfl))
  have N188 := Fr.snoc X188 N186 prem3
  have f188 : Fld Z h188 sb "java/lang/String" "coder" "B" (.int (0 : Int32)) := Fld.same W188 f190
  refine Go.of (T' := T188) (f' := (mkF m 14 #[.val (.ref sb), .val (.ref bt), .val (.int (0 : Int32))] [])) (fun _ k => st188 _ k) ?_
  exact Go.retV X188 hx hlk hret (hb hby d_jdk_42_method_151_code_14) (by decide) (by decide) (by rw [e188]; exact ⟨rfl, N188, K191⟩)
theorem d_jdk_42_method_139_code_0 : decode jdk_42_method_139_code 0 = .ok (.getstatic 38, 3) := by decide +kernel
theorem d_jdk_42_method_139_code_3 : decode jdk_42_method_139_code 3 = .ok (.ifCond .eq 23, 3) := by decide +kernel
theorem d_jdk_42_method_139_code_6 : decode jdk_42_method_139_code 6 = .ok (.iload_n 0, 1) := by decide +kernel
theorem d_jdk_42_method_139_code_7 : decode jdk_42_method_139_code 7 = .ok (.invokestatic 1015, 3) := by decide +kernel
theorem pd__C_Z : parseMethodDescriptor "(C)Z" = some ⟨[.char], some .boolean⟩ := by decide +kernel
theorem d_jdk_42_method_139_code_10 : decode jdk_42_method_139_code 10 = .ok (.ifCond .eq 16, 3) := by decide +kernel
theorem d_jdk_42_method_139_code_13 : decode jdk_42_method_139_code 13 = .ok (.new 10, 3) := by decide +kernel
theorem d_jdk_42_method_139_code_16 : decode jdk_42_method_139_code 16 = .ok (.dup, 1) := by decide +kernel
theorem d_jdk_42_method_139_code_17 : decode jdk_42_method_139_code 17 = .ok (.iload_n 0, 1) := by decide +kernel
theorem d_jdk_42_method_139_code_18 : decode jdk_42_method_139_code 18 = .ok (.invokestatic 1018, 3) := by decide +kernel
theorem pd__C__B : parseMethodDescriptor "(C)[B" = some ⟨[.char], some (.array .byte)⟩ := by decide +kernel
theorem d_jdk_42_method_139_code_21 : decode jdk_42_method_139_code 21 = .ok (.iconst 0, 1) := by decide +kernel
theorem d_jdk_42_method_139_code_22 : decode jdk_42_method_139_code 22 = .ok (.invokespecial 209, 3) := by decide +kernel
theorem pd___BB_V : parseMethodDescriptor "([BB)V" = some ⟨[(.array .byte), .byte], none⟩ := by decide +kernel
theorem d_jdk_42_method_139_code_25 : decode jdk_42_method_139_code 25 = .ok (.areturn, 1) := by decide +kernel
theorem ef_rm_valueOf (m : MethodId) (ch : Int32) : entryFrame m #[(.int ch)] 1 = mkF m 0 #[.val (.int ch)] [] := by first | (simp [entryFrame, mkF, argsToLocals, Value.category]; done) | rfl
theorem pn_java_lang_String_valueOf__C_Ljava_lang_String_ : plainFor (⟨"java/lang/String", "valueOf", "(C)Ljava/lang/String;"⟩ : MethodName) = true := by first | exact plainFor_of_name (by first | (simp [plainName, overriddenIn]; done) | decide +kernel) | decide +kernel
set_option maxRecDepth 65536 in
set_option maxHeartbeats 40000000 in
theorem rm_valueOf {l : Launch} {Z : State} {a0 : Array Value} {s__VALUES : Addr} {s_HITS : Addr} {s_RESULTS : Addr} {s_VALIDATE : Addr} {s_HITS_name : Addr} {s_RESULTS_name : Addr} {s_VALIDATE_name : Addr} {s_HITS_name_value : Addr} {s_RESULTS_name_value : Addr} {s_VALIDATE_name_value : Addr} {s_DEFAULTCAPACITY_EMPTY_ELEMENTDATA : Addr} {s_COMPACT_STRINGS : Int32} {cl_s__VALUES : Cell} {cl_s_HITS_name_value : Cell} {cl_s_RESULTS_name_value : Cell} {cl_s_VALIDATE_name_value : Cell} {cl_s_DEFAULTCAPACITY_EMPTY_ELEMENTDATA : Cell} (hw : ∀ d ∈ tables_1, d.before a0 Z = true) (G : own_Ctx Z s__VALUES s_HITS s_RESULTS s_VALIDATE s_HITS_name s_RESULTS_name s_VALIDATE_name s_HITS_name_value s_RESULTS_name_value s_VALIDATE_name_value s_DEFAULTCAPACITY_EMPTY_ELEMENTDATA s_COMPACT_STRINGS cl_s__VALUES cl_s_HITS_name_value cl_s_RESULTS_name_value cl_s_VALIDATE_name_value cl_s_DEFAULTCAPACITY_EMPTY_ELEMENTDATA) (ch : Int32)  (h0 : Heap) (O0 : Ext Z.heap h0) (prem0 : ¬ ((255 : Int32) < ch)) :
    Ok l Z (⟨"java/lang/String", "valueOf", "(C)Ljava/lang/String;"⟩ : MethodName) jdk_42_method_139_code 1 (some (.object "java/lang/String")) ({ frames := 2, cells := 2, slots := 5, locals := 27 } : Room) #[(.int ch)] h0
      (fun v h L => ∃ sb : Addr, v = some (.ref sb) ∧ (Fr Z.heap.size L) ∧ (Keep h0 h []) ∧ (h0.size ≤ sb) ∧ (Exa Z h sb "java/lang/String")) := by
  refine Ok.mk pn_java_lang_String_valueOf__C_Ljava_lang_String_ ?_
  intro p e s m below meth c T0 hx hby hml hown hnm hret hlk hZ e0 X0
  refine Go.cast (ef_rm_valueOf m ch) ?_
  obtain ⟨S__VALUES, E_s__VALUES, S_HITS, E_s_HITS, S_RESULTS, E_s_RESULTS, S_VALIDATE, E_s_VALIDATE, F_s_HITS_name, E_s_HITS_name, F_s_RESULTS_name, E_s_RESULTS_name, F_s_VALIDATE_name, E_s_VALIDATE_name, F_s_HITS_name_coder, F_s_HITS_name_value, F_s_RESULTS_name_coder, F_s_RESULTS_name_value, F_s_VALIDATE_name_coder, F_s_VALIDATE_name_value, ne_s_HITS_name_s_RESULTS_name, ne_s_HITS_name_s_VALIDATE_name, ne_s_RESULTS_name_s_VALIDATE_name, S_DEFAULTCAPACITY_EMPTY_ELEMENTDATA, E_s_DEFAULTCAPACITY_EMPTY_ELEMENTDATA, S_COMPACT_STRINGS, hne_s_COMPACT_STRINGS_0, V_s__VALUES, V_s_HITS_name_value, V_s_RESULTS_name_value, V_s_VALIDATE_name_value, V_s_DEFAULTCAPACITY_EMPTY_ELEMENTDATA⟩ := id G
  have N0 := Fr.nil Z.heap.size
  have K0 : Keep h0 h0 [] := Keep.refl _ _
  obtain ⟨T192, X192, e192, st192⟩ := getS2 X0 hx hZ hown (host := "") (Or.inl (hw _ (List.mem_of_getElem? (i := 97) rfl))) Via.refl e0 (Sta.ext O0 S_COMPACT_STRINGS) (g := (mkF m 0 #[.val (.int ch)] [])) rfl (hb hby d_jdk_42_method_139_code_0)
  refine Go.of (T' := T192) (f' := (mkF m 3 #[.val (.int ch)] [(.int s_COMPACT_STRINGS)])) (fun _ k => st192 _ k) ?_
  have hc193 : ¬ (s_COMPACT_STRINGS = (0 : Int32)) := hne_s_COMPACT_STRINGS_0
  refine Go.of (T' := T192) (f' := (mkF m 6 #[.val (.int ch)] [])) (fun _ k => XS.ifNo X192.here hx rfl (hb hby d_jdk_42_method_139_code_3) rfl ((if0 _ _).trans (feq hc193).1) k) ?_
  refine Go.of (T' := T192) (f' := (mkF m 7 #[.val (.int ch)] [(.int ch)])) (fun _ k => XS.iloadN X192.here hx rfl (hb hby d_jdk_42_method_139_code_6) rfl k) ?_
  obtain ⟨T194, v194, L194, X194, q194, st194⟩ := callSt X192 hx hZ (y := (⟨"java/lang/StringLatin1", "canEncode", "(C)Z"⟩ : MethodName)) hown (hw _ (List.mem_of_getElem? (i := 98) rfl)) (hw _ (List.mem_of_getElem? (i := 99) rfl)) (hw _ (List.mem_of_getElem? (i := 100) rfl)) (hw _ (List.mem_of_getElem? (i := 101) rfl)) (by decide) (rm_canenc hw G ch  h0 O0 (prem0)) e192 (W := 0) (by decide) (by decide) (by decide) (by decide) (g := (mkF m 7 #[.val (.int ch)] [(.int ch)])) rfl (by rw [hml]; rfl) (argsL := [(.int ch)]) (rest := []) (lenOf pd__C_Z rfl) rfl rfl (by show 2 * 0 + _ ≤ _; exact Nat.le_of_eq rfl) (hb hby d_jdk_42_method_139_code_7)
  obtain ⟨rfl, e194, rfl⟩ := q194
  have N194 := Fr.app N0 (Fr.nil _)
  refine Go.of (T' := T194) (f' := (mkF m 10 #[.val (.int ch)] [(.int (1 : Int32))])) (fun _ k => st194 _ k) ?_
  refine Go.of (T' := T194) (f' := (mkF m 13 #[.val (.int ch)] [])) (fun _ k => XS.ifNo X194.here hx rfl (hb hby d_jdk_42_method_139_code_10) rfl ((if0 _ _).trans (feq (by decide : ¬ ((1 : Int32) = (0 : Int32)))).1) k) ?_
  obtain ⟨T196, h196, b196, q196, X196, e196, E196, A196, D196, st196⟩ := newOb X194 hx hZ hown (hw _ (List.mem_of_getElem? (i := 102) rfl)) (hw _ (List.mem_of_getElem? (i := 103) rfl)) (hw _ (List.mem_of_getElem? (i := 95) rfl)) e194 (g := (mkF m 13 #[.val (.int ch)] [])) rfl (hb hby d_jdk_42_method_139_code_13) (by decide) (by decide)
  have O197 := Old0.ext O0 E196
  have K197 := Keep.ext K0 E196
  have g_b196 : Z.heap.size ≤ b196 := q196 ▸ O0.1
  have z_b196 : h0.size ≤ b196 := q196 ▸ K0.1
  have f198 : Fld Z h196 b196 "java/lang/String" "value" "[B" .null := D196 (Or.inr (hw _ (List.mem_of_getElem? (i := 114) rfl))) (ty := (.array .byte)) (by decide)
  have f199 : Fld Z h196 b196 "java/lang/String" "coder" "B" (.int (0 : Int32)) := D196 (Or.inr (hw _ (List.mem_of_getElem? (i := 116) rfl))) (ty := .byte) (by decide)
  refine Go.of (T' := T196) (f' := (mkF m 16 #[.val (.int ch)] [(.ref b196)])) (fun _ k => st196 _ k) ?_
  refine Go.of (T' := T196) (f' := (mkF m 17 #[.val (.int ch)] [(.ref b196), (.ref b196)])) (fun _ k => XS.dup X196.here hx rfl (hb hby d_jdk_42_method_139_code_16) rfl rfl k) ?_
  refine Go.of (T' := T196) (f' := (mkF m 18 #[.val (.int ch)] [(.int ch), (.ref b196), (.ref b196)])) (fun _ k => XS.iloadN X196.here hx rfl (hb hby d_jdk_42_method_139_code_17) rfl k) ?_
  obtain ⟨T200, v200, L200, X200, q200, st200⟩ := callSt X196 hx hZ (y := (⟨"java/lang/StringLatin1", "toBytes", "(C)[B"⟩ : MethodName)) hown (hw _ (List.mem_of_getElem? (i := 104) rfl)) (hw _ (List.mem_of_getElem? (i := 105) rfl)) (hw _ (List.mem_of_getElem? (i := 100) rfl)) (hw _ (List.mem_of_getElem? (i := 106) rfl)) (by decide) (rm_tobytes hw G ch  h196 O197 ) e196 (W := 2) (by decide) (by decide) (by decide) (by decide) (g := (mkF m 18 #[.val (.int ch)] [(.int ch), (.ref b196), (.ref b196)])) rfl (by rw [hml]; rfl) (argsL := [(.int ch)]) (rest := [(.ref b196), (.ref b196)]) (lenOf pd__C__B rfl) rfl rfl (by show 2 * 0 + _ ≤ _; exact Nat.le_of_eq rfl) (hb hby d_jdk_42_method_139_code_18)
  obtain ⟨r_200, rfl, N200q, K200q, p200_0, p200_1⟩ := q200
  have N200 := Fr.app N194 N200q
  have O201 := Old0.keep O197 K200q all0
  have K201 := Keep.trans K197 K200q all0
  have z_r_200 : h0.size ≤ r_200 := Nat.le_trans K197.1 p200_0
  have g_r_200 : Z.heap.size ≤ r_200 := Nat.le_trans O197.1 p200_0
  have ne_b196_r_200 : b196 ≠ r_200 := Nat.ne_of_lt (Nat.lt_of_lt_of_le A196.lt p200_0)
  refine Go.of (T' := T200) (f' := (mkF m 21 #[.val (.int ch)] [(.ref r_200), (.ref b196), (.ref b196)])) (fun _ k => st200 _ k) ?_
  refine Go.of (T' := T200) (f' := (mkF m 22 #[.val (.int ch)] [(.int (0 : Int32)), (.ref r_200), (.ref b196), (.ref b196)])) (fun _ k => XS.iconst X200.here hx rfl (hb hby d_jdk_42_method_139_code_21) k) ?_
  have f203 : Exa Z T200.heap b196 "java/lang/String" := (Exa.keep A196 K200q)
  have f204 : Fld Z T200.heap b196 "java/lang/String" "value" "[B" .null := (Fld.keep f198 K200q nin0)
  have f205 : Fld Z T200.heap b196 "java/lang/String" "coder" "B" (.int (0 : Int32)) := (Fld.keep f199 K200q nin0)
  obtain ⟨T202, v202, L202, X202, q202, st202⟩ := callNew X200 hx hZ (y := (⟨"java/lang/String", "<init>", "([BB)V"⟩ : MethodName)) rfl hown (hw _ (List.mem_of_getElem? (i := 108) rfl)) (hw _ (List.mem_of_getElem? (i := 109) rfl)) (hw _ (List.mem_of_getElem? (i := 95) rfl)) (hw _ (List.mem_of_getElem? (i := 111) rfl)) (by decide) (rm_strinit hw G b196 r_200  T200.heap O201 f203 f204 f205 g_b196) rfl (W := 1) (by decide) (by decide) (by decide) (by decide) (g := (mkF m 22 #[.val (.int ch)] [(.int (0 : Int32)), (.ref r_200), (.ref b196), (.ref b196)])) rfl (by rw [hml]; rfl) (a := b196) (argsL := [(.ref r_200), (.int (0 : Int32))]) (rest := [(.ref b196)]) (lenOf pd___BB_V rfl) rfl rfl (by show 2 * 0 + _ ≤ _; exact Nat.le_of_eq rfl) (hb hby d_jdk_42_method_139_code_22)
  obtain ⟨rfl, N202q, K202q⟩ := q202
  have N202 := Fr.app N200 N202q
  have O206 := Old0.keep O201 K202q (allS g_b196 all0)
  have K206 := Keep.trans K201 K202q (allS (Or.inr z_b196) all0)
  refine Go.of (T' := T202) (f' := (mkF m 25 #[.val (.int ch)] [(.ref b196)])) (fun _ k => st202 _ k) ?_
  have f207 : Exa Z T202.heap b196 "java/lang/String" := (Exa.keep f203 K202q)
  exact Go.retA X202 hx hlk hret rfl rfl (hb hby d_jdk_42_method_139_code_25) (by decide) (by decide) ⟨b196, rfl, N202, K206, z_b196, f207⟩
theorem d_jdk_41_method_11_code_0 : decode jdk_41_method_11_code 0 = .ok (.iload_n 0, 1) := by decide +kernel
theorem d_jdk_41_method_11_code_1 : decode jdk_41_method_11_code 1 = .ok (.ifCond .lt 8, 3) := by decide +kernel
theorem d_jdk_41_method_11_code_4 : decode jdk_41_method_11_code 4 = .ok (.iload_n 0, 1) := by decide +kernel
theorem d_jdk_41_method_11_code_5 : decode jdk_41_method_11_code 5 = .ok (.iload_n 1, 1) := by decide +kernel
theorem d_jdk_41_method_11_code_6 : decode jdk_41_method_11_code 6 = .ok (.if_icmp .lt 10, 3) := by decide +kernel
theorem d_jdk_41_method_11_code_16 : decode jdk_41_method_11_code 16 = .ok (.iload_n 0, 1) := by decide +kernel
theorem d_jdk_41_method_11_code_17 : decode jdk_41_method_11_code 17 = .ok (.ireturn, 1) := by decide +kernel
theorem ef_rm_pci0 (m : MethodId)  : entryFrame m #[(.int (0 : Int32)), (.int (3 : Int32)), .null] 3 = mkF m 0 #[.val (.int (0 : Int32)), .val (.int (3 : Int32)), .val .null] [] := by first | (simp [entryFrame, mkF, argsToLocals, Value.category]; done) | rfl
theorem pn_jdk_internal_util_Preconditions_checkIndex__IILjava_util_function_BiFunction__I : plainFor (⟨"jdk/internal/util/Preconditions", "checkIndex", "(IILjava/util/function/BiFunction;)I"⟩ : MethodName) = true := by first | exact plainFor_of_name (by first | (simp [plainName, overriddenIn]; done) | decide +kernel) | decide +kernel
set_option maxRecDepth 65536 in
set_option maxHeartbeats 40000000 in
theorem rm_pci0 {l : Launch} {Z : State} {a0 : Array Value} {s__VALUES : Addr} {s_HITS : Addr} {s_RESULTS : Addr} {s_VALIDATE : Addr} {s_HITS_name : Addr} {s_RESULTS_name : Addr} {s_VALIDATE_name : Addr} {s_HITS_name_value : Addr} {s_RESULTS_name_value : Addr} {s_VALIDATE_name_value : Addr} {s_DEFAULTCAPACITY_EMPTY_ELEMENTDATA : Addr} {s_COMPACT_STRINGS : Int32} {cl_s__VALUES : Cell} {cl_s_HITS_name_value : Cell} {cl_s_RESULTS_name_value : Cell} {cl_s_VALIDATE_name_value : Cell} {cl_s_DEFAULTCAPACITY_EMPTY_ELEMENTDATA : Cell} (hw : ∀ d ∈ tables_1, d.before a0 Z = true) (G : own_Ctx Z s__VALUES s_HITS s_RESULTS s_VALIDATE s_HITS_name s_RESULTS_name s_VALIDATE_name s_HITS_name_value s_RESULTS_name_value s_VALIDATE_name_value s_DEFAULTCAPACITY_EMPTY_ELEMENTDATA s_COMPACT_STRINGS cl_s__VALUES cl_s_HITS_name_value cl_s_RESULTS_name_value cl_s_VALIDATE_name_value cl_s_DEFAULTCAPACITY_EMPTY_ELEMENTDATA)   (h0 : Heap) (O0 : Ext Z.heap h0)  :
    Ok l Z (⟨"jdk/internal/util/Preconditions", "checkIndex", "(IILjava/util/function/BiFunction;)I"⟩ : MethodName) jdk_41_method_11_code 3 (some .int) ({ frames := 0, cells := 0, slots := 0, locals := 0 } : Room) #[(.int (0 : Int32)), (.int (3 : Int32)), .null] h0
      (fun v h L => v = some (.int (0 : Int32)) ∧ (h = h0) ∧ (L = [])) := by
  refine Ok.mk pn_jdk_internal_util_Preconditions_checkIndex__IILjava_util_function_BiFunction__I ?_
  intro p e s m below meth c T0 hx hby hml hown hnm hret hlk hZ e0 X0
  refine Go.cast (ef_rm_pci0 m ) ?_
  obtain ⟨S__VALUES, E_s__VALUES, S_HITS, E_s_HITS, S_RESULTS, E_s_RESULTS, S_VALIDATE, E_s_VALIDATE, F_s_HITS_name, E_s_HITS_name, F_s_RESULTS_name, E_s_RESULTS_name, F_s_VALIDATE_name, E_s_VALIDATE_name, F_s_HITS_name_coder, F_s_HITS_name_value, F_s_RESULTS_name_coder, F_s_RESULTS_name_value, F_s_VALIDATE_name_coder, F_s_VALIDATE_name_value, ne_s_HITS_name_s_RESULTS_name, ne_s_HITS_name_s_VALIDATE_name, ne_s_RESULTS_name_s_VALIDATE_name, S_DEFAULTCAPACITY_EMPTY_ELEMENTDATA, E_s_DEFAULTCAPACITY_EMPTY_ELEMENTDATA, S_COMPACT_STRINGS, hne_s_COMPACT_STRINGS_0, V_s__VALUES, V_s_HITS_name_value, V_s_RESULTS_name_value, V_s_VALIDATE_name_value, V_s_DEFAULTCAPACITY_EMPTY_ELEMENTDATA⟩ := id G
  have N0 := Fr.nil Z.heap.size
  have K0 : Keep h0 h0 [] := Keep.refl _ _
  refine Go.of (T' := T0) (f' := (mkF m 1 #[.val (.int (0 : Int32)), .val (.int (3 : Int32)), .val .null] [(.int (0 : Int32))])) (fun _ k => XS.iloadN X0.here hx rfl (hb hby d_jdk_41_method_11_code_0) rfl k) ?_
  refine Go.of (T' := T0) (f' := (mkF m 4 #[.val (.int (0 : Int32)), .val (.int (3 : Int32)), .val .null] [])) (fun _ k => XS.ifNo X0.here hx rfl (hb hby d_jdk_41_method_11_code_1) rfl ((if0 _ _).trans (flt (by decide : ¬ ((0 : Int32) < (0 : Int32)))).1) k) ?_
  refine Go.of (T' := T0) (f' := (mkF m 5 #[.val (.int (0 : Int32)), .val (.int (3 : Int32)), .val .null] [(.int (0 : Int32))])) (fun _ k => XS.iloadN X0.here hx rfl (hb hby d_jdk_41_method_11_code_4) rfl k) ?_
  refine Go.of (T' := T0) (f' := (mkF m 6 #[.val (.int (0 : Int32)), .val (.int (3 : Int32)), .val .null] [(.int (3 : Int32)), (.int (0 : Int32))])) (fun _ k => XS.iloadN X0.here hx rfl (hb hby d_jdk_41_method_11_code_5) rfl k) ?_
  refine Go.of (T' := T0) (f' := (mkF m 16 #[.val (.int (0 : Int32)), .val (.int (3 : Int32)), .val .null] [])) (fun _ k => XS.icmpYes X0.here hx rfl (pc0 := 6) (pc' := 16) rfl (hb hby d_jdk_41_method_11_code_6) rfl (tlt (by decide : (0 : Int32) < (3 : Int32))).1 (by decide) (by decide) k) ?_
  refine Go.of (T' := T0) (f' := (mkF m 17 #[.val (.int (0 : Int32)), .val (.int (3 : Int32)), .val .null] [(.int (0 : Int32))])) (fun _ k => XS.iloadN X0.here hx rfl (hb hby d_jdk_41_method_11_code_16) rfl k) ?_
  exact Go.retI X0 hx hlk hret (hb hby d_jdk_41_method_11_code_17) (by decide) (by decide) (by rw [e0]; exact ⟨rfl, rfl, by simp⟩)
theorem d_jdk_31_method_17_code_0 : decode jdk_31_method_17_code 0 = .ok (.iload_n 0, 1) := by decide +kernel
theorem d_jdk_31_method_17_code_1 : decode jdk_31_method_17_code 1 = .ok (.iload_n 1, 1) := by decide +kernel
theorem d_jdk_31_method_17_code_2 : decode jdk_31_method_17_code 2 = .ok (.aconst_null, 1) := by decide +kernel
theorem d_jdk_31_method_17_code_3 : decode jdk_31_method_17_code 3 = .ok (.invokestatic 105, 3) := by decide +kernel
theorem pd__IILjava_util_function_BiFunction__I : parseMethodDescriptor "(IILjava/util/function/BiFunction;)I" = some ⟨[.int, .int, (.object "java/util/function/BiFunction")], some .int⟩ := by decide +kernel
theorem d_jdk_31_method_17_code_6 : decode jdk_31_method_17_code 6 = .ok (.ireturn, 1) := by decide +kernel
theorem ef_rm_oci0 (m : MethodId)  : entryFrame m #[(.int (0 : Int32)), (.int (3 : Int32))] 2 = mkF m 0 #[.val (.int (0 : Int32)), .val (.int (3 : Int32))] [] := by first | (simp [entryFrame, mkF, argsToLocals, Value.category]; done) | rfl
theorem pn_java_util_Objects_checkIndex__II_I : plainFor (⟨"java/util/Objects", "checkIndex", "(II)I"⟩ : MethodName) = true := by first | exact plainFor_of_name (by first | (simp [plainName, overriddenIn]; done) | decide +kernel) | decide +kernel
set_option maxRecDepth 65536 in
set_option maxHeartbeats 40000000 in
theorem rm_oci0 {l : Launch} {Z : State} {a0 : Array Value} {s__VALUES : Addr} {s_HITS : Addr} {s_RESULTS : Addr} {s_VALIDATE : Addr} {s_HITS_name : Addr} {s_RESULTS_name : Addr} {s_VALIDATE_name : Addr} {s_HITS_name_value : Addr} {s_RESULTS_name_value : Addr} {s_VALIDATE_name_value : Addr} {s_DEFAULTCAPACITY_EMPTY_ELEMENTDATA : Addr} {s_COMPACT_STRINGS : Int32} {cl_s__VALUES : Cell} {cl_s_HITS_name_value : Cell} {cl_s_RESULTS_name_value : Cell} {cl_s_VALIDATE_name_value : Cell} {cl_s_DEFAULTCAPACITY_EMPTY_ELEMENTDATA : Cell} (hw : ∀ d ∈ tables_1, d.before a0 Z = true) (G : own_Ctx Z s__VALUES s_HITS s_RESULTS s_VALIDATE s_HITS_name s_RESULTS_name s_VALIDATE_name s_HITS_name_value s_RESULTS_name_value s_VALIDATE_name_value s_DEFAULTCAPACITY_EMPTY_ELEMENTDATA s_COMPACT_STRINGS cl_s__VALUES cl_s_HITS_name_value cl_s_RESULTS_name_value cl_s_VALIDATE_name_value cl_s_DEFAULTCAPACITY_EMPTY_ELEMENTDATA)   (h0 : Heap) (O0 : Ext Z.heap h0)  :
    Ok l Z (⟨"java/util/Objects", "checkIndex", "(II)I"⟩ : MethodName) jdk_31_method_17_code 2 (some .int) ({ frames := 1, cells := 0, slots := 0, locals := 14 } : Room) #[(.int (0 : Int32)), (.int (3 : Int32))] h0
      (fun v h L => v = some (.int (0 : Int32)) ∧ (h = h0) ∧ (L = [])) := by
  refine Ok.mk pn_java_util_Objects_checkIndex__II_I ?_
  intro p e s m below meth c T0 hx hby hml hown hnm hret hlk hZ e0 X0
  refine Go.cast (ef_rm_oci0 m ) ?_
  obtain ⟨S__VALUES, E_s__VALUES, S_HITS, E_s_HITS, S_RESULTS, E_s_RESULTS, S_VALIDATE, E_s_VALIDATE, F_s_HITS_name, E_s_HITS_name, F_s_RESULTS_name, E_s_RESULTS_name, F_s_VALIDATE_name, E_s_VALIDATE_name, F_s_HITS_name_coder, F_s_HITS_name_value, F_s_RESULTS_name_coder, F_s_RESULTS_name_value, F_s_VALIDATE_name_coder, F_s_VALIDATE_name_value, ne_s_HITS_name_s_RESULTS_name, ne_s_HITS_name_s_VALIDATE_name, ne_s_RESULTS_name_s_VALIDATE_name, S_DEFAULTCAPACITY_EMPTY_ELEMENTDATA, E_s_DEFAULTCAPACITY_EMPTY_ELEMENTDATA, S_COMPACT_STRINGS, hne_s_COMPACT_STRINGS_0, V_s__VALUES, V_s_HITS_name_value, V_s_RESULTS_name_value, V_s_VALIDATE_name_value, V_s_DEFAULTCAPACITY_EMPTY_ELEMENTDATA⟩ := id G
  have N0 := Fr.nil Z.heap.size
  have K0 : Keep h0 h0 [] := Keep.refl _ _
  refine Go.of (T' := T0) (f' := (mkF m 1 #[.val (.int (0 : Int32)), .val (.int (3 : Int32))] [(.int (0 : Int32))])) (fun _ k => XS.iloadN X0.here hx rfl (hb hby d_jdk_31_method_17_code_0) rfl k) ?_
  refine Go.of (T' := T0) (f' := (mkF m 2 #[.val (.int (0 : Int32)), .val (.int (3 : Int32))] [(.int (3 : Int32)), (.int (0 : Int32))])) (fun _ k => XS.iloadN X0.here hx rfl (hb hby d_jdk_31_method_17_code_1) rfl k) ?_
  refine Go.of (T' := T0) (f' := (mkF m 3 #[.val (.int (0 : Int32)), .val (.int (3 : Int32))] [.null, (.int (3 : Int32)), (.int (0 : Int32))])) (fun _ k => XS.aconstNull X0.here hx rfl (hb hby d_jdk_31_method_17_code_2) k) ?_
  obtain ⟨T210, v210, L210, X210, q210, st210⟩ := callSt X0 hx hZ (y := (⟨"jdk/internal/util/Preconditions", "checkIndex", "(IILjava/util/function/BiFunction;)I"⟩ : MethodName)) hown (hw _ (List.mem_of_getElem? (i := 130) rfl)) (hw _ (List.mem_of_getElem? (i := 131) rfl)) (hw _ (List.mem_of_getElem? (i := 132) rfl)) (hw _ (List.mem_of_getElem? (i := 133) rfl)) (by decide) (rm_pci0 hw G   h0 O0 ) e0 (W := 0) (by decide) (by decide) (by decide) (by decide) (g := (mkF m 3 #[.val (.int (0 : Int32)), .val (.int (3 : Int32))] [.null, (.int (3 : Int32)), (.int (0 : Int32))])) rfl (by rw [hml]; rfl) (argsL := [(.int (0 : Int32)), (.int (3 : Int32)), .null]) (rest := []) (lenOf pd__IILjava_util_function_BiFunction__I rfl) rfl rfl (by show 2 * 0 + _ ≤ _; exact Nat.le_of_eq rfl) (hb hby d_jdk_31_method_17_code_3)
  obtain ⟨rfl, e210, rfl⟩ := q210
  have N210 := Fr.app N0 (Fr.nil _)
  refine Go.of (T' := T210) (f' := (mkF m 6 #[.val (.int (0 : Int32)), .val (.int (3 : Int32))] [(.int (0 : Int32))])) (fun _ k => st210 _ k) ?_
  exact Go.retI X210 hx hlk hret (hb hby d_jdk_31_method_17_code_6) (by decide) (by decide) (by rw [e210]; exact ⟨rfl, rfl, by simp⟩)
theorem d_jdk_38_method_18_code_0 : decode jdk_38_method_18_code 0 = .ok (.aload_n 0, 1) := by decide +kernel
theorem d_jdk_38_method_18_code_1 : decode jdk_38_method_18_code 1 = .ok (.getfield 9, 3) := by decide +kernel
theorem d_jdk_38_method_18_code_4 : decode jdk_38_method_18_code 4 = .ok (.iload_n 1, 1) := by decide +kernel
theorem d_jdk_38_method_18_code_5 : decode jdk_38_method_18_code 5 = .ok (.aaload, 1) := by decide +kernel
theorem d_jdk_38_method_18_code_6 : decode jdk_38_method_18_code 6 = .ok (.areturn, 1) := by decide +kernel
theorem ef_rm_eldat0 (m : MethodId) (ob : Addr) : entryFrame m #[(.ref ob), (.int (0 : Int32))] 2 = mkF m 0 #[.val (.ref ob), .val (.int (0 : Int32))] [] := by first | (simp [entryFrame, mkF, argsToLocals, Value.category]; done) | rfl
theorem pn_java_util_ArrayList_elementData__I_Ljava_lang_Object_ : plainFor (⟨"java/util/ArrayList", "elementData", "(I)Ljava/lang/Object;"⟩ : MethodName) = true := by first | exact plainFor_of_name (by first | (simp [plainName, overriddenIn]; done) | decide +kernel) | decide +kernel
set_option maxRecDepth 65536 in
set_option maxHeartbeats 40000000 in
theorem rm_eldat0 {l : Launch} {Z : State} {a0 : Array Value} {s__VALUES : Addr} {s_HITS : Addr} {s_RESULTS : Addr} {s_VALIDATE : Addr} {s_HITS_name : Addr} {s_RESULTS_name : Addr} {s_VALIDATE_name : Addr} {s_HITS_name_value : Addr} {s_RESULTS_name_value : Addr} {s_VALIDATE_name_value : Addr} {s_DEFAULTCAPACITY_EMPTY_ELEMENTDATA : Addr} {s_COMPACT_STRINGS : Int32} {cl_s__VALUES : Cell} {cl_s_HITS_name_value : Cell} {cl_s_RESULTS_name_value : Cell} {cl_s_VALIDATE_name_value : Cell} {cl_s_DEFAULTCAPACITY_EMPTY_ELEMENTDATA : Cell} (hw : ∀ d ∈ tables_1, d.before a0 Z = true) (G : own_Ctx Z s__VALUES s_HITS s_RESULTS s_VALIDATE s_HITS_name s_RESULTS_name s_VALIDATE_name s_HITS_name_value s_RESULTS_name_value s_VALIDATE_name_value s_DEFAULTCAPACITY_EMPTY_ELEMENTDATA s_COMPACT_STRINGS cl_s__VALUES cl_s_HITS_name_value cl_s_RESULTS_name_value cl_s_VALIDATE_name_value cl_s_DEFAULTCAPACITY_EMPTY_ELEMENTDATA) (ob : Addr) (ar : Addr) (kr : ClassId) (el0 : Addr) (el1 : Addr) (el2 : Addr) (h0 : Heap) (O0 : Ext Z.heap h0) (prem0 : Fld Z h0 ob "java/util/ArrayList" "elementData" "[Ljava/lang/Object;" (.ref ar)) (prem1 : Arv Z h0 ar kr (.object "java/lang/Object") (10 : Int32) [(.ref el0), (.ref el1), (.ref el2), .null, .null, .null, .null, .null, .null, .null] .null) :
    Ok l Z (⟨"java/util/ArrayList", "elementData", "(I)Ljava/lang/Object;"⟩ : MethodName) jdk_38_method_18_code 2 (some (.object "java/lang/Object")) ({ frames := 0, cells := 0, slots := 0, locals := 0 } : Room) #[(.ref ob), (.int (0 : Int32))] h0
      (fun v h L => v = some (.ref el0) ∧ (h = h0) ∧ (L = [])) := by
  refine Ok.mk pn_java_util_ArrayList_elementData__I_Ljava_lang_Object_ ?_
  intro p e s m below meth c T0 hx hby hml hown hnm hret hlk hZ e0 X0
  refine Go.cast (ef_rm_eldat0 m ob) ?_
  obtain ⟨S__VALUES, E_s__VALUES, S_HITS, E_s_HITS, S_RESULTS, E_s_RESULTS, S_VALIDATE, E_s_VALIDATE, F_s_HITS_name, E_s_HITS_name, F_s_RESULTS_name, E_s_RESULTS_name, F_s_VALIDATE_name, E_s_VALIDATE_name, F_s_HITS_name_coder, F_s_HITS_name_value, F_s_RESULTS_name_coder, F_s_RESULTS_name_value, F_s_VALIDATE_name_coder, F_s_VALIDATE_name_value, ne_s_HITS_name_s_RESULTS_name, ne_s_HITS_name_s_VALIDATE_name, ne_s_RESULTS_name_s_VALIDATE_name, S_DEFAULTCAPACITY_EMPTY_ELEMENTDATA, E_s_DEFAULTCAPACITY_EMPTY_ELEMENTDATA, S_COMPACT_STRINGS, hne_s_COMPACT_STRINGS_0, V_s__VALUES, V_s_HITS_name_value, V_s_RESULTS_name_value, V_s_VALIDATE_name_value, V_s_DEFAULTCAPACITY_EMPTY_ELEMENTDATA⟩ := id G
  have N0 := Fr.nil Z.heap.size
  have K0 : Keep h0 h0 [] := Keep.refl _ _
  refine Go.of (T' := T0) (f' := (mkF m 1 #[.val (.ref ob), .val (.int (0 : Int32))] [(.ref ob)])) (fun _ k => XS.aloadN X0.here hx rfl (hb hby d_jdk_38_method_18_code_0) rfl rfl k) ?_
  obtain ⟨T211, X211, e211, st211⟩ := getF X0 hx hZ hown (host := "") (Or.inl (hw _ (List.mem_of_getElem? (i := 28) rfl))) Via.refl e0 prem0 (g := (mkF m 1 #[.val (.ref ob), .val (.int (0 : Int32))] [(.ref ob)])) rfl rfl (hb hby d_jdk_38_method_18_code_1)
  refine Go.of (T' := T211) (f' := (mkF m 4 #[.val (.ref ob), .val (.int (0 : Int32))] [(.ref ar)])) (fun _ k => st211 _ k) ?_
  refine Go.of (T' := T211) (f' := (mkF m 5 #[.val (.ref ob), .val (.int (0 : Int32))] [(.int (0 : Int32)), (.ref ar)])) (fun _ k => XS.iloadN X211.here hx rfl (hb hby d_jdk_38_method_18_code_4) rfl k) ?_
  obtain ⟨cl212, Ar212, qk212, S212, Ng212, H212, G212⟩ := id prem1
  have hin212 := inb_of (j := (0 : Int32)) S212 ⟨by decide, by decide⟩
  refine Go.of (T' := T211) (f' := (mkF m 6 #[.val (.ref ob), .val (.int (0 : Int32))] [(.ref el0)])) (fun _ k => X211.aaload hx (j := (0 : Int32)) (v := (.ref el0)) (by rw [e211]; exact Ar212.1) (State.isArrayOf_alike hZ.alike Ar212.2.1) rfl Ar212.2.2 hin212 (H212.at hin212 rfl) (g := (mkF m 5 #[.val (.ref ob), .val (.int (0 : Int32))] [(.int (0 : Int32)), (.ref ar)])) rfl rfl (hb hby d_jdk_38_method_18_code_5) _ k) ?_
  exact Go.retA X211 hx hlk hret rfl rfl (hb hby d_jdk_38_method_18_code_6) (by decide) (by decide) (by rw [e211]; exact ⟨rfl, rfl, by simp⟩)
theorem d_jdk_38_method_20_code_0 : decode jdk_38_method_20_code 0 = .ok (.iload_n 1, 1) := by decide +kernel
theorem d_jdk_38_method_20_code_1 : decode jdk_38_method_20_code 1 = .ok (.aload_n 0, 1) := by decide +kernel
theorem d_jdk_38_method_20_code_2 : decode jdk_38_method_20_code 2 = .ok (.getfield 48, 3) := by decide +kernel
theorem d_jdk_38_method_20_code_5 : decode jdk_38_method_20_code 5 = .ok (.invokestatic 118, 3) := by decide +kernel
theorem d_jdk_38_method_20_code_8 : decode jdk_38_method_20_code 8 = .ok (.pop, 1) := by decide +kernel
theorem d_jdk_38_method_20_code_9 : decode jdk_38_method_20_code 9 = .ok (.aload_n 0, 1) := by decide +kernel
theorem d_jdk_38_method_20_code_10 : decode jdk_38_method_20_code 10 = .ok (.iload_n 1, 1) := by decide +kernel
theorem d_jdk_38_method_20_code_11 : decode jdk_38_method_20_code 11 = .ok (.invokevirtual 123, 3) := by decide +kernel
theorem pd__I_Ljava_lang_Object_ : parseMethodDescriptor "(I)Ljava/lang/Object;" = some ⟨[.int], some (.object "java/lang/Object")⟩ := by decide +kernel
theorem d_jdk_38_method_20_code_14 : decode jdk_38_method_20_code 14 = .ok (.areturn, 1) := by decide +kernel
theorem ef_rm_get0 (m : MethodId) (ob : Addr) : entryFrame m #[(.ref ob), (.int (0 : Int32))] 2 = mkF m 0 #[.val (.ref ob), .val (.int (0 : Int32))] [] := by first | (simp [entryFrame, mkF, argsToLocals, Value.category]; done) | rfl
theorem pn_java_util_ArrayList_get__I_Ljava_lang_Object_ : plainFor (⟨"java/util/ArrayList", "get", "(I)Ljava/lang/Object;"⟩ : MethodName) = true := by first | exact plainFor_of_name (by first | (simp [plainName, overriddenIn]; done) | decide +kernel) | decide +kernel
set_option maxRecDepth 65536 in
set_option maxHeartbeats 40000000 in
theorem rm_get0 {l : Launch} {Z : State} {a0 : Array Value} {s__VALUES : Addr} {s_HITS : Addr} {s_RESULTS : Addr} {s_VALIDATE : Addr} {s_HITS_name : Addr} {s_RESULTS_name : Addr} {s_VALIDATE_name : Addr} {s_HITS_name_value : Addr} {s_RESULTS_name_value : Addr} {s_VALIDATE_name_value : Addr} {s_DEFAULTCAPACITY_EMPTY_ELEMENTDATA : Addr} {s_COMPACT_STRINGS : Int32} {cl_s__VALUES : Cell} {cl_s_HITS_name_value : Cell} {cl_s_RESULTS_name_value : Cell} {cl_s_VALIDATE_name_value : Cell} {cl_s_DEFAULTCAPACITY_EMPTY_ELEMENTDATA : Cell} (hw : ∀ d ∈ tables_1, d.before a0 Z = true) (G : own_Ctx Z s__VALUES s_HITS s_RESULTS s_VALIDATE s_HITS_name s_RESULTS_name s_VALIDATE_name s_HITS_name_value s_RESULTS_name_value s_VALIDATE_name_value s_DEFAULTCAPACITY_EMPTY_ELEMENTDATA s_COMPACT_STRINGS cl_s__VALUES cl_s_HITS_name_value cl_s_RESULTS_name_value cl_s_VALIDATE_name_value cl_s_DEFAULTCAPACITY_EMPTY_ELEMENTDATA) (ob : Addr) (ar : Addr) (kr : ClassId) (el0 : Addr) (el1 : Addr) (el2 : Addr) (h0 : Heap) (O0 : Ext Z.heap h0) (prem0 : Exa Z h0 ob "java/util/ArrayList") (prem1 : Fld Z h0 ob "java/util/ArrayList" "size" "I" (.int (3 : Int32))) (prem2 : Fld Z h0 ob "java/util/ArrayList" "elementData" "[Ljava/lang/Object;" (.ref ar)) (prem3 : Arv Z h0 ar kr (.object "java/lang/Object") (10 : Int32) [(.ref el0), (.ref el1), (.ref el2), .null, .null, .null, .null, .null, .null, .null] .null) :
    Ok l Z (⟨"java/util/ArrayList", "get", "(I)Ljava/lang/Object;"⟩ : MethodName) jdk_38_method_20_code 2 (some (.object "java/lang/Object")) ({ frames := 2, cells := 0, slots := 0, locals := 27 } : Room) #[(.ref ob), (.int (0 : Int32))] h0
      (fun v h L => v = some (.ref el0) ∧ (h = h0) ∧ (L = [])) := by
  refine Ok.mk pn_java_util_ArrayList_get__I_Ljava_lang_Object_ ?_
  intro p e s m below meth c T0 hx hby hml hown hnm hret hlk hZ e0 X0
  refine Go.cast (ef_rm_get0 m ob) ?_
  obtain ⟨S__VALUES, E_s__VALUES, S_HITS, E_s_HITS, S_RESULTS, E_s_RESULTS, S_VALIDATE, E_s_VALIDATE, F_s_HITS_name, E_s_HITS_name, F_s_RESULTS_name, E_s_RESULTS_name, F_s_VALIDATE_name, E_s_VALIDATE_name, F_s_HITS_name_coder, F_s_HITS_name_value, F_s_RESULTS_name_coder, F_s_RESULTS_name_value, F_s_VALIDATE_name_coder, F_s_VALIDATE_name_value, ne_s_HITS_name_s_RESULTS_name, ne_s_HITS_name_s_VALIDATE_name, ne_s_RESULTS_name_s_VALIDATE_name, S_DEFAULTCAPACITY_EMPTY_ELEMENTDATA, E_s_DEFAULTCAPACITY_EMPTY_ELEMENTDATA, S_COMPACT_STRINGS, hne_s_COMPACT_STRINGS_0, V_s__VALUES, V_s_HITS_name_value, V_s_RESULTS_name_value, V_s_VALIDATE_name_value, V_s_DEFAULTCAPACITY_EMPTY_ELEMENTDATA⟩ := id G
  have N0 := Fr.nil Z.heap.size
  have K0 : Keep h0 h0 [] := Keep.refl _ _
  refine Go.of (T' := T0) (f' := (mkF m 1 #[.val (.ref ob), .val (.int (0 : Int32))] [(.int (0 : Int32))])) (fun _ k => XS.iloadN X0.here hx rfl (hb hby d_jdk_38_method_20_code_0) rfl k) ?_
  refine Go.of (T' := T0) (f' := (mkF m 2 #[.val (.ref ob), .val (.int (0 : Int32))] [(.ref ob), (.int (0 : Int32))])) (fun _ k => XS.aloadN X0.here hx rfl (hb hby d_jdk_38_method_20_code_1) rfl rfl k) ?_
  obtain ⟨T213, X213, e213, st213⟩ := getF X0 hx hZ hown (host := "") (Or.inl (hw _ (List.mem_of_getElem? (i := 61) rfl))) Via.refl e0 prem1 (g := (mkF m 2 #[.val (.ref ob), .val (.int (0 : Int32))] [(.ref ob), (.int (0 : Int32))])) rfl rfl (hb hby d_jdk_38_method_20_code_2)
  refine Go.of (T' := T213) (f' := (mkF m 5 #[.val (.ref ob), .val (.int (0 : Int32))] [(.int (3 : Int32)), (.int (0 : Int32))])) (fun _ k => st213 _ k) ?_
  obtain ⟨T214, v214, L214, X214, q214, st214⟩ := callSt X213 hx hZ (y := (⟨"java/util/Objects", "checkIndex", "(II)I"⟩ : MethodName)) hown (hw _ (List.mem_of_getElem? (i := 126) rfl)) (hw _ (List.mem_of_getElem? (i := 127) rfl)) (hw _ (List.mem_of_getElem? (i := 128) rfl)) (hw _ (List.mem_of_getElem? (i := 129) rfl)) (by decide) (rm_oci0 hw G   h0 O0 ) e213 (W := 0) (by decide) (by decide) (by decide) (by decide) (g := (mkF m 5 #[.val (.ref ob), .val (.int (0 : Int32))] [(.int (3 : Int32)), (.int (0 : Int32))])) rfl (by rw [hml]; rfl) (argsL := [(.int (0 : Int32)), (.int (3 : Int32))]) (rest := []) (lenOf pd__II_I rfl) rfl rfl (by show 2 * 0 + _ ≤ _; exact Nat.le_of_eq rfl) (hb hby d_jdk_38_method_20_code_5)
  obtain ⟨rfl, e214, rfl⟩ := q214
  have N214 := Fr.app N0 (Fr.nil _)
  refine Go.of (T' := T214) (f' := (mkF m 8 #[.val (.ref ob), .val (.int (0 : Int32))] [(.int (0 : Int32))])) (fun _ k => st214 _ k) ?_
  refine Go.of (T' := T214) (f' := (mkF m 9 #[.val (.ref ob), .val (.int (0 : Int32))] [])) (fun _ k => XT.pop X214.here hx rfl (hb hby d_jdk_38_method_20_code_8) rfl rfl k) ?_
  refine Go.of (T' := T214) (f' := (mkF m 10 #[.val (.ref ob), .val (.int (0 : Int32))] [(.ref ob)])) (fun _ k => XS.aloadN X214.here hx rfl (hb hby d_jdk_38_method_20_code_9) rfl rfl k) ?_
  refine Go.of (T' := T214) (f' := (mkF m 11 #[.val (.ref ob), .val (.int (0 : Int32))] [(.int (0 : Int32)), (.ref ob)])) (fun _ k => XS.iloadN X214.here hx rfl (hb hby d_jdk_38_method_20_code_10) rfl k) ?_
  obtain ⟨T215, v215, L215, X215, q215, st215⟩ := callVi X214 hx hZ (y := (⟨"java/util/ArrayList", "elementData", "(I)Ljava/lang/Object;"⟩ : MethodName)) (z := (⟨"java/util/ArrayList", "elementData", "(I)Ljava/lang/Object;"⟩ : MethodName)) hown (hw _ (List.mem_of_getElem? (i := 134) rfl)) (hw _ (List.mem_of_getElem? (i := 135) rfl)) (notFace_of_selects (args := #[]) (mvT hZ (hw _ (List.mem_of_getElem? (i := 137) rfl)))) (hw _ (List.mem_of_getElem? (i := 137) rfl)) (hw _ (List.mem_of_getElem? (i := 136) rfl)) (hw _ (List.mem_of_getElem? (i := 138) rfl)) (hw _ (List.mem_of_getElem? (i := 6) rfl)) (by decide) (rm_eldat0 hw G ob ar kr el0 el1 el2 h0 O0 prem2 prem3) e214 (W := 0) (by decide) (by decide) (by decide) (by decide) prem0 (g := (mkF m 11 #[.val (.ref ob), .val (.int (0 : Int32))] [(.int (0 : Int32)), (.ref ob)])) rfl (by rw [hml]; rfl) (argsL := [(.int (0 : Int32))]) (rest := []) (lenOf pd__I_Ljava_lang_Object_ rfl) rfl rfl (by show 2 * 0 + _ ≤ _; exact Nat.le_of_eq rfl) (hb hby d_jdk_38_method_20_code_11)
  obtain ⟨rfl, e215, rfl⟩ := q215
  have N215 := Fr.app N214 (Fr.nil _)
  refine Go.of (T' := T215) (f' := (mkF m 14 #[.val (.ref ob), .val (.int (0 : Int32))] [(.ref el0)])) (fun _ k => st215 _ k) ?_
  exact Go.retA X215 hx hlk hret rfl rfl (hb hby d_jdk_38_method_20_code_14) (by decide) (by decide) (by rw [e215]; exact ⟨rfl, rfl, by simp⟩)
theorem d_prog_4_method_6_code_0 : decode prog_4_method_6_code 0 = .ok (.aload_n 0, 1) := by decide +kernel
theorem d_prog_4_method_6_code_1 : decode prog_4_method_6_code 1 = .ok (.getfield 32, 3) := by decide +kernel
theorem d_prog_4_method_6_code_4 : decode prog_4_method_6_code 4 = .ok (.areturn, 1) := by decide +kernel
theorem ef_rm_gn0 (m : MethodId) (s_HITS : Addr) : entryFrame m #[(.ref s_HITS)] 1 = mkF m 0 #[.val (.ref s_HITS)] [] := by first | (simp [entryFrame, mkF, argsToLocals, Value.category]; done) | rfl
theorem pn_com_example_fair_index_fairindex_csw_ResultType_getName___Ljava_lang_String_ : plainFor (⟨"com/example/fair_index/fairindex/csw/ResultType", "getName", "()Ljava/lang/String;"⟩ : MethodName) = true := by first | exact plainFor_of_name (by first | (simp [plainName, overriddenIn]; done) | decide +kernel) | decide +kernel
set_option maxRecDepth 65536 in
set_option maxHeartbeats 40000000 in
theorem rm_gn0 {l : Launch} {Z : State} {a0 : Array Value} {s__VALUES : Addr} {s_HITS : Addr} {s_RESULTS : Addr} {s_VALIDATE : Addr} {s_HITS_name : Addr} {s_RESULTS_name : Addr} {s_VALIDATE_name : Addr} {s_HITS_name_value : Addr} {s_RESULTS_name_value : Addr} {s_VALIDATE_name_value : Addr} {s_DEFAULTCAPACITY_EMPTY_ELEMENTDATA : Addr} {s_COMPACT_STRINGS : Int32} {cl_s__VALUES : Cell} {cl_s_HITS_name_value : Cell} {cl_s_RESULTS_name_value : Cell} {cl_s_VALIDATE_name_value : Cell} {cl_s_DEFAULTCAPACITY_EMPTY_ELEMENTDATA : Cell} (hw : ∀ d ∈ tables_1, d.before a0 Z = true) (G : own_Ctx Z s__VALUES s_HITS s_RESULTS s_VALIDATE s_HITS_name s_RESULTS_name s_VALIDATE_name s_HITS_name_value s_RESULTS_name_value s_VALIDATE_name_value s_DEFAULTCAPACITY_EMPTY_ELEMENTDATA s_COMPACT_STRINGS cl_s__VALUES cl_s_HITS_name_value cl_s_RESULTS_name_value cl_s_VALIDATE_name_value cl_s_DEFAULTCAPACITY_EMPTY_ELEMENTDATA)   (h0 : Heap) (O0 : Ext Z.heap h0)  :
    Ok l Z (⟨"com/example/fair_index/fairindex/csw/ResultType", "getName", "()Ljava/lang/String;"⟩ : MethodName) prog_4_method_6_code 1 (some (.object "java/lang/String")) ({ frames := 0, cells := 0, slots := 0, locals := 0 } : Room) #[(.ref s_HITS)] h0
      (fun v h L => v = some (.ref s_HITS_name) ∧ (h = h0) ∧ (L = [])) := by
  refine Ok.mk pn_com_example_fair_index_fairindex_csw_ResultType_getName___Ljava_lang_String_ ?_
  intro p e s m below meth c T0 hx hby hml hown hnm hret hlk hZ e0 X0
  refine Go.cast (ef_rm_gn0 m s_HITS) ?_
  obtain ⟨S__VALUES, E_s__VALUES, S_HITS, E_s_HITS, S_RESULTS, E_s_RESULTS, S_VALIDATE, E_s_VALIDATE, F_s_HITS_name, E_s_HITS_name, F_s_RESULTS_name, E_s_RESULTS_name, F_s_VALIDATE_name, E_s_VALIDATE_name, F_s_HITS_name_coder, F_s_HITS_name_value, F_s_RESULTS_name_coder, F_s_RESULTS_name_value, F_s_VALIDATE_name_coder, F_s_VALIDATE_name_value, ne_s_HITS_name_s_RESULTS_name, ne_s_HITS_name_s_VALIDATE_name, ne_s_RESULTS_name_s_VALIDATE_name, S_DEFAULTCAPACITY_EMPTY_ELEMENTDATA, E_s_DEFAULTCAPACITY_EMPTY_ELEMENTDATA, S_COMPACT_STRINGS, hne_s_COMPACT_STRINGS_0, V_s__VALUES, V_s_HITS_name_value, V_s_RESULTS_name_value, V_s_VALIDATE_name_value, V_s_DEFAULTCAPACITY_EMPTY_ELEMENTDATA⟩ := id G
  have N0 := Fr.nil Z.heap.size
  have K0 : Keep h0 h0 [] := Keep.refl _ _
  refine Go.of (T' := T0) (f' := (mkF m 1 #[.val (.ref s_HITS)] [(.ref s_HITS)])) (fun _ k => XS.aloadN X0.here hx rfl (hb hby d_prog_4_method_6_code_0) rfl rfl k) ?_
  obtain ⟨T216, X216, e216, st216⟩ := getF X0 hx hZ hown (host := "") (Or.inl (hw _ (List.mem_of_getElem? (i := 48) rfl))) Via.refl e0 (Fld.ext O0 F_s_HITS_name) (g := (mkF m 1 #[.val (.ref s_HITS)] [(.ref s_HITS)])) rfl rfl (hb hby d_prog_4_method_6_code_1)
  refine Go.of (T' := T216) (f' := (mkF m 4 #[.val (.ref s_HITS)] [(.ref s_HITS_name)])) (fun _ k => st216 _ k) ?_
  exact Go.retA X216 hx hlk hret rfl rfl (hb hby d_prog_4_method_6_code_4) (by decide) (by decide) (by rw [e216]; exact ⟨rfl, rfl, by simp⟩)
theorem d_jdk_43_method_13_code_0 : decode jdk_43_method_13_code 0 = .ok (.aload_n 0, 1) := by decide +kernel
theorem d_jdk_43_method_13_code_1 : decode jdk_43_method_13_code 1 = .ok (.arraylength, 1) := by decide +kernel
theorem d_jdk_43_method_13_code_2 : decode jdk_43_method_13_code 2 = .ok (.aload_n 1, 1) := by decide +kernel
theorem d_jdk_43_method_13_code_3 : decode jdk_43_method_13_code 3 = .ok (.arraylength, 1) := by decide +kernel
theorem d_jdk_43_method_13_code_4 : decode jdk_43_method_13_code 4 = .ok (.if_icmp .ne 30, 3) := by decide +kernel
theorem d_jdk_43_method_13_code_7 : decode jdk_43_method_13_code 7 = .ok (.iconst 0, 1) := by decide +kernel
theorem d_jdk_43_method_13_code_8 : decode jdk_43_method_13_code 8 = .ok (.istore_n 2, 1) := by decide +kernel
theorem d_jdk_43_method_13_code_9 : decode jdk_43_method_13_code 9 = .ok (.iload_n 2, 1) := by decide +kernel
theorem d_jdk_43_method_13_code_10 : decode jdk_43_method_13_code 10 = .ok (.aload_n 0, 1) := by decide +kernel
theorem d_jdk_43_method_13_code_11 : decode jdk_43_method_13_code 11 = .ok (.arraylength, 1) := by decide +kernel
theorem d_jdk_43_method_13_code_12 : decode jdk_43_method_13_code 12 = .ok (.if_icmp .ge 20, 3) := by decide +kernel
theorem d_jdk_43_method_13_code_15 : decode jdk_43_method_13_code 15 = .ok (.aload_n 0, 1) := by decide +kernel
theorem d_jdk_43_method_13_code_16 : decode jdk_43_method_13_code 16 = .ok (.iload_n 2, 1) := by decide +kernel
theorem d_jdk_43_method_13_code_17 : decode jdk_43_method_13_code 17 = .ok (.baload, 1) := by decide +kernel
theorem d_jdk_43_method_13_code_18 : decode jdk_43_method_13_code 18 = .ok (.aload_n 1, 1) := by decide +kernel
theorem d_jdk_43_method_13_code_19 : decode jdk_43_method_13_code 19 = .ok (.iload_n 2, 1) := by decide +kernel
theorem d_jdk_43_method_13_code_20 : decode jdk_43_method_13_code 20 = .ok (.baload, 1) := by decide +kernel
theorem d_jdk_43_method_13_code_21 : decode jdk_43_method_13_code 21 = .ok (.if_icmp .eq 5, 3) := by decide +kernel
theorem d_jdk_43_method_13_code_26 : decode jdk_43_method_13_code 26 = .ok (.iinc 2 1, 3) := by decide +kernel
theorem d_jdk_43_method_13_code_29 : decode jdk_43_method_13_code 29 = .ok (.goto (-20), 3) := by decide +kernel
theorem d_jdk_43_method_13_code_32 : decode jdk_43_method_13_code 32 = .ok (.iconst 1, 1) := by decide +kernel
theorem d_jdk_43_method_13_code_33 : decode jdk_43_method_13_code 33 = .ok (.ireturn, 1) := by decide +kernel
theorem ef_rm_l1eq0 (m : MethodId) (xa : Addr) (xb : Addr) : entryFrame m #[(.ref xa), (.ref xb)] 3 = mkF m 0 #[.val (.ref xa), .val (.ref xb), .unset] [] := by first | (simp [entryFrame, mkF, argsToLocals, Value.category]; done) | rfl
theorem pn_java_lang_StringLatin1_equals___B_B_Z : plainFor (⟨"java/lang/StringLatin1", "equals", "([B[B)Z"⟩ : MethodName) = true := by first | exact plainFor_of_name (by first | (simp [plainName, overriddenIn]; done) | decide +kernel) | decide +kernel
set_option maxRecDepth 65536 in
set_option maxHeartbeats 40000000 in
theorem rm_l1eq0 {l : Launch} {Z : State} {a0 : Array Value} {s__VALUES : Addr} {s_HITS : Addr} {s_RESULTS : Addr} {s_VALIDATE : Addr} {s_HITS_name : Addr} {s_RESULTS_name : Addr} {s_VALIDATE_name : Addr} {s_HITS_name_value : Addr} {s_RESULTS_name_value : Addr} {s_VALIDATE_name_value : Addr} {s_DEFAULTCAPACITY_EMPTY_ELEMENTDATA : Addr} {s_COMPACT_STRINGS : Int32} {cl_s__VALUES : Cell} {cl_s_HITS_name_value : Cell} {cl_s_RESULTS_name_value : Cell} {cl_s_VALIDATE_name_value : Cell} {cl_s_DEFAULTCAPACITY_EMPTY_ELEMENTDATA : Cell} (hw : ∀ d ∈ tables_1, d.before a0 Z = true) (G : own_Ctx Z s__VALUES s_HITS s_RESULTS s_VALIDATE s_HITS_name s_RESULTS_name s_VALIDATE_name s_HITS_name_value s_RESULTS_name_value s_VALIDATE_name_value s_DEFAULTCAPACITY_EMPTY_ELEMENTDATA s_COMPACT_STRINGS cl_s__VALUES cl_s_HITS_name_value cl_s_RESULTS_name_value cl_s_VALIDATE_name_value cl_s_DEFAULTCAPACITY_EMPTY_ELEMENTDATA) (xa : Addr) (xb : Addr) (ka : ClassId) (kb : ClassId) (h0 : Heap) (O0 : Ext Z.heap h0) (prem0 : Arv Z h0 xa ka .byte (4 : Int32) [(.int (104 : Int32)), (.int (105 : Int32)), (.int (116 : Int32)), (.int (115 : Int32))] (.int (0 : Int32))) (prem1 : Arv Z h0 xb kb .byte (4 : Int32) [(.int (104 : Int32)), (.int (105 : Int32)), (.int (116 : Int32)), (.int (115 : Int32))] (.int (0 : Int32))) :
    Ok l Z (⟨"java/lang/StringLatin1", "equals", "([B[B)Z"⟩ : MethodName) jdk_43_method_13_code 3 (some .boolean) ({ frames := 0, cells := 0, slots := 0, locals := 0 } : Room) #[(.ref xa), (.ref xb)] h0
      (fun v h L => v = some (.int (1 : Int32)) ∧ (h = h0) ∧ (L = [])) := by
  refine Ok.mk pn_java_lang_StringLatin1_equals___B_B_Z ?_
  intro p e s m below meth c T0 hx hby hml hown hnm hret hlk hZ e0 X0
  refine Go.cast (ef_rm_l1eq0 m xa xb) ?_
  obtain ⟨S__VALUES, E_s__VALUES, S_HITS, E_s_HITS, S_RESULTS, E_s_RESULTS, S_VALIDATE, E_s_VALIDATE, F_s_HITS_name, E_s_HITS_name, F_s_RESULTS_name, E_s_RESULTS_name, F_s_VALIDATE_name, E_s_VALIDATE_name, F_s_HITS_name_coder, F_s_HITS_name_value, F_s_RESULTS_name_coder, F_s_RESULTS_name_value, F_s_VALIDATE_name_coder, F_s_VALIDATE_name_value, ne_s_HITS_name_s_RESULTS_name, ne_s_HITS_name_s_VALIDATE_name, ne_s_RESULTS_name_s_VALIDATE_name, S_DEFAULTCAPACITY_EMPTY_ELEMENTDATA, E_s_DEFAULTCAPACITY_EMPTY_ELEMENTDATA, S_COMPACT_STRINGS, hne_s_COMPACT_STRINGS_0, V_s__VALUES, V_s_HITS_name_value, V_s_RESULTS_name_value, V_s_VALIDATE_name_value, V_s_DEFAULTCAPACITY_EMPTY_ELEMENTDATA⟩ := id G
  have N0 := Fr.nil Z.heap.size
  have K0 : Keep h0 h0 [] := Keep.refl _ _
  refine Go.of (T' := T0) (f' := (mkF m 1 #[.val (.ref xa), .val (.ref xb), .unset] [(.ref xa)])) (fun _ k => XS.aloadN X0.here hx rfl (hb hby d_jdk_43_method_13_code_0) rfl rfl k) ?_
  obtain ⟨cl217, Ar217, qk217, S217, Ng217, H217, G217⟩ := id prem0
  refine Go.of (T' := T0) (f' := (mkF m 2 #[.val (.ref xa), .val (.ref xb), .unset] [(.int (4 : Int32))])) (fun _ k => X0.arraylength hx (by rw [e0]; exact Ar217.1) (State.isArrayOf_alike hZ.alike Ar217.2.1) (g := (mkF m 1 #[.val (.ref xa), .val (.ref xb), .unset] [(.ref xa)])) rfl rfl (hb hby d_jdk_43_method_13_code_1) _ (by rw [len_of S217 Ng217]; exact k)) ?_
  refine Go.of (T' := T0) (f' := (mkF m 3 #[.val (.ref xa), .val (.ref xb), .unset] [(.ref xb), (.int (4 : Int32))])) (fun _ k => XS.aloadN X0.here hx rfl (hb hby d_jdk_43_method_13_code_2) rfl rfl k) ?_
  obtain ⟨cl218, Ar218, qk218, S218, Ng218, H218, G218⟩ := id prem1
  refine Go.of (T' := T0) (f' := (mkF m 4 #[.val (.ref xa), .val (.ref xb), .unset] [(.int (4 : Int32)), (.int (4 : Int32))])) (fun _ k => X0.arraylength hx (by rw [e0]; exact Ar218.1) (State.isArrayOf_alike hZ.alike Ar218.2.1) (g := (mkF m 3 #[.val (.ref xa), .val (.ref xb), .unset] [(.ref xb), (.int (4 : Int32))])) rfl rfl (hb hby d_jdk_43_method_13_code_3) _ (by rw [len_of S218 Ng218]; exact k)) ?_
  refine Go.of (T' := T0) (f' := (mkF m 7 #[.val (.ref xa), .val (.ref xb), .unset] [])) (fun _ k => XS.icmpNo X0.here hx rfl (hb hby d_jdk_43_method_13_code_4) rfl (teq (by decide : (4 : Int32) = (4 : Int32))).2 k) ?_
  refine Go.of (T' := T0) (f' := (mkF m 8 #[.val (.ref xa), .val (.ref xb), .unset] [(.int (0 : Int32))])) (fun _ k => XS.iconst X0.here hx rfl (hb hby d_jdk_43_method_13_code_7) k) ?_
  refine Go.of (T' := T0) (f' := (mkF m 9 #[.val (.ref xa), .val (.ref xb), .val (.int (0 : Int32))] [])) (fun _ k => XS.istoreN X0.here hx rfl (hb hby d_jdk_43_method_13_code_8) rfl (l' := #[.val (.ref xa), .val (.ref xb), .val (.int (0 : Int32))]) rfl k) ?_
  refine Go.of (T' := T0) (f' := (mkF m 10 #[.val (.ref xa), .val (.ref xb), .val (.int (0 : Int32))] [(.int (0 : Int32))])) (fun _ k => XS.iloadN X0.here hx rfl (hb hby d_jdk_43_method_13_code_9) rfl k) ?_
  refine Go.of (T' := T0) (f' := (mkF m 11 #[.val (.ref xa), .val (.ref xb), .val (.int (0 : Int32))] [(.ref xa), (.int (0 : Int32))])) (fun _ k => XS.aloadN X0.here hx rfl (hb hby d_jdk_43_method_13_code_10) rfl rfl k) ?_
  obtain ⟨cl220, Ar220, qk220, S220, Ng220, H220, G220⟩ := id prem0
  refine Go.of (T' := T0) (f' := (mkF m 12 #[.val (.ref xa), .val (.ref xb), .val (.int (0 : Int32))] [(.int (4 : Int32)), (.int (0 : Int32))])) (fun _ k => X0.arraylength hx (by rw [e0]; exact Ar220.1) (State.isArrayOf_alike hZ.alike Ar220.2.1) (g := (mkF m 11 #[.val (.ref xa), .val (.ref xb), .val (.int (0 : Int32))] [(.ref xa), (.int (0 : Int32))])) rfl rfl (hb hby d_jdk_43_method_13_code_11) _ (by rw [len_of S220 Ng220]; exact k)) ?_
  refine Go.of (T' := T0) (f' := (mkF m 15 #[.val (.ref xa), .val (.ref xb), .val (.int (0 : Int32))] [])) (fun _ k => XS.icmpNo X0.here hx rfl (hb hby d_jdk_43_method_13_code_12) rfl (tlt (by decide : (0 : Int32) < (4 : Int32))).2.1 k) ?_
  refine Go.of (T' := T0) (f' := (mkF m 16 #[.val (.ref xa), .val (.ref xb), .val (.int (0 : Int32))] [(.ref xa)])) (fun _ k => XS.aloadN X0.here hx rfl (hb hby d_jdk_43_method_13_code_15) rfl rfl k) ?_
  refine Go.of (T' := T0) (f' := (mkF m 17 #[.val (.ref xa), .val (.ref xb), .val (.int (0 : Int32))] [(.int (0 : Int32)), (.ref xa)])) (fun _ k => XS.iloadN X0.here hx rfl (hb hby d_jdk_43_method_13_code_16) rfl k) ?_
  obtain ⟨cl222, Ar222, qk222, S222, Ng222, H222, G222⟩ := id prem0
  have hin222 := inb_of (j := (0 : Int32)) S222 ⟨by decide, by decide⟩
  refine Go.of (T' := T0) (f' := (mkF m 18 #[.val (.ref xa), .val (.ref xb), .val (.int (0 : Int32))] [(.int (104 : Int32))])) (fun _ k => X0.baloadBytes hx (j := (0 : Int32)) (v := (.int (104 : Int32))) (by rw [e0]; exact Ar222.1) (State.isArrayOf_alike hZ.alike Ar222.2.1) Ar222.2.2 hin222 (H222.at hin222 rfl) (g := (mkF m 17 #[.val (.ref xa), .val (.ref xb), .val (.int (0 : Int32))] [(.int (0 : Int32)), (.ref xa)])) rfl rfl (hb hby d_jdk_43_method_13_code_17) _ k) ?_
  refine Go.of (T' := T0) (f' := (mkF m 19 #[.val (.ref xa), .val (.ref xb), .val (.int (0 : Int32))] [(.ref xb), (.int (104 : Int32))])) (fun _ k => XS.aloadN X0.here hx rfl (hb hby d_jdk_43_method_13_code_18) rfl rfl k) ?_
  refine Go.of (T' := T0) (f' := (mkF m 20 #[.val (.ref xa), .val (.ref xb), .val (.int (0 : Int32))] [(.int (0 : Int32)), (.ref xb), (.int (104 : Int32))])) (fun _ k => XS.iloadN X0.here hx rfl (hb hby d_jdk_43_method_13_code_19) rfl k) ?_
  obtain ⟨cl223, Ar223, qk223, S223, Ng223, H223, G223⟩ := id prem1
  have hin223 := inb_of (j := (0 : Int32)) S223 ⟨by decide, by decide⟩
  refine Go.of (T' := T0) (f' := (mkF m 21 #[.val (.ref xa), .val (.ref xb), .val (.int (0 : Int32))] [(.int (104 : Int32)), (.int (104 : Int32))])) (fun _ k => X0.baloadBytes hx (j := (0 : Int32)) (v := (.int (104 : Int32))) (by rw [e0]; exact Ar223.1) (State.isArrayOf_alike hZ.alike Ar223.2.1) Ar223.2.2 hin223 (H223.at hin223 rfl) (g := (mkF m 20 #[.val (.ref xa), .val (.ref xb), .val (.int (0 : Int32))] [(.int (0 : Int32)), (.ref xb), (.int (104 : Int32))])) rfl rfl (hb hby d_jdk_43_method_13_code_20) _ k) ?_
  refine Go.of (T' := T0) (f' := (mkF m 26 #[.val (.ref xa), .val (.ref xb), .val (.int (0 : Int32))] [])) (fun _ k => XS.icmpYes X0.here hx rfl (pc0 := 21) (pc' := 26) rfl (hb hby d_jdk_43_method_13_code_21) rfl (teq (by decide : (104 : Int32) = (104 : Int32))).1 (by decide) (by decide) k) ?_
  refine Go.of (T' := T0) (f' := (mkF m 29 #[.val (.ref xa), .val (.ref xb), .val (.int (1 : Int32))] [])) (fun _ k => XS.iinc X0.here hx rfl (hb hby d_jdk_43_method_13_code_26) rfl (l' := #[.val (.ref xa), .val (.ref xb), .val (.int (1 : Int32))]) rfl k) ?_
  refine Go.of (T' := T0) (f' := (mkF m 9 #[.val (.ref xa), .val (.ref xb), .val (.int (1 : Int32))] [])) (fun _ k => XS.goto X0.here hx rfl (pc0 := 29) (pc' := 9) rfl (hb hby d_jdk_43_method_13_code_29) (by decide) (by decide) k) ?_
  refine Go.of (T' := T0) (f' := (mkF m 10 #[.val (.ref xa), .val (.ref xb), .val (.int (1 : Int32))] [(.int (1 : Int32))])) (fun _ k => XS.iloadN X0.here hx rfl (hb hby d_jdk_43_method_13_code_9) rfl k) ?_
  refine Go.of (T' := T0) (f' := (mkF m 11 #[.val (.ref xa), .val (.ref xb), .val (.int (1 : Int32))] [(.ref xa), (.int (1 : Int32))])) (fun _ k => XS.aloadN X0.here hx rfl (hb hby d_jdk_43_method_13_code_10) rfl rfl k) ?_
  obtain ⟨cl225, Ar225, qk225, S225, Ng225, H225, G225⟩ := id prem0
  refine Go.of (T' := T0) (f' := (mkF m 12 #[.val (.ref xa), .val (.ref xb), .val (.int (1 : Int32))] [(.int (4 : Int32)), (.int (1 : Int32))])) (fun _ k => X0.arraylength hx (by rw [e0]; exact Ar225.1) (State.isArrayOf_alike hZ.alike Ar225.2.1) (g := (mkF m 11 #[.val (.ref xa), .val (.ref xb), .val (.int (1 : Int32))] [(.ref xa), (.int (1 : Int32))])) rfl rfl (hb hby d_jdk_43_method_13_code_11) _ (by rw [len_of S225 Ng225]; exact k)) ?_
  refine Go.of (T' := T0) (f' := (mkF m 15 #[.val (.ref xa), .val (.ref xb), .val (.int (1 : Int32))] [])) (fun _ k => XS.icmpNo X0.here hx rfl (hb hby d_jdk_43_method_13_code_12) rfl (tlt (by decide : (1 : Int32) < (4 : Int32))).2.1 k) ?_
  refine Go.of (T' := T0) (f' := (mkF m 16 #[.val (.ref xa), .val (.ref xb), .val (.int (1 : Int32))] [(.ref xa)])) (fun _ k => XS.aloadN X0.here hx rfl (hb hby d_jdk_43_method_13_code_15) rfl rfl k) ?_
  refine Go.of (T' := T0) (f' := (mkF m 17 #[.val (.ref xa), .val (.ref xb), .val (.int (1 : Int32))] [(.int (1 : Int32)), (.ref xa)])) (fun _ k => XS.iloadN X0.here hx rfl (hb hby d_jdk_43_method_13_code_16) rfl k) ?_
  obtain ⟨cl227, Ar227, qk227, S227, Ng227, H227, G227⟩ := id prem0
  have hin227 := inb_of (j := (1 : Int32)) S227 ⟨by decide, by decide⟩
  refine Go.of (T' := T0) (f' := (mkF m 18 #[.val (.ref xa), .val (.ref xb), .val (.int (1 : Int32))] [(.int (105 : Int32))])) (fun _ k => X0.baloadBytes hx (j := (1 : Int32)) (v := (.int (105 : Int32))) (by rw [e0]; exact Ar227.1) (State.isArrayOf_alike hZ.alike Ar227.2.1) Ar227.2.2 hin227 (H227.at hin227 rfl) (g := (mkF m 17 #[.val (.ref xa), .val (.ref xb), .val (.int (1 : Int32))] [(.int (1 : Int32)), (.ref xa)])) rfl rfl (hb hby d_jdk_43_method_13_code_17) _ k) ?_
  refine Go.of (T' := T0) (f' := (mkF m 19 #[.val (.ref xa), .val (.ref xb), .val (.int (1 : Int32))] [(.ref xb), (.int (105 : Int32))])) (fun _ k => XS.aloadN X0.here hx rfl (hb hby d_jdk_43_method_13_code_18) rfl rfl k) ?_
  refine Go.of (T' := T0) (f' := (mkF m 20 #[.val (.ref xa), .val (.ref xb), .val (.int (1 : Int32))] [(.int (1 : Int32)), (.ref xb), (.int (105 : Int32))])) (fun _ k => XS.iloadN X0.here hx rfl (hb hby d_jdk_43_method_13_code_19) rfl k) ?_
  obtain ⟨cl228, Ar228, qk228, S228, Ng228, H228, G228⟩ := id prem1
  have hin228 := inb_of (j := (1 : Int32)) S228 ⟨by decide, by decide⟩
  refine Go.of (T' := T0) (f' := (mkF m 21 #[.val (.ref xa), .val (.ref xb), .val (.int (1 : Int32))] [(.int (105 : Int32)), (.int (105 : Int32))])) (fun _ k => X0.baloadBytes hx (j := (1 : Int32)) (v := (.int (105 : Int32))) (by rw [e0]; exact Ar228.1) (State.isArrayOf_alike hZ.alike Ar228.2.1) Ar228.2.2 hin228 (H228.at hin228 rfl) (g := (mkF m 20 #[.val (.ref xa), .val (.ref xb), .val (.int (1 : Int32))] [(.int (1 : Int32)), (.ref xb), (.int (105 : Int32))])) rfl rfl (hb hby d_jdk_43_method_13_code_20) _ k) ?_
  refine Go.of (T' := T0) (f' := (mkF m 26 #[.val (.ref xa), .val (.ref xb), .val (.int (1 : Int32))] [])) (fun _ k => XS.icmpYes X0.here hx rfl (pc0 := 21) (pc' := 26) rfl (hb hby d_jdk_43_method_13_code_21) rfl (teq (by decide : (105 : Int32) = (105 : Int32))).1 (by decide) (by decide) k) ?_
  refine Go.of (T' := T0) (f' := (mkF m 29 #[.val (.ref xa), .val (.ref xb), .val (.int (2 : Int32))] [])) (fun _ k => XS.iinc X0.here hx rfl (hb hby d_jdk_43_method_13_code_26) rfl (l' := #[.val (.ref xa), .val (.ref xb), .val (.int (2 : Int32))]) rfl k) ?_
  refine Go.of (T' := T0) (f' := (mkF m 9 #[.val (.ref xa), .val (.ref xb), .val (.int (2 : Int32))] [])) (fun _ k => XS.goto X0.here hx rfl (pc0 := 29) (pc' := 9) rfl (hb hby d_jdk_43_method_13_code_29) (by decide) (by decide) k) ?_
  refine Go.of (T' := T0) (f' := (mkF m 10 #[.val (.ref xa), .val (.ref xb), .val (.int (2 : Int32))] [(.int (2 : Int32))])) (fun _ k => XS.iloadN X0.here hx rfl (hb hby d_jdk_43_method_13_code_9) rfl k) ?_
  refine Go.of (T' := T0) (f' := (mkF m 11 #[.val (.ref xa), .val (.ref xb), .val (.int (2 : Int32))] [(.ref xa), (.int (2 : Int32))])) (fun _ k => XS.aloadN X0.here hx rfl (hb hby d_jdk_43_method_13_code_10) rfl rfl k) ?_
  obtain ⟨cl230, Ar230, qk230, S230, Ng230, H230, G230⟩ := id prem0
  refine Go.of (T' := T0) (f' := (mkF m 12 #[.val (.ref xa), .val (.ref xb), .val (.int (2 : Int32))] [(.int (4 : Int32)), (.int (2 : Int32))])) (fun _ k => X0.arraylength hx (by rw [e0]; exact Ar230.1) (State.isArrayOf_alike hZ.alike Ar230.2.1) (g := (mkF m 11 #[.val (.ref xa), .val (.ref xb), .val (.int (2 : Int32))] [(.ref xa), (.int (2 : Int32))])) rfl rfl (hb hby d_jdk_43_method_13_code_11) _ (by rw [len_of S230 Ng230]; exact k)) ?_
  refine Go.of (T' := T0) (f' := (mkF m 15 #[.val (.ref xa), .val (.ref xb), .val (.int (2 : Int32))] [])) (fun _ k => XS.icmpNo X0.here hx rfl (hb hby d_jdk_43_method_13_code_12) rfl (tlt (by decide : (2 : Int32) < (4 : Int32))).2.1 k) ?_
  refine Go.of (T' := T0) (f' := (mkF m 16 #[.val (.ref xa), .val (.ref xb), .val (.int (2 : Int32))] [(.ref xa)])) (fun _ k => XS.aloadN X0.here hx rfl (hb hby d_jdk_43_method_13_code_15) rfl rfl k) ?_
  refine Go.of (T' := T0) (f' := (mkF m 17 #[.val (.ref xa), .val (.ref xb), .val (.int (2 : Int32))] [(.int (2 : Int32)), (.ref xa)])) (fun _ k => XS.iloadN X0.here hx rfl (hb hby d_jdk_43_method_13_code_16) rfl k) ?_
  obtain ⟨cl232, Ar232, qk232, S232, Ng232, H232, G232⟩ := id prem0
  have hin232 := inb_of (j := (2 : Int32)) S232 ⟨by decide, by decide⟩
  refine Go.of (T' := T0) (f' := (mkF m 18 #[.val (.ref xa), .val (.ref xb), .val (.int (2 : Int32))] [(.int (116 : Int32))])) (fun _ k => X0.baloadBytes hx (j := (2 : Int32)) (v := (.int (116 : Int32))) (by rw [e0]; exact Ar232.1) (State.isArrayOf_alike hZ.alike Ar232.2.1) Ar232.2.2 hin232 (H232.at hin232 rfl) (g := (mkF m 17 #[.val (.ref xa), .val (.ref xb), .val (.int (2 : Int32))] [(.int (2 : Int32)), (.ref xa)])) rfl rfl (hb hby d_jdk_43_method_13_code_17) _ k) ?_
  refine Go.of (T' := T0) (f' := (mkF m 19 #[.val (.ref xa), .val (.ref xb), .val (.int (2 : Int32))] [(.ref xb), (.int (116 : Int32))])) (fun _ k => XS.aloadN X0.here hx rfl (hb hby d_jdk_43_method_13_code_18) rfl rfl k) ?_
  refine Go.of (T' := T0) (f' := (mkF m 20 #[.val (.ref xa), .val (.ref xb), .val (.int (2 : Int32))] [(.int (2 : Int32)), (.ref xb), (.int (116 : Int32))])) (fun _ k => XS.iloadN X0.here hx rfl (hb hby d_jdk_43_method_13_code_19) rfl k) ?_
  obtain ⟨cl233, Ar233, qk233, S233, Ng233, H233, G233⟩ := id prem1
  have hin233 := inb_of (j := (2 : Int32)) S233 ⟨by decide, by decide⟩
  refine Go.of (T' := T0) (f' := (mkF m 21 #[.val (.ref xa), .val (.ref xb), .val (.int (2 : Int32))] [(.int (116 : Int32)), (.int (116 : Int32))])) (fun _ k => X0.baloadBytes hx (j := (2 : Int32)) (v := (.int (116 : Int32))) (by rw [e0]; exact Ar233.1) (State.isArrayOf_alike hZ.alike Ar233.2.1) Ar233.2.2 hin233 (H233.at hin233 rfl) (g := (mkF m 20 #[.val (.ref xa), .val (.ref xb), .val (.int (2 : Int32))] [(.int (2 : Int32)), (.ref xb), (.int (116 : Int32))])) rfl rfl (hb hby d_jdk_43_method_13_code_20) _ k) ?_
  refine Go.of (T' := T0) (f' := (mkF m 26 #[.val (.ref xa), .val (.ref xb), .val (.int (2 : Int32))] [])) (fun _ k => XS.icmpYes X0.here hx rfl (pc0 := 21) (pc' := 26) rfl (hb hby d_jdk_43_method_13_code_21) rfl (teq (by decide : (116 : Int32) = (116 : Int32))).1 (by decide) (by decide) k) ?_
  refine Go.of (T' := T0) (f' := (mkF m 29 #[.val (.ref xa), .val (.ref xb), .val (.int (3 : Int32))] [])) (fun _ k => XS.iinc X0.here hx rfl (hb hby d_jdk_43_method_13_code_26) rfl (l' := #[.val (.ref xa), .val (.ref xb), .val (.int (3 : Int32))]) rfl k) ?_
  refine Go.of (T' := T0) (f' := (mkF m 9 #[.val (.ref xa), .val (.ref xb), .val (.int (3 : Int32))] [])) (fun _ k => XS.goto X0.here hx rfl (pc0 := 29) (pc' := 9) rfl (hb hby d_jdk_43_method_13_code_29) (by decide) (by decide) k) ?_
  refine Go.of (T' := T0) (f' := (mkF m 10 #[.val (.ref xa), .val (.ref xb), .val (.int (3 : Int32))] [(.int (3 : Int32))])) (fun _ k => XS.iloadN X0.here hx rfl (hb hby d_jdk_43_method_13_code_9) rfl k) ?_
  refine Go.of (T' := T0) (f' := (mkF m 11 #[.val (.ref xa), .val (.ref xb), .val (.int (3 : Int32))] [(.ref xa), (.int (3 : Int32))])) (fun _ k => XS.aloadN X0.here hx rfl (hb hby d_jdk_43_method_13_code_10) rfl rfl k) ?_
  obtain ⟨cl235, Ar235, qk235, S235, Ng235, H235, G235⟩ := id prem0
  refine Go.of (T' := T0) (f' := (mkF m 12 #[.val (.ref xa), .val (.ref xb), .val (.int (3 : Int32))] [(.int (4 : Int32)), (.int (3 : Int32))])) (fun _ k => X0.arraylength hx (by rw [e0]; exact Ar235.1) (State.isArrayOf_alike hZ.alike Ar235.2.1) (g := (mkF m 11 #[.val (.ref xa), .val (.ref xb), .val (.int (3 : Int32))] [(.ref xa), (.int (3 : Int32))])) rfl rfl (hb hby d_jdk_43_method_13_code_11) _ (by rw [len_of S235 Ng235]; exact k)) ?_
  refine Go.of (T' := T0) (f' := (mkF m 15 #[.val (.ref xa), .val (.ref xb), .val (.int (3 : Int32))] [])) (fun _ k => XS.icmpNo X0.here hx rfl (hb hby d_jdk_43_method_13_code_12) rfl (tlt (by decide : (3 : Int32) < (4 : Int32))).2.1 k) ?_
  refine Go.of (T' := T0) (f' := (mkF m 16 #[.val (.ref xa), .val (.ref xb), .val (.int (3 : Int32))] [(.ref xa)])) (fun _ k => XS.aloadN X0.here hx rfl (hb hby d_jdk_43_method_13_code_15) rfl rfl k) ?_
  refine Go.of (T' := T0) (f' := (mkF m 17 #[.val (.ref xa), .val (.ref xb), .val (.int (3 : Int32))] [(.int (3 : Int32)), (.ref xa)])) (fun _ k => XS.iloadN X0.here hx rfl (hb hby d_jdk_43_method_13_code_16) rfl k) ?_
  obtain ⟨cl237, Ar237, qk237, S237, Ng237, H237, G237⟩ := id prem0
  have hin237 := inb_of (j := (3 : Int32)) S237 ⟨by decide, by decide⟩
  refine Go.of (T' := T0) (f' := (mkF m 18 #[.val (.ref xa), .val (.ref xb), .val (.int (3 : Int32))] [(.int (115 : Int32))])) (fun _ k => X0.baloadBytes hx (j := (3 : Int32)) (v := (.int (115 : Int32))) (by rw [e0]; exact Ar237.1) (State.isArrayOf_alike hZ.alike Ar237.2.1) Ar237.2.2 hin237 (H237.at hin237 rfl) (g := (mkF m 17 #[.val (.ref xa), .val (.ref xb), .val (.int (3 : Int32))] [(.int (3 : Int32)), (.ref xa)])) rfl rfl (hb hby d_jdk_43_method_13_code_17) _ k) ?_
  refine Go.of (T' := T0) (f' := (mkF m 19 #[.val (.ref xa), .val (.ref xb), .val (.int (3 : Int32))] [(.ref xb), (.int (115 : Int32))])) (fun _ k => XS.aloadN X0.here hx rfl (hb hby d_jdk_43_method_13_code_18) rfl rfl k) ?_
  refine Go.of (T' := T0) (f' := (mkF m 20 #[.val (.ref xa), .val (.ref xb), .val (.int (3 : Int32))] [(.int (3 : Int32)), (.ref xb), (.int (115 : Int32))])) (fun _ k => XS.iloadN X0.here hx rfl (hb hby d_jdk_43_method_13_code_19) rfl k) ?_
  obtain ⟨cl238, Ar238, qk238, S238, Ng238, H238, G238⟩ := id prem1
  have hin238 := inb_of (j := (3 : Int32)) S238 ⟨by decide, by decide⟩
  refine Go.of (T' := T0) (f' := (mkF m 21 #[.val (.ref xa), .val (.ref xb), .val (.int (3 : Int32))] [(.int (115 : Int32)), (.int (115 : Int32))])) (fun _ k => X0.baloadBytes hx (j := (3 : Int32)) (v := (.int (115 : Int32))) (by rw [e0]; exact Ar238.1) (State.isArrayOf_alike hZ.alike Ar238.2.1) Ar238.2.2 hin238 (H238.at hin238 rfl) (g := (mkF m 20 #[.val (.ref xa), .val (.ref xb), .val (.int (3 : Int32))] [(.int (3 : Int32)), (.ref xb), (.int (115 : Int32))])) rfl rfl (hb hby d_jdk_43_method_13_code_20) _ k) ?_
  refine Go.of (T' := T0) (f' := (mkF m 26 #[.val (.ref xa), .val (.ref xb), .val (.int (3 : Int32))] [])) (fun _ k => XS.icmpYes X0.here hx rfl (pc0 := 21) (pc' := 26) rfl (hb hby d_jdk_43_method_13_code_21) rfl (teq (by decide : (115 : Int32) = (115 : Int32))).1 (by decide) (by decide) k) ?_
  refine Go.of (T' := T0) (f' := (mkF m 29 #[.val (.ref xa), .val (.ref xb), .val (.int (4 : Int32))] [])) (fun _ k => XS.iinc X0.here hx rfl (hb hby d_jdk_43_method_13_code_26) rfl (l' := #[.val (.ref xa), .val (.ref xb), .val (.int (4 : Int32))]) rfl k) ?_
  refine Go.of (T' := T0) (f' := (mkF m 9 #[.val (.ref xa), .val (.ref xb), .val (.int (4 : Int32))] [])) (fun _ k => XS.goto X0.here hx rfl (pc0 := 29) (pc' := 9) rfl (hb hby d_jdk_43_method_13_code_29) (by decide) (by decide) k) ?_
  refine Go.of (T' := T0) (f' := (mkF m 10 #[.val (.ref xa), .val (.ref xb), .val (.int (4 : Int32))] [(.int (4 : Int32))])) (fun _ k => XS.iloadN X0.here hx rfl (hb hby d_jdk_43_method_13_code_9) rfl k) ?_
  refine Go.of (T' := T0) (f' := (mkF m 11 #[.val (.ref xa), .val (.ref xb), .val (.int (4 : Int32))] [(.ref xa), (.int (4 : Int32))])) (fun _ k => XS.aloadN X0.here hx rfl (hb hby d_jdk_43_method_13_code_10) rfl rfl k) ?_
  obtain ⟨cl240, Ar240, qk240, S240, Ng240, H240, G240⟩ := id prem0
  refine Go.of (T' := T0) (f' := (mkF m 12 #[.val (.ref xa), .val (.ref xb), .val (.int (4 : Int32))] [(.int (4 : Int32)), (.int (4 : Int32))])) (fun _ k => X0.arraylength hx (by rw [e0]; exact Ar240.1) (State.isArrayOf_alike hZ.alike Ar240.2.1) (g := (mkF m 11 #[.val (.ref xa), .val (.ref xb), .val (.int (4 : Int32))] [(.ref xa), (.int (4 : Int32))])) rfl rfl (hb hby d_jdk_43_method_13_code_11) _ (by rw [len_of S240 Ng240]; exact k)) ?_
  refine Go.of (T' := T0) (f' := (mkF m 32 #[.val (.ref xa), .val (.ref xb), .val (.int (4 : Int32))] [])) (fun _ k => XS.icmpYes X0.here hx rfl (pc0 := 12) (pc' := 32) rfl (hb hby d_jdk_43_method_13_code_12) rfl (flt (by decide : ¬ ((4 : Int32) < (4 : Int32)))).2.1 (by decide) (by decide) k) ?_
  refine Go.of (T' := T0) (f' := (mkF m 33 #[.val (.ref xa), .val (.ref xb), .val (.int (4 : Int32))] [(.int (1 : Int32))])) (fun _ k => XS.iconst X0.here hx rfl (hb hby d_jdk_43_method_13_code_32) k) ?_
  exact Go.retB X0 hx hlk hret (by simp) (hb hby d_jdk_43_method_13_code_33) (by decide) (by decide) (z' := (1 : Int32)) rfl (by rw [e0]; exact ⟨rfl, rfl, by simp⟩)
theorem d_jdk_42_method_66_code_0 : decode jdk_42_method_66_code 0 = .ok (.aload_n 0, 1) := by decide +kernel
theorem d_jdk_42_method_66_code_1 : decode jdk_42_method_66_code 1 = .ok (.aload_n 1, 1) := by decide +kernel
theorem d_jdk_42_method_66_code_2 : decode jdk_42_method_66_code 2 = .ok (.if_acmp .ne 5, 3) := by decide +kernel
theorem d_jdk_42_method_66_code_5 : decode jdk_42_method_66_code 5 = .ok (.iconst 1, 1) := by decide +kernel
theorem d_jdk_42_method_66_code_6 : decode jdk_42_method_66_code 6 = .ok (.ireturn, 1) := by decide +kernel
theorem d_jdk_42_method_66_code_7 : decode jdk_42_method_66_code 7 = .ok (.aload_n 1, 1) := by decide +kernel
theorem d_jdk_42_method_66_code_8 : decode jdk_42_method_66_code 8 = .ok (.instanceof 10, 3) := by decide +kernel
theorem d_jdk_42_method_66_code_11 : decode jdk_42_method_66_code 11 = .ok (.ifCond .eq 43, 3) := by decide +kernel
theorem d_jdk_42_method_66_code_14 : decode jdk_42_method_66_code 14 = .ok (.aload_n 1, 1) := by decide +kernel
theorem d_jdk_42_method_66_code_15 : decode jdk_42_method_66_code 15 = .ok (.checkcast 10, 3) := by decide +kernel
theorem d_jdk_42_method_66_code_18 : decode jdk_42_method_66_code 18 = .ok (.astore_n 2, 1) := by decide +kernel
theorem d_jdk_42_method_66_code_19 : decode jdk_42_method_66_code 19 = .ok (.getstatic 38, 3) := by decide +kernel
theorem d_jdk_42_method_66_code_22 : decode jdk_42_method_66_code 22 = .ok (.ifCond .eq 14, 3) := by decide +kernel
theorem d_jdk_42_method_66_code_25 : decode jdk_42_method_66_code 25 = .ok (.aload_n 0, 1) := by decide +kernel
theorem d_jdk_42_method_66_code_26 : decode jdk_42_method_66_code 26 = .ok (.getfield 15, 3) := by decide +kernel
theorem d_jdk_42_method_66_code_29 : decode jdk_42_method_66_code 29 = .ok (.aload_n 2, 1) := by decide +kernel
theorem d_jdk_42_method_66_code_30 : decode jdk_42_method_66_code 30 = .ok (.getfield 15, 3) := by decide +kernel
theorem d_jdk_42_method_66_code_33 : decode jdk_42_method_66_code 33 = .ok (.if_icmp .ne 21, 3) := by decide +kernel
theorem d_jdk_42_method_66_code_36 : decode jdk_42_method_66_code 36 = .ok (.aload_n 0, 1) := by decide +kernel
theorem d_jdk_42_method_66_code_37 : decode jdk_42_method_66_code 37 = .ok (.getfield 9, 3) := by decide +kernel
theorem d_jdk_42_method_66_code_40 : decode jdk_42_method_66_code 40 = .ok (.aload_n 2, 1) := by decide +kernel
theorem d_jdk_42_method_66_code_41 : decode jdk_42_method_66_code 41 = .ok (.getfield 9, 3) := by decide +kernel
theorem d_jdk_42_method_66_code_44 : decode jdk_42_method_66_code 44 = .ok (.invokestatic 541, 3) := by decide +kernel
theorem pd___B_B_Z : parseMethodDescriptor "([B[B)Z" = some ⟨[(.array .byte), (.array .byte)], some .boolean⟩ := by decide +kernel
theorem d_jdk_42_method_66_code_47 : decode jdk_42_method_66_code 47 = .ok (.ifCond .eq 7, 3) := by decide +kernel
theorem d_jdk_42_method_66_code_50 : decode jdk_42_method_66_code 50 = .ok (.iconst 1, 1) := by decide +kernel
theorem d_jdk_42_method_66_code_51 : decode jdk_42_method_66_code 51 = .ok (.goto 4, 3) := by decide +kernel
theorem d_jdk_42_method_66_code_55 : decode jdk_42_method_66_code 55 = .ok (.ireturn, 1) := by decide +kernel
theorem ef_rm_eqc0 (m : MethodId) (s_HITS_name : Addr) (cb : Addr) : entryFrame m #[(.ref s_HITS_name), (.ref cb)] 3 = mkF m 0 #[.val (.ref s_HITS_name), .val (.ref cb), .unset] [] := by first | (simp [entryFrame, mkF, argsToLocals, Value.category]; done) | rfl
theorem pn_java_lang_String_equals__Ljava_lang_Object__Z : plainFor (⟨"java/lang/String", "equals", "(Ljava/lang/Object;)Z"⟩ : MethodName) = true := by first | exact plainFor_of_name (by first | (simp [plainName, overriddenIn]; done) | decide +kernel) | decide +kernel
set_option maxRecDepth 65536 in
set_option maxHeartbeats 40000000 in
theorem rm_eqc0 {l : Launch} {Z : State} {a0 : Array Value} {s__VALUES : Addr} {s_HITS : Addr} {s_RESULTS : Addr} {s_VALIDATE : Addr} {s_HITS_name : Addr} {s_RESULTS_name : Addr} {s_VALIDATE_name : Addr} {s_HITS_name_value : Addr} {s_RESULTS_name_value : Addr} {s_VALIDATE_name_value : Addr} {s_DEFAULTCAPACITY_EMPTY_ELEMENTDATA : Addr} {s_COMPACT_STRINGS : Int32} {cl_s__VALUES : Cell} {cl_s_HITS_name_value : Cell} {cl_s_RESULTS_name_value : Cell} {cl_s_VALIDATE_name_value : Cell} {cl_s_DEFAULTCAPACITY_EMPTY_ELEMENTDATA : Cell} (hw : ∀ d ∈ tables_1, d.before a0 Z = true) (G : own_Ctx Z s__VALUES s_HITS s_RESULTS s_VALIDATE s_HITS_name s_RESULTS_name s_VALIDATE_name s_HITS_name_value s_RESULTS_name_value s_VALIDATE_name_value s_DEFAULTCAPACITY_EMPTY_ELEMENTDATA s_COMPACT_STRINGS cl_s__VALUES cl_s_HITS_name_value cl_s_RESULTS_name_value cl_s_VALIDATE_name_value cl_s_DEFAULTCAPACITY_EMPTY_ELEMENTDATA) (cb : Addr) (vb : Addr) (kb : ClassId) (h0 : Heap) (O0 : Ext Z.heap h0) (prem0 : Exa Z h0 cb "java/lang/String") (prem1 : Fld Z h0 cb "java/lang/String" "coder" "B" (.int (0 : Int32))) (prem2 : Fld Z h0 cb "java/lang/String" "value" "[B" (.ref vb)) (prem3 : Arv Z h0 vb kb .byte (4 : Int32) [(.int (104 : Int32)), (.int (105 : Int32)), (.int (116 : Int32)), (.int (115 : Int32))] (.int (0 : Int32))) :
    Ok l Z (⟨"java/lang/String", "equals", "(Ljava/lang/Object;)Z"⟩ : MethodName) jdk_42_method_66_code 3 (some .boolean) ({ frames := 1, cells := 0, slots := 0, locals := 14 } : Room) #[(.ref s_HITS_name), (.ref cb)] h0
      (fun v h L => v = some (.int (1 : Int32)) ∧ (h = h0) ∧ (L = [])) := by
  refine Ok.mk pn_java_lang_String_equals__Ljava_lang_Object__Z ?_
  intro p e s m below meth c T0 hx hby hml hown hnm hret hlk hZ e0 X0
  refine Go.cast (ef_rm_eqc0 m s_HITS_name cb) ?_
  obtain ⟨S__VALUES, E_s__VALUES, S_HITS, E_s_HITS, S_RESULTS, E_s_RESULTS, S_VALIDATE, E_s_VALIDATE, F_s_HITS_name, E_s_HITS_name, F_s_RESULTS_name, E_s_RESULTS_name, F_s_VALIDATE_name, E_s_VALIDATE_name, F_s_HITS_name_coder, F_s_HITS_name_value, F_s_RESULTS_name_coder, F_s_RESULTS_name_value, F_s_VALIDATE_name_coder, F_s_VALIDATE_name_value, ne_s_HITS_name_s_RESULTS_name, ne_s_HITS_name_s_VALIDATE_name, ne_s_RESULTS_name_s_VALIDATE_name, S_DEFAULTCAPACITY_EMPTY_ELEMENTDATA, E_s_DEFAULTCAPACITY_EMPTY_ELEMENTDATA, S_COMPACT_STRINGS, hne_s_COMPACT_STRINGS_0, V_s__VALUES, V_s_HITS_name_value, V_s_RESULTS_name_value, V_s_VALIDATE_name_value, V_s_DEFAULTCAPACITY_EMPTY_ELEMENTDATA⟩ := id G
  have N0 := Fr.nil Z.heap.size
  have K0 : Keep h0 h0 [] := Keep.refl _ _
  refine Go.of (T' := T0) (f' := (mkF m 1 #[.val (.ref s_HITS_name), .val (.ref cb), .unset] [(.ref s_HITS_name)])) (fun _ k => XS.aloadN X0.here hx rfl (hb hby d_jdk_42_method_66_code_0) rfl rfl k) ?_
  refine Go.of (T' := T0) (f' := (mkF m 2 #[.val (.ref s_HITS_name), .val (.ref cb), .unset] [(.ref cb), (.ref s_HITS_name)])) (fun _ k => XS.aloadN X0.here hx rfl (hb hby d_jdk_42_method_66_code_1) rfl rfl k) ?_
  by_cases hc242 : s_HITS_name = cb
  · skip
    refine Go.of (T' := T0) (f' := (mkF m 5 #[.val (.ref s_HITS_name), .val (.ref cb), .unset] [])) (fun _ k => Jvm.RoadKit.acmp (g := (mkF m 2 #[.val (.ref s_HITS_name), .val (.ref cb), .unset] [(.ref cb), (.ref s_HITS_name)])) X0 hx rfl rfl rfl (pc0 := 2) (pc' := 5) (same := true) rfl (hb hby d_jdk_42_method_66_code_2) rfl (decide_eq_true (congrArg Value.ref hc242)) (by decide) (by decide) k) ?_
    refine Go.of (T' := T0) (f' := (mkF m 6 #[.val (.ref s_HITS_name), .val (.ref cb), .unset] [(.int (1 : Int32))])) (fun _ k => XS.iconst X0.here hx rfl (hb hby d_jdk_42_method_66_code_5) k) ?_
    exact Go.retB X0 hx hlk hret (by simp) (hb hby d_jdk_42_method_66_code_6) (by decide) (by decide) (z' := (1 : Int32)) rfl (by rw [e0]; exact ⟨rfl, rfl, by simp⟩)
  · skip
    refine Go.of (T' := T0) (f' := (mkF m 7 #[.val (.ref s_HITS_name), .val (.ref cb), .unset] [])) (fun _ k => Jvm.RoadKit.acmp (g := (mkF m 2 #[.val (.ref s_HITS_name), .val (.ref cb), .unset] [(.ref cb), (.ref s_HITS_name)])) X0 hx rfl rfl rfl (pc0 := 2) (pc' := 7) (same := false) rfl (hb hby d_jdk_42_method_66_code_2) rfl (decide_eq_false fun q => hc242 (Value.ref.inj q)) (by decide) (by decide) k) ?_
    refine Go.of (T' := T0) (f' := (mkF m 8 #[.val (.ref s_HITS_name), .val (.ref cb), .unset] [(.ref cb)])) (fun _ k => XS.aloadN X0.here hx rfl (hb hby d_jdk_42_method_66_code_7) rfl rfl k) ?_
    obtain ⟨T243, X243, e243, st243⟩ := instY X0 hx hZ hown (hw _ (List.mem_of_getElem? (i := 102) rfl)) e0 (Ins.self prem0) (g := (mkF m 8 #[.val (.ref s_HITS_name), .val (.ref cb), .unset] [(.ref cb)])) rfl rfl (hb hby d_jdk_42_method_66_code_8)
    refine Go.of (T' := T243) (f' := (mkF m 11 #[.val (.ref s_HITS_name), .val (.ref cb), .unset] [(.int (1 : Int32))])) (fun _ k => st243 _ k) ?_
    refine Go.of (T' := T243) (f' := (mkF m 14 #[.val (.ref s_HITS_name), .val (.ref cb), .unset] [])) (fun _ k => XS.ifNo X243.here hx rfl (hb hby d_jdk_42_method_66_code_11) rfl ((if0 _ _).trans (feq (by decide : ¬ ((1 : Int32) = (0 : Int32)))).1) k) ?_
    refine Go.of (T' := T243) (f' := (mkF m 15 #[.val (.ref s_HITS_name), .val (.ref cb), .unset] [(.ref cb)])) (fun _ k => XS.aloadN X243.here hx rfl (hb hby d_jdk_42_method_66_code_14) rfl rfl k) ?_
    obtain ⟨T245, X245, e245, st245⟩ := castY X243 hx hZ hown (hw _ (List.mem_of_getElem? (i := 102) rfl)) e243 (Ins.self prem0) (g := (mkF m 15 #[.val (.ref s_HITS_name), .val (.ref cb), .unset] [(.ref cb)])) rfl rfl (hb hby d_jdk_42_method_66_code_15)
    refine Go.of (T' := T245) (f' := (mkF m 18 #[.val (.ref s_HITS_name), .val (.ref cb), .unset] [(.ref cb)])) (fun _ k => st245 _ k) ?_
    refine Go.of (T' := T245) (f' := (mkF m 19 #[.val (.ref s_HITS_name), .val (.ref cb), .val (.ref cb)] [])) (fun _ k => XS.astoreN X245.here hx rfl (hb hby d_jdk_42_method_66_code_18) rfl rfl (l' := #[.val (.ref s_HITS_name), .val (.ref cb), .val (.ref cb)]) rfl k) ?_
    obtain ⟨T246, X246, e246, st246⟩ := getS2 X245 hx hZ hown (host := "") (Or.inl (hw _ (List.mem_of_getElem? (i := 97) rfl))) Via.refl e245 (Sta.ext O0 S_COMPACT_STRINGS) (g := (mkF m 19 #[.val (.ref s_HITS_name), .val (.ref cb), .val (.ref cb)] [])) rfl (hb hby d_jdk_42_method_66_code_19)
    refine Go.of (T' := T246) (f' := (mkF m 22 #[.val (.ref s_HITS_name), .val (.ref cb), .val (.ref cb)] [(.int s_COMPACT_STRINGS)])) (fun _ k => st246 _ k) ?_
    have hc247 : ¬ (s_COMPACT_STRINGS = (0 : Int32)) := hne_s_COMPACT_STRINGS_0
    refine Go.of (T' := T246) (f' := (mkF m 25 #[.val (.ref s_HITS_name), .val (.ref cb), .val (.ref cb)] [])) (fun _ k => XS.ifNo X246.here hx rfl (hb hby d_jdk_42_method_66_code_22) rfl ((if0 _ _).trans (feq hc247).1) k) ?_
    refine Go.of (T' := T246) (f' := (mkF m 26 #[.val (.ref s_HITS_name), .val (.ref cb), .val (.ref cb)] [(.ref s_HITS_name)])) (fun _ k => XS.aloadN X246.here hx rfl (hb hby d_jdk_42_method_66_code_25) rfl rfl k) ?_
    obtain ⟨T248, X248, e248, st248⟩ := getF X246 hx hZ hown (host := "") (Or.inl (hw _ (List.mem_of_getElem? (i := 115) rfl))) Via.refl e246 (Fld.ext O0 F_s_HITS_name_coder) (g := (mkF m 26 #[.val (.ref s_HITS_name), .val (.ref cb), .val (.ref cb)] [(.ref s_HITS_name)])) rfl rfl (hb hby d_jdk_42_method_66_code_26)
    refine Go.of (T' := T248) (f' := (mkF m 29 #[.val (.ref s_HITS_name), .val (.ref cb), .val (.ref cb)] [(.int (0 : Int32))])) (fun _ k => st248 _ k) ?_
    refine Go.of (T' := T248) (f' := (mkF m 30 #[.val (.ref s_HITS_name), .val (.ref cb), .val (.ref cb)] [(.ref cb), (.int (0 : Int32))])) (fun _ k => XS.aloadN X248.here hx rfl (hb hby d_jdk_42_method_66_code_29) rfl rfl k) ?_
    obtain ⟨T249, X249, e249, st249⟩ := getF X248 hx hZ hown (host := "") (Or.inl (hw _ (List.mem_of_getElem? (i := 115) rfl))) Via.refl e248 prem1 (g := (mkF m 30 #[.val (.ref s_HITS_name), .val (.ref cb), .val (.ref cb)] [(.ref cb), (.int (0 : Int32))])) rfl rfl (hb hby d_jdk_42_method_66_code_30)
    refine Go.of (T' := T249) (f' := (mkF m 33 #[.val (.ref s_HITS_name), .val (.ref cb), .val (.ref cb)] [(.int (0 : Int32)), (.int (0 : Int32))])) (fun _ k => st249 _ k) ?_
    refine Go.of (T' := T249) (f' := (mkF m 36 #[.val (.ref s_HITS_name), .val (.ref cb), .val (.ref cb)] [])) (fun _ k => XS.icmpNo X249.here hx rfl (hb hby d_jdk_42_method_66_code_33) rfl (teq (by decide : (0 : Int32) = (0 : Int32))).2 k) ?_
    refine Go.of (T' := T249) (f' := (mkF m 37 #[.val (.ref s_HITS_name), .val (.ref cb), .val (.ref cb)] [(.ref s_HITS_name)])) (fun _ k => XS.aloadN X249.here hx rfl (hb hby d_jdk_42_method_66_code_36) rfl rfl k) ?_
    obtain ⟨T251, X251, e251, st251⟩ := getF X249 hx hZ hown (host := "") (Or.inl (hw _ (List.mem_of_getElem? (i := 113) rfl))) Via.refl e249 (Fld.ext O0 F_s_HITS_name_value) (g := (mkF m 37 #[.val (.ref s_HITS_name), .val (.ref cb), .val (.ref cb)] [(.ref s_HITS_name)])) rfl rfl (hb hby d_jdk_42_method_66_code_37)
    refine Go.of (T' := T251) (f' := (mkF m 40 #[.val (.ref s_HITS_name), .val (.ref cb), .val (.ref cb)] [(.ref s_HITS_name_value)])) (fun _ k => st251 _ k) ?_
    refine Go.of (T' := T251) (f' := (mkF m 41 #[.val (.ref s_HITS_name), .val (.ref cb), .val (.ref cb)] [(.ref cb), (.ref s_HITS_name_value)])) (fun _ k => XS.aloadN X251.here hx rfl (hb hby d_jdk_42_method_66_code_40) rfl rfl k) ?_
    obtain ⟨T252, X252, e252, st252⟩ := getF X251 hx hZ hown (host := "") (Or.inl (hw _ (List.mem_of_getElem? (i := 113) rfl))) Via.refl e251 prem2 (g := (mkF m 41 #[.val (.ref s_HITS_name), .val (.ref cb), .val (.ref cb)] [(.ref cb), (.ref s_HITS_name_value)])) rfl rfl (hb hby d_jdk_42_method_66_code_41)
    refine Go.of (T' := T252) (f' := (mkF m 44 #[.val (.ref s_HITS_name), .val (.ref cb), .val (.ref cb)] [(.ref vb), (.ref s_HITS_name_value)])) (fun _ k => st252 _ k) ?_
    obtain ⟨T253, v253, L253, X253, q253, st253⟩ := callSt X252 hx hZ (y := (⟨"java/lang/StringLatin1", "equals", "([B[B)Z"⟩ : MethodName)) hown (hw _ (List.mem_of_getElem? (i := 148) rfl)) (hw _ (List.mem_of_getElem? (i := 149) rfl)) (hw _ (List.mem_of_getElem? (i := 100) rfl)) (hw _ (List.mem_of_getElem? (i := 150) rfl)) (by decide) (rm_l1eq0 hw G s_HITS_name_value vb cl_s_HITS_name_value.cls kb h0 O0 (Arv.ext V_s_HITS_name_value O0) prem3) e252 (W := 0) (by decide) (by decide) (by decide) (by decide) (g := (mkF m 44 #[.val (.ref s_HITS_name), .val (.ref cb), .val (.ref cb)] [(.ref vb), (.ref s_HITS_name_value)])) rfl (by rw [hml]; rfl) (argsL := [(.ref s_HITS_name_value), (.ref vb)]) (rest := []) (lenOf pd___B_B_Z rfl) rfl rfl (by show 2 * 0 + _ ≤ _; exact Nat.le_of_eq rfl) (hb hby d_jdk_42_method_66_code_44)
    obtain ⟨rfl, e253, rfl⟩ := q253
    have N253 := Fr.app N0 (Fr.nil _)
    refine Go.of (T' := T253) (f' := (mkF m 47 #[.val (.ref s_HITS_name), .val (.ref cb), .val (.ref cb)] [(.int (1 : Int32))])) (fun _ k => st253 _ k) ?_
    refine Go.of (T' := T253) (f' := (mkF m 50 #[.val (.ref s_HITS_name), .val (.ref cb), .val (.ref cb)] [])) (fun _ k => XS.ifNo X253.here hx rfl (hb hby d_jdk_42_method_66_code_47) rfl ((if0 _ _).trans (feq (by decide : ¬ ((1 : Int32) = (0 : Int32)))).1) k) ?_
    refine Go.of (T' := T253) (f' := (mkF m 51 #[.val (.ref s_HITS_name), .val (.ref cb), .val (.ref cb)] [(.int (1 : Int32))])) (fun _ k => XS.iconst X253.here hx rfl (hb hby d_jdk_42_method_66_code_50) k) ?_
    refine Go.of (T' := T253) (f' := (mkF m 55 #[.val (.ref s_HITS_name), .val (.ref cb), .val (.ref cb)] [(.int (1 : Int32))])) (fun _ k => XS.goto X253.here hx rfl (pc0 := 51) (pc' := 55) rfl (hb hby d_jdk_42_method_66_code_51) (by decide) (by decide) k) ?_
    exact Go.retB X253 hx hlk hret (by simp) (hb hby d_jdk_42_method_66_code_55) (by decide) (by decide) (z' := (1 : Int32)) rfl (by rw [e253]; exact ⟨rfl, rfl, by simp⟩)
theorem ef_rm_eqs0 (m : MethodId) (s_HITS_name : Addr) (s_HITS_name : Addr) : entryFrame m #[(.ref s_HITS_name), (.ref s_HITS_name)] 3 = mkF m 0 #[.val (.ref s_HITS_name), .val (.ref s_HITS_name), .unset] [] := by first | (simp [entryFrame, mkF, argsToLocals, Value.category]; done) | rfl
set_option maxRecDepth 65536 in
set_option maxHeartbeats 40000000 in
theorem rm_eqs0 {l : Launch} {Z : State} {a0 : Array Value} {s__VALUES : Addr} {s_HITS : Addr} {s_RESULTS : Addr} {s_VALIDATE : Addr} {s_HITS_name : Addr} {s_RESULTS_name : Addr} {s_VALIDATE_name : Addr} {s_HITS_name_value : Addr} {s_RESULTS_name_value : Addr} {s_VALIDATE_name_value : Addr} {s_DEFAULTCAPACITY_EMPTY_ELEMENTDATA : Addr} {s_COMPACT_STRINGS : Int32} {cl_s__VALUES : Cell} {cl_s_HITS_name_value : Cell} {cl_s_RESULTS_name_value : Cell} {cl_s_VALIDATE_name_value : Cell} {cl_s_DEFAULTCAPACITY_EMPTY_ELEMENTDATA : Cell} (hw : ∀ d ∈ tables_1, d.before a0 Z = true) (G : own_Ctx Z s__VALUES s_HITS s_RESULTS s_VALIDATE s_HITS_name s_RESULTS_name s_VALIDATE_name s_HITS_name_value s_RESULTS_name_value s_VALIDATE_name_value s_DEFAULTCAPACITY_EMPTY_ELEMENTDATA s_COMPACT_STRINGS cl_s__VALUES cl_s_HITS_name_value cl_s_RESULTS_name_value cl_s_VALIDATE_name_value cl_s_DEFAULTCAPACITY_EMPTY_ELEMENTDATA)   (h0 : Heap) (O0 : Ext Z.heap h0)  :
    Ok l Z (⟨"java/lang/String", "equals", "(Ljava/lang/Object;)Z"⟩ : MethodName) jdk_42_method_66_code 3 (some .boolean) ({ frames := 0, cells := 0, slots := 0, locals := 0 } : Room) #[(.ref s_HITS_name), (.ref s_HITS_name)] h0
      (fun v h L => v = some (.int (1 : Int32)) ∧ (h = h0) ∧ (L = [])) := by
  refine Ok.mk pn_java_lang_String_equals__Ljava_lang_Object__Z ?_
  intro p e s m below meth c T0 hx hby hml hown hnm hret hlk hZ e0 X0
  refine Go.cast (ef_rm_eqs0 m s_HITS_name s_HITS_name) ?_
  obtain ⟨S__VALUES, E_s__VALUES, S_HITS, E_s_HITS, S_RESULTS, E_s_RESULTS, S_VALIDATE, E_s_VALIDATE, F_s_HITS_name, E_s_HITS_name, F_s_RESULTS_name, E_s_RESULTS_name, F_s_VALIDATE_name, E_s_VALIDATE_name, F_s_HITS_name_coder, F_s_HITS_name_value, F_s_RESULTS_name_coder, F_s_RESULTS_name_value, F_s_VALIDATE_name_coder, F_s_VALIDATE_name_value, ne_s_HITS_name_s_RESULTS_name, ne_s_HITS_name_s_VALIDATE_name, ne_s_RESULTS_name_s_VALIDATE_name, S_DEFAULTCAPACITY_EMPTY_ELEMENTDATA, E_s_DEFAULTCAPACITY_EMPTY_ELEMENTDATA, S_COMPACT_STRINGS, hne_s_COMPACT_STRINGS_0, V_s__VALUES, V_s_HITS_name_value, V_s_RESULTS_name_value, V_s_VALIDATE_name_value, V_s_DEFAULTCAPACITY_EMPTY_ELEMENTDATA⟩ := id G
  have N0 := Fr.nil Z.heap.size
  have K0 : Keep h0 h0 [] := Keep.refl _ _
  refine Go.of (T' := T0) (f' := (mkF m 1 #[.val (.ref s_HITS_name), .val (.ref s_HITS_name), .unset] [(.ref s_HITS_name)])) (fun _ k => XS.aloadN X0.here hx rfl (hb hby d_jdk_42_method_66_code_0) rfl rfl k) ?_
  refine Go.of (T' := T0) (f' := (mkF m 2 #[.val (.ref s_HITS_name), .val (.ref s_HITS_name), .unset] [(.ref s_HITS_name), (.ref s_HITS_name)])) (fun _ k => XS.aloadN X0.here hx rfl (hb hby d_jdk_42_method_66_code_1) rfl rfl k) ?_
  refine Go.of (T' := T0) (f' := (mkF m 5 #[.val (.ref s_HITS_name), .val (.ref s_HITS_name), .unset] [])) (fun _ k => Jvm.RoadKit.acmp (g := (mkF m 2 #[.val (.ref s_HITS_name), .val (.ref s_HITS_name), .unset] [(.ref s_HITS_name), (.ref s_HITS_name)])) X0 hx rfl rfl rfl (pc0 := 2) (pc' := 5) (same := true) rfl (hb hby d_jdk_42_method_66_code_2) rfl (decide_eq_true rfl) (by decide) (by decide) k) ?_
  refine Go.of (T' := T0) (f' := (mkF m 6 #[.val (.ref s_HITS_name), .val (.ref s_HITS_name), .unset] [(.int (1 : Int32))])) (fun _ k => XS.iconst X0.here hx rfl (hb hby d_jdk_42_method_66_code_5) k) ?_
  exact Go.retB X0 hx hlk hret (by simp) (hb hby d_jdk_42_method_66_code_6) (by decide) (by decide) (z' := (1 : Int32)) rfl (by rw [e0]; exact ⟨rfl, rfl, by simp⟩)
theorem ef_rm_pci1 (m : MethodId)  : entryFrame m #[(.int (1 : Int32)), (.int (3 : Int32)), .null] 3 = mkF m 0 #[.val (.int (1 : Int32)), .val (.int (3 : Int32)), .val .null] [] := by first | (simp [entryFrame, mkF, argsToLocals, Value.category]; done) | rfl
set_option maxRecDepth 65536 in
set_option maxHeartbeats 40000000 in
theorem rm_pci1 {l : Launch} {Z : State} {a0 : Array Value} {s__VALUES : Addr} {s_HITS : Addr} {s_RESULTS : Addr} {s_VALIDATE : Addr} {s_HITS_name : Addr} {s_RESULTS_name : Addr} {s_VALIDATE_name : Addr} {s_HITS_name_value : Addr} {s_RESULTS_name_value : Addr} {s_VALIDATE_name_value : Addr} {s_DEFAULTCAPACITY_EMPTY_ELEMENTDATA : Addr} {s_COMPACT_STRINGS : Int32} {cl_s__VALUES : Cell} {cl_s_HITS_name_value : Cell} {cl_s_RESULTS_name_value : Cell} {cl_s_VALIDATE_name_value : Cell} {cl_s_DEFAULTCAPACITY_EMPTY_ELEMENTDATA : Cell} (hw : ∀ d ∈ tables_1, d.before a0 Z = true) (G : own_Ctx Z s__VALUES s_HITS s_RESULTS s_VALIDATE s_HITS_name s_RESULTS_name s_VALIDATE_name s_HITS_name_value s_RESULTS_name_value s_VALIDATE_name_value s_DEFAULTCAPACITY_EMPTY_ELEMENTDATA s_COMPACT_STRINGS cl_s__VALUES cl_s_HITS_name_value cl_s_RESULTS_name_value cl_s_VALIDATE_name_value cl_s_DEFAULTCAPACITY_EMPTY_ELEMENTDATA)   (h0 : Heap) (O0 : Ext Z.heap h0)  :
    Ok l Z (⟨"jdk/internal/util/Preconditions", "checkIndex", "(IILjava/util/function/BiFunction;)I"⟩ : MethodName) jdk_41_method_11_code 3 (some .int) ({ frames := 0, cells := 0, slots := 0, locals := 0 } : Room) #[(.int (1 : Int32)), (.int (3 : Int32)), .null] h0
      (fun v h L => v = some (.int (1 : Int32)) ∧ (h = h0) ∧ (L = [])) := by
  refine Ok.mk pn_jdk_internal_util_Preconditions_checkIndex__IILjava_util_function_BiFunction__I ?_
  intro p e s m below meth c T0 hx hby hml hown hnm hret hlk hZ e0 X0
  refine Go.cast (ef_rm_pci1 m ) ?_
  obtain ⟨S__VALUES, E_s__VALUES, S_HITS, E_s_HITS, S_RESULTS, E_s_RESULTS, S_VALIDATE, E_s_VALIDATE, F_s_HITS_name, E_s_HITS_name, F_s_RESULTS_name, E_s_RESULTS_name, F_s_VALIDATE_name, E_s_VALIDATE_name, F_s_HITS_name_coder, F_s_HITS_name_value, F_s_RESULTS_name_coder, F_s_RESULTS_name_value, F_s_VALIDATE_name_coder, F_s_VALIDATE_name_value, ne_s_HITS_name_s_RESULTS_name, ne_s_HITS_name_s_VALIDATE_name, ne_s_RESULTS_name_s_VALIDATE_name, S_DEFAULTCAPACITY_EMPTY_ELEMENTDATA, E_s_DEFAULTCAPACITY_EMPTY_ELEMENTDATA, S_COMPACT_STRINGS, hne_s_COMPACT_STRINGS_0, V_s__VALUES, V_s_HITS_name_value, V_s_RESULTS_name_value, V_s_VALIDATE_name_value, V_s_DEFAULTCAPACITY_EMPTY_ELEMENTDATA⟩ := id G
  have N0 := Fr.nil Z.heap.size
  have K0 : Keep h0 h0 [] := Keep.refl _ _
  refine Go.of (T' := T0) (f' := (mkF m 1 #[.val (.int (1 : Int32)), .val (.int (3 : Int32)), .val .null] [(.int (1 : Int32))])) (fun _ k => XS.iloadN X0.here hx rfl (hb hby d_jdk_41_method_11_code_0) rfl k) ?_
  refine Go.of (T' := T0) (f' := (mkF m 4 #[.val (.int (1 : Int32)), .val (.int (3 : Int32)), .val .null] [])) (fun _ k => XS.ifNo X0.here hx rfl (hb hby d_jdk_41_method_11_code_1) rfl ((if0 _ _).trans (flt (by decide : ¬ ((1 : Int32) < (0 : Int32)))).1) k) ?_
  refine Go.of (T' := T0) (f' := (mkF m 5 #[.val (.int (1 : Int32)), .val (.int (3 : Int32)), .val .null] [(.int (1 : Int32))])) (fun _ k => XS.iloadN X0.here hx rfl (hb hby d_jdk_41_method_11_code_4) rfl k) ?_
  refine Go.of (T' := T0) (f' := (mkF m 6 #[.val (.int (1 : Int32)), .val (.int (3 : Int32)), .val .null] [(.int (3 : Int32)), (.int (1 : Int32))])) (fun _ k => XS.iloadN X0.here hx rfl (hb hby d_jdk_41_method_11_code_5) rfl k) ?_
  refine Go.of (T' := T0) (f' := (mkF m 16 #[.val (.int (1 : Int32)), .val (.int (3 : Int32)), .val .null] [])) (fun _ k => XS.icmpYes X0.here hx rfl (pc0 := 6) (pc' := 16) rfl (hb hby d_jdk_41_method_11_code_6) rfl (tlt (by decide : (1 : Int32) < (3 : Int32))).1 (by decide) (by decide) k) ?_
  refine Go.of (T' := T0) (f' := (mkF m 17 #[.val (.int (1 : Int32)), .val (.int (3 : Int32)), .val .null] [(.int (1 : Int32))])) (fun _ k => XS.iloadN X0.here hx rfl (hb hby d_jdk_41_method_11_code_16) rfl k) ?_
  exact Go.retI X0 hx hlk hret (hb hby d_jdk_41_method_11_code_17) (by decide) (by decide) (by rw [e0]; exact ⟨rfl, rfl, by simp⟩)
theorem ef_rm_oci1 (m : MethodId)  : entryFrame m #[(.int (1 : Int32)), (.int (3 : Int32))] 2 = mkF m 0 #[.val (.int (1 : Int32)), .val (.int (3 : Int32))] [] := by first | (simp [entryFrame, mkF, argsToLocals, Value.category]; done) | rfl
set_option maxRecDepth 65536 in
set_option maxHeartbeats 40000000 in
theorem rm_oci1 {l : Launch} {Z : State} {a0 : Array Value} {s__VALUES : Addr} {s_HITS : Addr} {s_RESULTS : Addr} {s_VALIDATE : Addr} {s_HITS_name : Addr} {s_RESULTS_name : Addr} {s_VALIDATE_name : Addr} {s_HITS_name_value : Addr} {s_RESULTS_name_value : Addr} {s_VALIDATE_name_value : Addr} {s_DEFAULTCAPACITY_EMPTY_ELEMENTDATA : Addr} {s_COMPACT_STRINGS : Int32} {cl_s__VALUES : Cell} {cl_s_HITS_name_value : Cell} {cl_s_RESULTS_name_value : Cell} {cl_s_VALIDATE_name_value : Cell} {cl_s_DEFAULTCAPACITY_EMPTY_ELEMENTDATA : Cell} (hw : ∀ d ∈ tables_1, d.before a0 Z = true) (G : own_Ctx Z s__VALUES s_HITS s_RESULTS s_VALIDATE s_HITS_name s_RESULTS_name s_VALIDATE_name s_HITS_name_value s_RESULTS_name_value s_VALIDATE_name_value s_DEFAULTCAPACITY_EMPTY_ELEMENTDATA s_COMPACT_STRINGS cl_s__VALUES cl_s_HITS_name_value cl_s_RESULTS_name_value cl_s_VALIDATE_name_value cl_s_DEFAULTCAPACITY_EMPTY_ELEMENTDATA)   (h0 : Heap) (O0 : Ext Z.heap h0)  :
    Ok l Z (⟨"java/util/Objects", "checkIndex", "(II)I"⟩ : MethodName) jdk_31_method_17_code 2 (some .int) ({ frames := 1, cells := 0, slots := 0, locals := 14 } : Room) #[(.int (1 : Int32)), (.int (3 : Int32))] h0
      (fun v h L => v = some (.int (1 : Int32)) ∧ (h = h0) ∧ (L = [])) := by
  refine Ok.mk pn_java_util_Objects_checkIndex__II_I ?_
  intro p e s m below meth c T0 hx hby hml hown hnm hret hlk hZ e0 X0
  refine Go.cast (ef_rm_oci1 m ) ?_
  obtain ⟨S__VALUES, E_s__VALUES, S_HITS, E_s_HITS, S_RESULTS, E_s_RESULTS, S_VALIDATE, E_s_VALIDATE, F_s_HITS_name, E_s_HITS_name, F_s_RESULTS_name, E_s_RESULTS_name, F_s_VALIDATE_name, E_s_VALIDATE_name, F_s_HITS_name_coder, F_s_HITS_name_value, F_s_RESULTS_name_coder, F_s_RESULTS_name_value, F_s_VALIDATE_name_coder, F_s_VALIDATE_name_value, ne_s_HITS_name_s_RESULTS_name, ne_s_HITS_name_s_VALIDATE_name, ne_s_RESULTS_name_s_VALIDATE_name, S_DEFAULTCAPACITY_EMPTY_ELEMENTDATA, E_s_DEFAULTCAPACITY_EMPTY_ELEMENTDATA, S_COMPACT_STRINGS, hne_s_COMPACT_STRINGS_0, V_s__VALUES, V_s_HITS_name_value, V_s_RESULTS_name_value, V_s_VALIDATE_name_value, V_s_DEFAULTCAPACITY_EMPTY_ELEMENTDATA⟩ := id G
  have N0 := Fr.nil Z.heap.size
  have K0 : Keep h0 h0 [] := Keep.refl _ _
  refine Go.of (T' := T0) (f' := (mkF m 1 #[.val (.int (1 : Int32)), .val (.int (3 : Int32))] [(.int (1 : Int32))])) (fun _ k => XS.iloadN X0.here hx rfl (hb hby d_jdk_31_method_17_code_0) rfl k) ?_
  refine Go.of (T' := T0) (f' := (mkF m 2 #[.val (.int (1 : Int32)), .val (.int (3 : Int32))] [(.int (3 : Int32)), (.int (1 : Int32))])) (fun _ k => XS.iloadN X0.here hx rfl (hb hby d_jdk_31_method_17_code_1) rfl k) ?_
  refine Go.of (T' := T0) (f' := (mkF m 3 #[.val (.int (1 : Int32)), .val (.int (3 : Int32))] [.null, (.int (3 : Int32)), (.int (1 : Int32))])) (fun _ k => XS.aconstNull X0.here hx rfl (hb hby d_jdk_31_method_17_code_2) k) ?_
  obtain ⟨T258, v258, L258, X258, q258, st258⟩ := callSt X0 hx hZ (y := (⟨"jdk/internal/util/Preconditions", "checkIndex", "(IILjava/util/function/BiFunction;)I"⟩ : MethodName)) hown (hw _ (List.mem_of_getElem? (i := 130) rfl)) (hw _ (List.mem_of_getElem? (i := 131) rfl)) (hw _ (List.mem_of_getElem? (i := 132) rfl)) (hw _ (List.mem_of_getElem? (i := 133) rfl)) (by decide) (rm_pci1 hw G   h0 O0 ) e0 (W := 0) (by decide) (by decide) (by decide) (by decide) (g := (mkF m 3 #[.val (.int (1 : Int32)), .val (.int (3 : Int32))] [.null, (.int (3 : Int32)), (.int (1 : Int32))])) rfl (by rw [hml]; rfl) (argsL := [(.int (1 : Int32)), (.int (3 : Int32)), .null]) (rest := []) (lenOf pd__IILjava_util_function_BiFunction__I rfl) rfl rfl (by show 2 * 0 + _ ≤ _; exact Nat.le_of_eq rfl) (hb hby d_jdk_31_method_17_code_3)
  obtain ⟨rfl, e258, rfl⟩ := q258
  have N258 := Fr.app N0 (Fr.nil _)
  refine Go.of (T' := T258) (f' := (mkF m 6 #[.val (.int (1 : Int32)), .val (.int (3 : Int32))] [(.int (1 : Int32))])) (fun _ k => st258 _ k) ?_
  exact Go.retI X258 hx hlk hret (hb hby d_jdk_31_method_17_code_6) (by decide) (by decide) (by rw [e258]; exact ⟨rfl, rfl, by simp⟩)
theorem ef_rm_eldat1 (m : MethodId) (ob : Addr) : entryFrame m #[(.ref ob), (.int (1 : Int32))] 2 = mkF m 0 #[.val (.ref ob), .val (.int (1 : Int32))] [] := by first | (simp [entryFrame, mkF, argsToLocals, Value.category]; done) | rfl
set_option maxRecDepth 65536 in
set_option maxHeartbeats 40000000 in
theorem rm_eldat1 {l : Launch} {Z : State} {a0 : Array Value} {s__VALUES : Addr} {s_HITS : Addr} {s_RESULTS : Addr} {s_VALIDATE : Addr} {s_HITS_name : Addr} {s_RESULTS_name : Addr} {s_VALIDATE_name : Addr} {s_HITS_name_value : Addr} {s_RESULTS_name_value : Addr} {s_VALIDATE_name_value : Addr} {s_DEFAULTCAPACITY_EMPTY_ELEMENTDATA : Addr} {s_COMPACT_STRINGS : Int32} {cl_s__VALUES : Cell} {cl_s_HITS_name_value : Cell} {cl_s_RESULTS_name_value : Cell} {cl_s_VALIDATE_name_value : Cell} {cl_s_DEFAULTCAPACITY_EMPTY_ELEMENTDATA : Cell} (hw : ∀ d ∈ tables_1, d.before a0 Z = true) (G : own_Ctx Z s__VALUES s_HITS s_RESULTS s_VALIDATE s_HITS_name s_RESULTS_name s_VALIDATE_name s_HITS_name_value s_RESULTS_name_value s_VALIDATE_name_value s_DEFAULTCAPACITY_EMPTY_ELEMENTDATA s_COMPACT_STRINGS cl_s__VALUES cl_s_HITS_name_value cl_s_RESULTS_name_value cl_s_VALIDATE_name_value cl_s_DEFAULTCAPACITY_EMPTY_ELEMENTDATA) (ob : Addr) (ar : Addr) (kr : ClassId) (el0 : Addr) (el1 : Addr) (el2 : Addr) (h0 : Heap) (O0 : Ext Z.heap h0) (prem0 : Fld Z h0 ob "java/util/ArrayList" "elementData" "[Ljava/lang/Object;" (.ref ar)) (prem1 : Arv Z h0 ar kr (.object "java/lang/Object") (10 : Int32) [(.ref el0), (.ref el1), (.ref el2), .null, .null, .null, .null, .null, .null, .null] .null) :
    Ok l Z (⟨"java/util/ArrayList", "elementData", "(I)Ljava/lang/Object;"⟩ : MethodName) jdk_38_method_18_code 2 (some (.object "java/lang/Object")) ({ frames := 0, cells := 0, slots := 0, locals := 0 } : Room) #[(.ref ob), (.int (1 : Int32))] h0
      (fun v h L => v = some (.ref el1) ∧ (h = h0) ∧ (L = [])) := by
  refine Ok.mk pn_java_util_ArrayList_elementData__I_Ljava_lang_Object_ ?_
  intro p e s m below meth c T0 hx hby hml hown hnm hret hlk hZ e0 X0
  refine Go.cast (ef_rm_eldat1 m ob) ?_
  obtain ⟨S__VALUES, E_s__VALUES, S_HITS, E_s_HITS, S_RESULTS, E_s_RESULTS, S_VALIDATE, E_s_VALIDATE, F_s_HITS_name, E_s_HITS_name, F_s_RESULTS_name, E_s_RESULTS_name, F_s_VALIDATE_name, E_s_VALIDATE_name, F_s_HITS_name_coder, F_s_HITS_name_value, F_s_RESULTS_name_coder, F_s_RESULTS_name_value, F_s_VALIDATE_name_coder, F_s_VALIDATE_name_value, ne_s_HITS_name_s_RESULTS_name, ne_s_HITS_name_s_VALIDATE_name, ne_s_RESULTS_name_s_VALIDATE_name, S_DEFAULTCAPACITY_EMPTY_ELEMENTDATA, E_s_DEFAULTCAPACITY_EMPTY_ELEMENTDATA, S_COMPACT_STRINGS, hne_s_COMPACT_STRINGS_0, V_s__VALUES, V_s_HITS_name_value, V_s_RESULTS_name_value, V_s_VALIDATE_name_value, V_s_DEFAULTCAPACITY_EMPTY_ELEMENTDATA⟩ := id G
  have N0 := Fr.nil Z.heap.size
  have K0 : Keep h0 h0 [] := Keep.refl _ _
  refine Go.of (T' := T0) (f' := (mkF m 1 #[.val (.ref ob), .val (.int (1 : Int32))] [(.ref ob)])) (fun _ k => XS.aloadN X0.here hx rfl (hb hby d_jdk_38_method_18_code_0) rfl rfl k) ?_
  obtain ⟨T259, X259, e259, st259⟩ := getF X0 hx hZ hown (host := "") (Or.inl (hw _ (List.mem_of_getElem? (i := 28) rfl))) Via.refl e0 prem0 (g := (mkF m 1 #[.val (.ref ob), .val (.int (1 : Int32))] [(.ref ob)])) rfl rfl (hb hby d_jdk_38_method_18_code_1)
  refine Go.of (T' := T259) (f' := (mkF m 4 #[.val (.ref ob), .val (.int (1 : Int32))] [(.ref ar)])) (fun _ k => st259 _ k) ?_
  refine Go.of (T' := T259) (f' := (mkF m 5 #[.val (.ref ob), .val (.int (1 : Int32))] [(.int (1 : Int32)), (.ref ar)])) (fun _ k => XS.iloadN X259.here hx rfl (hb hby d_jdk_38_method_18_code_4) rfl k) ?_
  obtain ⟨cl260, Ar260, qk260, S260, Ng260, H260, G260⟩ := id prem1
  have hin260 := inb_of (j := (1 : Int32)) S260 ⟨by decide, by decide⟩
  refine Go.of (T' := T259) (f' := (mkF m 6 #[.val (.ref ob), .val (.int (1 : Int32))] [(.ref el1)])) (fun _ k => X259.aaload hx (j := (1 : Int32)) (v := (.ref el1)) (by rw [e259]; exact Ar260.1) (State.isArrayOf_alike hZ.alike Ar260.2.1) rfl Ar260.2.2 hin260 (H260.at hin260 rfl) (g := (mkF m 5 #[.val (.ref ob), .val (.int (1 : Int32))] [(.int (1 : Int32)), (.ref ar)])) rfl rfl (hb hby d_jdk_38_method_18_code_5) _ k) ?_
  exact Go.retA X259 hx hlk hret rfl rfl (hb hby d_jdk_38_method_18_code_6) (by decide) (by decide) (by rw [e259]; exact ⟨rfl, rfl, by simp⟩)
theorem ef_rm_get1 (m : MethodId) (ob : Addr) : entryFrame m #[(.ref ob), (.int (1 : Int32))] 2 = mkF m 0 #[.val (.ref ob), .val (.int (1 : Int32))] [] := by first | (simp [entryFrame, mkF, argsToLocals, Value.category]; done) | rfl
set_option maxRecDepth 65536 in
set_option maxHeartbeats 40000000 in
theorem rm_get1 {l : Launch} {Z : State} {a0 : Array Value} {s__VALUES : Addr} {s_HITS : Addr} {s_RESULTS : Addr} {s_VALIDATE : Addr} {s_HITS_name : Addr} {s_RESULTS_name : Addr} {s_VALIDATE_name : Addr} {s_HITS_name_value : Addr} {s_RESULTS_name_value : Addr} {s_VALIDATE_name_value : Addr} {s_DEFAULTCAPACITY_EMPTY_ELEMENTDATA : Addr} {s_COMPACT_STRINGS : Int32} {cl_s__VALUES : Cell} {cl_s_HITS_name_value : Cell} {cl_s_RESULTS_name_value : Cell} {cl_s_VALIDATE_name_value : Cell} {cl_s_DEFAULTCAPACITY_EMPTY_ELEMENTDATA : Cell} (hw : ∀ d ∈ tables_1, d.before a0 Z = true) (G : own_Ctx Z s__VALUES s_HITS s_RESULTS s_VALIDATE s_HITS_name s_RESULTS_name s_VALIDATE_name s_HITS_name_value s_RESULTS_name_value s_VALIDATE_name_value s_DEFAULTCAPACITY_EMPTY_ELEMENTDATA s_COMPACT_STRINGS cl_s__VALUES cl_s_HITS_name_value cl_s_RESULTS_name_value cl_s_VALIDATE_name_value cl_s_DEFAULTCAPACITY_EMPTY_ELEMENTDATA) (ob : Addr) (ar : Addr) (kr : ClassId) (el0 : Addr) (el1 : Addr) (el2 : Addr) (h0 : Heap) (O0 : Ext Z.heap h0) (prem0 : Exa Z h0 ob "java/util/ArrayList") (prem1 : Fld Z h0 ob "java/util/ArrayList" "size" "I" (.int (3 : Int32))) (prem2 : Fld Z h0 ob "java/util/ArrayList" "elementData" "[Ljava/lang/Object;" (.ref ar)) (prem3 : Arv Z h0 ar kr (.object "java/lang/Object") (10 : Int32) [(.ref el0), (.ref el1), (.ref el2), .null, .null, .null, .null, .null, .null, .null] .null) :
    Ok l Z (⟨"java/util/ArrayList", "get", "(I)Ljava/lang/Object;"⟩ : MethodName) jdk_38_method_20_code 2 (some (.object "java/lang/Object")) ({ frames := 2, cells := 0, slots := 0, locals := 27 } : Room) #[(.ref ob), (.int (1 : Int32))] h0
      (fun v h L => v = some (.ref el1) ∧ (h = h0) ∧ (L = [])) := by
  refine Ok.mk pn_java_util_ArrayList_get__I_Ljava_lang_Object_ ?_
  intro p e s m below meth c T0 hx hby hml hown hnm hret hlk hZ e0 X0
  refine Go.cast (ef_rm_get1 m ob) ?_
  obtain ⟨S__VALUES, E_s__VALUES, S_HITS, E_s_HITS, S_RESULTS, E_s_RESULTS, S_VALIDATE, E_s_VALIDATE, F_s_HITS_name, E_s_HITS_name, F_s_RESULTS_name, E_s_RESULTS_name, F_s_VALIDATE_name, E_s_VALIDATE_name, F_s_HITS_name_coder, F_s_HITS_name_value, F_s_RESULTS_name_coder, F_s_RESULTS_name_value, F_s_VALIDATE_name_coder, F_s_VALIDATE_name_value, ne_s_HITS_name_s_RESULTS_name, ne_s_HITS_name_s_VALIDATE_name, ne_s_RESULTS_name_s_VALIDATE_name, S_DEFAULTCAPACITY_EMPTY_ELEMENTDATA, E_s_DEFAULTCAPACITY_EMPTY_ELEMENTDATA, S_COMPACT_STRINGS, hne_s_COMPACT_STRINGS_0, V_s__VALUES, V_s_HITS_name_value, V_s_RESULTS_name_value, V_s_VALIDATE_name_value, V_s_DEFAULTCAPACITY_EMPTY_ELEMENTDATA⟩ := id G
  have N0 := Fr.nil Z.heap.size
  have K0 : Keep h0 h0 [] := Keep.refl _ _
  refine Go.of (T' := T0) (f' := (mkF m 1 #[.val (.ref ob), .val (.int (1 : Int32))] [(.int (1 : Int32))])) (fun _ k => XS.iloadN X0.here hx rfl (hb hby d_jdk_38_method_20_code_0) rfl k) ?_
  refine Go.of (T' := T0) (f' := (mkF m 2 #[.val (.ref ob), .val (.int (1 : Int32))] [(.ref ob), (.int (1 : Int32))])) (fun _ k => XS.aloadN X0.here hx rfl (hb hby d_jdk_38_method_20_code_1) rfl rfl k) ?_
  obtain ⟨T261, X261, e261, st261⟩ := getF X0 hx hZ hown (host := "") (Or.inl (hw _ (List.mem_of_getElem? (i := 61) rfl))) Via.refl e0 prem1 (g := (mkF m 2 #[.val (.ref ob), .val (.int (1 : Int32))] [(.ref ob), (.int (1 : Int32))])) rfl rfl (hb hby d_jdk_38_method_20_code_2)
  refine Go.of (T' := T261) (f' := (mkF m 5 #[.val (.ref ob), .val (.int (1 : Int32))] [(.int (3 : Int32)), (.int (1 : Int32))])) (fun _ k => st261 _ k) ?_
  obtain ⟨T262, v262, L262, X262, q262, st262⟩ := callSt X261 hx hZ (y := (⟨"java/util/Objects", "checkIndex", "(II)I"⟩ : MethodName)) hown (hw _ (List.mem_of_getElem? (i := 126) rfl)) (hw _ (List.mem_of_getElem? (i := 127) rfl)) (hw _ (List.mem_of_getElem? (i := 128) rfl)) (hw _ (List.mem_of_getElem? (i := 129) rfl)) (by decide) (rm_oci1 hw G   h0 O0 ) e261 (W := 0) (by decide) (by decide) (by decide) (by decide) (g := (mkF m 5 #[.val (.ref ob), .val (.int (1 : Int32))] [(.int (3 : Int32)), (.int (1 : Int32))])) rfl (by rw [hml]; rfl) (argsL := [(.int (1 : Int32)), (.int (3 : Int32))]) (rest := []) (lenOf pd__II_I rfl) rfl rfl (by show 2 * 0 + _ ≤ _; exact Nat.le_of_eq rfl) (hb hby d_jdk_38_method_20_code_5)
  obtain ⟨rfl, e262, rfl⟩ := q262
  have N262 := Fr.app N0 (Fr.nil _)
  refine Go.of (T' := T262) (f' := (mkF m 8 #[.val (.ref ob), .val (.int (1 : Int32))] [(.int (1 : Int32))])) (fun _ k => st262 _ k) ?_
  refine Go.of (T' := T262) (f' := (mkF m 9 #[.val (.ref ob), .val (.int (1 : Int32))] [])) (fun _ k => XT.pop X262.here hx rfl (hb hby d_jdk_38_method_20_code_8) rfl rfl k) ?_
  refine Go.of (T' := T262) (f' := (mkF m 10 #[.val (.ref ob), .val (.int (1 : Int32))] [(.ref ob)])) (fun _ k => XS.aloadN X262.here hx rfl (hb hby d_jdk_38_method_20_code_9) rfl rfl k) ?_
  refine Go.of (T' := T262) (f' := (mkF m 11 #[.val (.ref ob), .val (.int (1 : Int32))] [(.int (1 : Int32)), (.ref ob)])) (fun _ k => XS.iloadN X262.here hx rfl (hb hby d_jdk_38_method_20_code_10) rfl k) ?_
  obtain ⟨T263, v263, L263, X263, q263, st263⟩ := callVi X262 hx hZ (y := (⟨"java/util/ArrayList", "elementData", "(I)Ljava/lang/Object;"⟩ : MethodName)) (z := (⟨"java/util/ArrayList", "elementData", "(I)Ljava/lang/Object;"⟩ : MethodName)) hown (hw _ (List.mem_of_getElem? (i := 134) rfl)) (hw _ (List.mem_of_getElem? (i := 135) rfl)) (notFace_of_selects (args := #[]) (mvT hZ (hw _ (List.mem_of_getElem? (i := 137) rfl)))) (hw _ (List.mem_of_getElem? (i := 137) rfl)) (hw _ (List.mem_of_getElem? (i := 136) rfl)) (hw _ (List.mem_of_getElem? (i := 138) rfl)) (hw _ (List.mem_of_getElem? (i := 6) rfl)) (by decide) (rm_eldat1 hw G ob ar kr el0 el1 el2 h0 O0 prem2 prem3) e262 (W := 0) (by decide) (by decide) (by decide) (by decide) prem0 (g := (mkF m 11 #[.val (.ref ob), .val (.int (1 : Int32))] [(.int (1 : Int32)), (.ref ob)])) rfl (by rw [hml]; rfl) (argsL := [(.int (1 : Int32))]) (rest := []) (lenOf pd__I_Ljava_lang_Object_ rfl) rfl rfl (by show 2 * 0 + _ ≤ _; exact Nat.le_of_eq rfl) (hb hby d_jdk_38_method_20_code_11)
  obtain ⟨rfl, e263, rfl⟩ := q263
  have N263 := Fr.app N262 (Fr.nil _)
  refine Go.of (T' := T263) (f' := (mkF m 14 #[.val (.ref ob), .val (.int (1 : Int32))] [(.ref el1)])) (fun _ k => st263 _ k) ?_
  exact Go.retA X263 hx hlk hret rfl rfl (hb hby d_jdk_38_method_20_code_14) (by decide) (by decide) (by rw [e263]; exact ⟨rfl, rfl, by simp⟩)
theorem ef_rm_gn1 (m : MethodId) (s_RESULTS : Addr) : entryFrame m #[(.ref s_RESULTS)] 1 = mkF m 0 #[.val (.ref s_RESULTS)] [] := by first | (simp [entryFrame, mkF, argsToLocals, Value.category]; done) | rfl
set_option maxRecDepth 65536 in
set_option maxHeartbeats 40000000 in
theorem rm_gn1 {l : Launch} {Z : State} {a0 : Array Value} {s__VALUES : Addr} {s_HITS : Addr} {s_RESULTS : Addr} {s_VALIDATE : Addr} {s_HITS_name : Addr} {s_RESULTS_name : Addr} {s_VALIDATE_name : Addr} {s_HITS_name_value : Addr} {s_RESULTS_name_value : Addr} {s_VALIDATE_name_value : Addr} {s_DEFAULTCAPACITY_EMPTY_ELEMENTDATA : Addr} {s_COMPACT_STRINGS : Int32} {cl_s__VALUES : Cell} {cl_s_HITS_name_value : Cell} {cl_s_RESULTS_name_value : Cell} {cl_s_VALIDATE_name_value : Cell} {cl_s_DEFAULTCAPACITY_EMPTY_ELEMENTDATA : Cell} (hw : ∀ d ∈ tables_1, d.before a0 Z = true) (G : own_Ctx Z s__VALUES s_HITS s_RESULTS s_VALIDATE s_HITS_name s_RESULTS_name s_VALIDATE_name s_HITS_name_value s_RESULTS_name_value s_VALIDATE_name_value s_DEFAULTCAPACITY_EMPTY_ELEMENTDATA s_COMPACT_STRINGS cl_s__VALUES cl_s_HITS_name_value cl_s_RESULTS_name_value cl_s_VALIDATE_name_value cl_s_DEFAULTCAPACITY_EMPTY_ELEMENTDATA)   (h0 : Heap) (O0 : Ext Z.heap h0)  :
    Ok l Z (⟨"com/example/fair_index/fairindex/csw/ResultType", "getName", "()Ljava/lang/String;"⟩ : MethodName) prog_4_method_6_code 1 (some (.object "java/lang/String")) ({ frames := 0, cells := 0, slots := 0, locals := 0 } : Room) #[(.ref s_RESULTS)] h0
      (fun v h L => v = some (.ref s_RESULTS_name) ∧ (h = h0) ∧ (L = [])) := by
  refine Ok.mk pn_com_example_fair_index_fairindex_csw_ResultType_getName___Ljava_lang_String_ ?_
  intro p e s m below meth c T0 hx hby hml hown hnm hret hlk hZ e0 X0
  refine Go.cast (ef_rm_gn1 m s_RESULTS) ?_
  obtain ⟨S__VALUES, E_s__VALUES, S_HITS, E_s_HITS, S_RESULTS, E_s_RESULTS, S_VALIDATE, E_s_VALIDATE, F_s_HITS_name, E_s_HITS_name, F_s_RESULTS_name, E_s_RESULTS_name, F_s_VALIDATE_name, E_s_VALIDATE_name, F_s_HITS_name_coder, F_s_HITS_name_value, F_s_RESULTS_name_coder, F_s_RESULTS_name_value, F_s_VALIDATE_name_coder, F_s_VALIDATE_name_value, ne_s_HITS_name_s_RESULTS_name, ne_s_HITS_name_s_VALIDATE_name, ne_s_RESULTS_name_s_VALIDATE_name, S_DEFAULTCAPACITY_EMPTY_ELEMENTDATA, E_s_DEFAULTCAPACITY_EMPTY_ELEMENTDATA, S_COMPACT_STRINGS, hne_s_COMPACT_STRINGS_0, V_s__VALUES, V_s_HITS_name_value, V_s_RESULTS_name_value, V_s_VALIDATE_name_value, V_s_DEFAULTCAPACITY_EMPTY_ELEMENTDATA⟩ := id G
  have N0 := Fr.nil Z.heap.size
  have K0 : Keep h0 h0 [] := Keep.refl _ _
  refine Go.of (T' := T0) (f' := (mkF m 1 #[.val (.ref s_RESULTS)] [(.ref s_RESULTS)])) (fun _ k => XS.aloadN X0.here hx rfl (hb hby d_prog_4_method_6_code_0) rfl rfl k) ?_
  obtain ⟨T264, X264, e264, st264⟩ := getF X0 hx hZ hown (host := "") (Or.inl (hw _ (List.mem_of_getElem? (i := 48) rfl))) Via.refl e0 (Fld.ext O0 F_s_RESULTS_name) (g := (mkF m 1 #[.val (.ref s_RESULTS)] [(.ref s_RESULTS)])) rfl rfl (hb hby d_prog_4_method_6_code_1)
  refine Go.of (T' := T264) (f' := (mkF m 4 #[.val (.ref s_RESULTS)] [(.ref s_RESULTS_name)])) (fun _ k => st264 _ k) ?_
  exact Go.retA X264 hx hlk hret rfl rfl (hb hby d_prog_4_method_6_code_4) (by decide) (by decide) (by rw [e264]; exact ⟨rfl, rfl, by simp⟩)
theorem ef_rm_l1eq1 (m : MethodId) (xa : Addr) (xb : Addr) : entryFrame m #[(.ref xa), (.ref xb)] 3 = mkF m 0 #[.val (.ref xa), .val (.ref xb), .unset] [] := by first | (simp [entryFrame, mkF, argsToLocals, Value.category]; done) | rfl
set_option maxRecDepth 65536 in
set_option maxHeartbeats 40000000 in
theorem rm_l1eq1 {l : Launch} {Z : State} {a0 : Array Value} {s__VALUES : Addr} {s_HITS : Addr} {s_RESULTS : Addr} {s_VALIDATE : Addr} {s_HITS_name : Addr} {s_RESULTS_name : Addr} {s_VALIDATE_name : Addr} {s_HITS_name_value : Addr} {s_RESULTS_name_value : Addr} {s_VALIDATE_name_value : Addr} {s_DEFAULTCAPACITY_EMPTY_ELEMENTDATA : Addr} {s_COMPACT_STRINGS : Int32} {cl_s__VALUES : Cell} {cl_s_HITS_name_value : Cell} {cl_s_RESULTS_name_value : Cell} {cl_s_VALIDATE_name_value : Cell} {cl_s_DEFAULTCAPACITY_EMPTY_ELEMENTDATA : Cell} (hw : ∀ d ∈ tables_1, d.before a0 Z = true) (G : own_Ctx Z s__VALUES s_HITS s_RESULTS s_VALIDATE s_HITS_name s_RESULTS_name s_VALIDATE_name s_HITS_name_value s_RESULTS_name_value s_VALIDATE_name_value s_DEFAULTCAPACITY_EMPTY_ELEMENTDATA s_COMPACT_STRINGS cl_s__VALUES cl_s_HITS_name_value cl_s_RESULTS_name_value cl_s_VALIDATE_name_value cl_s_DEFAULTCAPACITY_EMPTY_ELEMENTDATA) (xa : Addr) (xb : Addr) (ka : ClassId) (kb : ClassId) (h0 : Heap) (O0 : Ext Z.heap h0) (prem0 : Arv Z h0 xa ka .byte (7 : Int32) [(.int (114 : Int32)), (.int (101 : Int32)), (.int (115 : Int32)), (.int (117 : Int32)), (.int (108 : Int32)), (.int (116 : Int32)), (.int (115 : Int32))] (.int (0 : Int32))) (prem1 : Arv Z h0 xb kb .byte (7 : Int32) [(.int (114 : Int32)), (.int (101 : Int32)), (.int (115 : Int32)), (.int (117 : Int32)), (.int (108 : Int32)), (.int (116 : Int32)), (.int (115 : Int32))] (.int (0 : Int32))) :
    Ok l Z (⟨"java/lang/StringLatin1", "equals", "([B[B)Z"⟩ : MethodName) jdk_43_method_13_code 3 (some .boolean) ({ frames := 0, cells := 0, slots := 0, locals := 0 } : Room) #[(.ref xa), (.ref xb)] h0
      (fun v h L => v = some (.int (1 : Int32)) ∧ (h = h0) ∧ (L = [])) := by
  refine Ok.mk pn_java_lang_StringLatin1_equals___B_B_Z ?_
  intro p e s m below meth c T0 hx hby hml hown hnm hret hlk hZ e0 X0
  refine Go.cast (ef_rm_l1eq1 m xa xb) ?_
  obtain ⟨S__VALUES, E_s__VALUES, S_HITS, E_s_HITS, S_RESULTS, E_s_RESULTS, S_VALIDATE, E_s_VALIDATE, F_s_HITS_name, E_s_HITS_name, F_s_RESULTS_name, E_s_RESULTS_name, F_s_VALIDATE_name, E_s_VALIDATE_name, F_s_HITS_name_coder, F_s_HITS_name_value, F_s_RESULTS_name_coder, F_s_RESULTS_name_value, F_s_VALIDATE_name_coder, F_s_VALIDATE_name_value, ne_s_HITS_name_s_RESULTS_name, ne_s_HITS_name_s_VALIDATE_name, ne_s_RESULTS_name_s_VALIDATE_name, S_DEFAULTCAPACITY_EMPTY_ELEMENTDATA, E_s_DEFAULTCAPACITY_EMPTY_ELEMENTDATA, S_COMPACT_STRINGS, hne_s_COMPACT_STRINGS_0, V_s__VALUES, V_s_HITS_name_value, V_s_RESULTS_name_value, V_s_VALIDATE_name_value, V_s_DEFAULTCAPACITY_EMPTY_ELEMENTDATA⟩ := id G
  have N0 := Fr.nil Z.heap.size
  have K0 : Keep h0 h0 [] := Keep.refl _ _
  refine Go.of (T' := T0) (f' := (mkF m 1 #[.val (.ref xa), .val (.ref xb), .unset] [(.ref xa)])) (fun _ k => XS.aloadN X0.here hx rfl (hb hby d_jdk_43_method_13_code_0) rfl rfl k) ?_
  obtain ⟨cl265, Ar265, qk265, S265, Ng265, H265, G265⟩ := id prem0
  refine Go.of (T' := T0) (f' := (mkF m 2 #[.val (.ref xa), .val (.ref xb), .unset] [(.int (7 : Int32))])) (fun _ k => X0.arraylength hx (by rw [e0]; exact Ar265.1) (State.isArrayOf_alike hZ.alike Ar265.2.1) (g := (mkF m 1 #[.val (.ref xa), .val (.ref xb), .unset] [(.ref xa)])) rfl rfl (hb hby d_jdk_43_method_13_code_1) _ (by rw [len_of S265 Ng265]; exact k)) ?_
  refine Go.of (T' := T0) (f' := (mkF m 3 #[.val (.ref xa), .val (.ref xb), .unset] [(.ref xb), (.int (7 : Int32))])) (fun _ k => XS.aloadN X0.here hx rfl (hb hby d_jdk_43_method_13_code_2) rfl rfl k) ?_
  obtain ⟨cl266, Ar266, qk266, S266, Ng266, H266, G266⟩ := id prem1
  refine Go.of (T' := T0) (f' := (mkF m 4 #[.val (.ref xa), .val (.ref xb), .unset] [(.int (7 : Int32)), (.int (7 : Int32))])) (fun _ k => X0.arraylength hx (by rw [e0]; exact Ar266.1) (State.isArrayOf_alike hZ.alike Ar266.2.1) (g := (mkF m 3 #[.val (.ref xa), .val (.ref xb), .unset] [(.ref xb), (.int (7 : Int32))])) rfl rfl (hb hby d_jdk_43_method_13_code_3) _ (by rw [len_of S266 Ng266]; exact k)) ?_
  refine Go.of (T' := T0) (f' := (mkF m 7 #[.val (.ref xa), .val (.ref xb), .unset] [])) (fun _ k => XS.icmpNo X0.here hx rfl (hb hby d_jdk_43_method_13_code_4) rfl (teq (by decide : (7 : Int32) = (7 : Int32))).2 k) ?_
  refine Go.of (T' := T0) (f' := (mkF m 8 #[.val (.ref xa), .val (.ref xb), .unset] [(.int (0 : Int32))])) (fun _ k => XS.iconst X0.here hx rfl (hb hby d_jdk_43_method_13_code_7) k) ?_
  refine Go.of (T' := T0) (f' := (mkF m 9 #[.val (.ref xa), .val (.ref xb), .val (.int (0 : Int32))] [])) (fun _ k => XS.istoreN X0.here hx rfl (hb hby d_jdk_43_method_13_code_8) rfl (l' := #[.val (.ref xa), .val (.ref xb), .val (.int (0 : Int32))]) rfl k) ?_
  refine Go.of (T' := T0) (f' := (mkF m 10 #[.val (.ref xa), .val (.ref xb), .val (.int (0 : Int32))] [(.int (0 : Int32))])) (fun _ k => XS.iloadN X0.here hx rfl (hb hby d_jdk_43_method_13_code_9) rfl k) ?_
  refine Go.of (T' := T0) (f' := (mkF m 11 #[.val (.ref xa), .val (.ref xb), .val (.int (0 : Int32))] [(.ref xa), (.int (0 : Int32))])) (fun _ k => XS.aloadN X0.here hx rfl (hb hby d_jdk_43_method_13_code_10) rfl rfl k) ?_
  obtain ⟨cl268, Ar268, qk268, S268, Ng268, H268, G268⟩ := id prem0
  refine Go.of (T' := T0) (f' := (mkF m 12 #[.val (.ref xa), .val (.ref xb), .val (.int (0 : Int32))] [(.int (7 : Int32)), (.int (0 : Int32))])) (fun _ k => X0.arraylength hx (by rw [e0]; exact Ar268.1) (State.isArrayOf_alike hZ.alike Ar268.2.1) (g := (mkF m 11 #[.val (.ref xa), .val (.ref xb), .val (.int (0 : Int32))] [(.ref xa), (.int (0 : Int32))])) rfl rfl (hb hby d_jdk_43_method_13_code_11) _ (by rw [len_of S268 Ng268]; exact k)) ?_
  refine Go.of (T' := T0) (f' := (mkF m 15 #[.val (.ref xa), .val (.ref xb), .val (.int (0 : Int32))] [])) (fun _ k => XS.icmpNo X0.here hx rfl (hb hby d_jdk_43_method_13_code_12) rfl (tlt (by decide : (0 : Int32) < (7 : Int32))).2.1 k) ?_
  refine Go.of (T' := T0) (f' := (mkF m 16 #[.val (.ref xa), .val (.ref xb), .val (.int (0 : Int32))] [(.ref xa)])) (fun _ k => XS.aloadN X0.here hx rfl (hb hby d_jdk_43_method_13_code_15) rfl rfl k) ?_
  refine Go.of (T' := T0) (f' := (mkF m 17 #[.val (.ref xa), .val (.ref xb), .val (.int (0 : Int32))] [(.int (0 : Int32)), (.ref xa)])) (fun _ k => XS.iloadN X0.here hx rfl (hb hby d_jdk_43_method_13_code_16) rfl k) ?_
  obtain ⟨cl270, Ar270, qk270, S270, Ng270, H270, G270⟩ := id prem0
  have hin270 := inb_of (j := (0 : Int32)) S270 ⟨by decide, by decide⟩
  refine Go.of (T' := T0) (f' := (mkF m 18 #[.val (.ref xa), .val (.ref xb), .val (.int (0 : Int32))] [(.int (114 : Int32))])) (fun _ k => X0.baloadBytes hx (j := (0 : Int32)) (v := (.int (114 : Int32))) (by rw [e0]; exact Ar270.1) (State.isArrayOf_alike hZ.alike Ar270.2.1) Ar270.2.2 hin270 (H270.at hin270 rfl) (g := (mkF m 17 #[.val (.ref xa), .val (.ref xb), .val (.int (0 : Int32))] [(.int (0 : Int32)), (.ref xa)])) rfl rfl (hb hby d_jdk_43_method_13_code_17) _ k) ?_
  refine Go.of (T' := T0) (f' := (mkF m 19 #[.val (.ref xa), .val (.ref xb), .val (.int (0 : Int32))] [(.ref xb), (.int (114 : Int32))])) (fun _ k => XS.aloadN X0.here hx rfl (hb hby d_jdk_43_method_13_code_18) rfl rfl k) ?_
  refine Go.of (T' := T0) (f' := (mkF m 20 #[.val (.ref xa), .val (.ref xb), .val (.int (0 : Int32))] [(.int (0 : Int32)), (.ref xb), (.int (114 : Int32))])) (fun _ k => XS.iloadN X0.here hx rfl (hb hby d_jdk_43_method_13_code_19) rfl k) ?_
  obtain ⟨cl271, Ar271, qk271, S271, Ng271, H271, G271⟩ := id prem1
  have hin271 := inb_of (j := (0 : Int32)) S271 ⟨by decide, by decide⟩
  refine Go.of (T' := T0) (f' := (mkF m 21 #[.val (.ref xa), .val (.ref xb), .val (.int (0 : Int32))] [(.int (114 : Int32)), (.int (114 : Int32))])) (fun _ k => X0.baloadBytes hx (j := (0 : Int32)) (v := (.int (114 : Int32))) (by rw [e0]; exact Ar271.1) (State.isArrayOf_alike hZ.alike Ar271.2.1) Ar271.2.2 hin271 (H271.at hin271 rfl) (g := (mkF m 20 #[.val (.ref xa), .val (.ref xb), .val (.int (0 : Int32))] [(.int (0 : Int32)), (.ref xb), (.int (114 : Int32))])) rfl rfl (hb hby d_jdk_43_method_13_code_20) _ k) ?_
  refine Go.of (T' := T0) (f' := (mkF m 26 #[.val (.ref xa), .val (.ref xb), .val (.int (0 : Int32))] [])) (fun _ k => XS.icmpYes X0.here hx rfl (pc0 := 21) (pc' := 26) rfl (hb hby d_jdk_43_method_13_code_21) rfl (teq (by decide : (114 : Int32) = (114 : Int32))).1 (by decide) (by decide) k) ?_
  refine Go.of (T' := T0) (f' := (mkF m 29 #[.val (.ref xa), .val (.ref xb), .val (.int (1 : Int32))] [])) (fun _ k => XS.iinc X0.here hx rfl (hb hby d_jdk_43_method_13_code_26) rfl (l' := #[.val (.ref xa), .val (.ref xb), .val (.int (1 : Int32))]) rfl k) ?_
  refine Go.of (T' := T0) (f' := (mkF m 9 #[.val (.ref xa), .val (.ref xb), .val (.int (1 : Int32))] [])) (fun _ k => XS.goto X0.here hx rfl (pc0 := 29) (pc' := 9) rfl (hb hby d_jdk_43_method_13_code_29) (by decide) (by decide) k) ?_
  refine Go.of (T' := T0) (f' := (mkF m 10 #[.val (.ref xa), .val (.ref xb), .val (.int (1 : Int32))] [(.int (1 : Int32))])) (fun _ k => XS.iloadN X0.here hx rfl (hb hby d_jdk_43_method_13_code_9) rfl k) ?_
  refine Go.of (T' := T0) (f' := (mkF m 11 #[.val (.ref xa), .val (.ref xb), .val (.int (1 : Int32))] [(.ref xa), (.int (1 : Int32))])) (fun _ k => XS.aloadN X0.here hx rfl (hb hby d_jdk_43_method_13_code_10) rfl rfl k) ?_
  obtain ⟨cl273, Ar273, qk273, S273, Ng273, H273, G273⟩ := id prem0
  refine Go.of (T' := T0) (f' := (mkF m 12 #[.val (.ref xa), .val (.ref xb), .val (.int (1 : Int32))] [(.int (7 : Int32)), (.int (1 : Int32))])) (fun _ k => X0.arraylength hx (by rw [e0]; exact Ar273.1) (State.isArrayOf_alike hZ.alike Ar273.2.1) (g := (mkF m 11 #[.val (.ref xa), .val (.ref xb), .val (.int (1 : Int32))] [(.ref xa), (.int (1 : Int32))])) rfl rfl (hb hby d_jdk_43_method_13_code_11) _ (by rw [len_of S273 Ng273]; exact k)) ?_
  refine Go.of (T' := T0) (f' := (mkF m 15 #[.val (.ref xa), .val (.ref xb), .val (.int (1 : Int32))] [])) (fun _ k => XS.icmpNo X0.here hx rfl (hb hby d_jdk_43_method_13_code_12) rfl (tlt (by decide : (1 : Int32) < (7 : Int32))).2.1 k) ?_
  refine Go.of (T' := T0) (f' := (mkF m 16 #[.val (.ref xa), .val (.ref xb), .val (.int (1 : Int32))] [(.ref xa)])) (fun _ k => XS.aloadN X0.here hx rfl (hb hby d_jdk_43_method_13_code_15) rfl rfl k) ?_
  refine Go.of (T' := T0) (f' := (mkF m 17 #[.val (.ref xa), .val (.ref xb), .val (.int (1 : Int32))] [(.int (1 : Int32)), (.ref xa)])) (fun _ k => XS.iloadN X0.here hx rfl (hb hby d_jdk_43_method_13_code_16) rfl k) ?_
  obtain ⟨cl275, Ar275, qk275, S275, Ng275, H275, G275⟩ := id prem0
  have hin275 := inb_of (j := (1 : Int32)) S275 ⟨by decide, by decide⟩
  refine Go.of (T' := T0) (f' := (mkF m 18 #[.val (.ref xa), .val (.ref xb), .val (.int (1 : Int32))] [(.int (101 : Int32))])) (fun _ k => X0.baloadBytes hx (j := (1 : Int32)) (v := (.int (101 : Int32))) (by rw [e0]; exact Ar275.1) (State.isArrayOf_alike hZ.alike Ar275.2.1) Ar275.2.2 hin275 (H275.at hin275 rfl) (g := (mkF m 17 #[.val (.ref xa), .val (.ref xb), .val (.int (1 : Int32))] [(.int (1 : Int32)), (.ref xa)])) rfl rfl (hb hby d_jdk_43_method_13_code_17) _ k) ?_
  refine Go.of (T' := T0) (f' := (mkF m 19 #[.val (.ref xa), .val (.ref xb), .val (.int (1 : Int32))] [(.ref xb), (.int (101 : Int32))])) (fun _ k => XS.aloadN X0.here hx rfl (hb hby d_jdk_43_method_13_code_18) rfl rfl k) ?_
  refine Go.of (T' := T0) (f' := (mkF m 20 #[.val (.ref xa), .val (.ref xb), .val (.int (1 : Int32))] [(.int (1 : Int32)), (.ref xb), (.int (101 : Int32))])) (fun _ k => XS.iloadN X0.here hx rfl (hb hby d_jdk_43_method_13_code_19) rfl k) ?_
  obtain ⟨cl276, Ar276, qk276, S276, Ng276, H276, G276⟩ := id prem1
  have hin276 := inb_of (j := (1 : Int32)) S276 ⟨by decide, by decide⟩
  refine Go.of (T' := T0) (f' := (mkF m 21 #[.val (.ref xa), .val (.ref xb), .val (.int (1 : Int32))] [(.int (101 : Int32)), (.int (101 : Int32))])) (fun _ k => X0.baloadBytes hx (j := (1 : Int32)) (v := (.int (101 : Int32))) (by rw [e0]; exact Ar276.1) (State.isArrayOf_alike hZ.alike Ar276.2.1) Ar276.2.2 hin276 (H276.at hin276 rfl) (g := (mkF m 20 #[.val (.ref xa), .val (.ref xb), .val (.int (1 : Int32))] [(.int (1 : Int32)), (.ref xb), (.int (101 : Int32))])) rfl rfl (hb hby d_jdk_43_method_13_code_20) _ k) ?_
  refine Go.of (T' := T0) (f' := (mkF m 26 #[.val (.ref xa), .val (.ref xb), .val (.int (1 : Int32))] [])) (fun _ k => XS.icmpYes X0.here hx rfl (pc0 := 21) (pc' := 26) rfl (hb hby d_jdk_43_method_13_code_21) rfl (teq (by decide : (101 : Int32) = (101 : Int32))).1 (by decide) (by decide) k) ?_
  refine Go.of (T' := T0) (f' := (mkF m 29 #[.val (.ref xa), .val (.ref xb), .val (.int (2 : Int32))] [])) (fun _ k => XS.iinc X0.here hx rfl (hb hby d_jdk_43_method_13_code_26) rfl (l' := #[.val (.ref xa), .val (.ref xb), .val (.int (2 : Int32))]) rfl k) ?_
  refine Go.of (T' := T0) (f' := (mkF m 9 #[.val (.ref xa), .val (.ref xb), .val (.int (2 : Int32))] [])) (fun _ k => XS.goto X0.here hx rfl (pc0 := 29) (pc' := 9) rfl (hb hby d_jdk_43_method_13_code_29) (by decide) (by decide) k) ?_
  refine Go.of (T' := T0) (f' := (mkF m 10 #[.val (.ref xa), .val (.ref xb), .val (.int (2 : Int32))] [(.int (2 : Int32))])) (fun _ k => XS.iloadN X0.here hx rfl (hb hby d_jdk_43_method_13_code_9) rfl k) ?_
  refine Go.of (T' := T0) (f' := (mkF m 11 #[.val (.ref xa), .val (.ref xb), .val (.int (2 : Int32))] [(.ref xa), (.int (2 : Int32))])) (fun _ k => XS.aloadN X0.here hx rfl (hb hby d_jdk_43_method_13_code_10) rfl rfl k) ?_
  obtain ⟨cl278, Ar278, qk278, S278, Ng278, H278, G278⟩ := id prem0
  refine Go.of (T' := T0) (f' := (mkF m 12 #[.val (.ref xa), .val (.ref xb), .val (.int (2 : Int32))] [(.int (7 : Int32)), (.int (2 : Int32))])) (fun _ k => X0.arraylength hx (by rw [e0]; exact Ar278.1) (State.isArrayOf_alike hZ.alike Ar278.2.1) (g := (mkF m 11 #[.val (.ref xa), .val (.ref xb), .val (.int (2 : Int32))] [(.ref xa), (.int (2 : Int32))])) rfl rfl (hb hby d_jdk_43_method_13_code_11) _ (by rw [len_of S278 Ng278]; exact k)) ?_
  refine Go.of (T' := T0) (f' := (mkF m 15 #[.val (.ref xa), .val (.ref xb), .val (.int (2 : Int32))] [])) (fun _ k => XS.icmpNo X0.here hx rfl (hb hby d_jdk_43_method_13_code_12) rfl (tlt (by decide : (2 : Int32) < (7 : Int32))).2.1 k) ?_
  refine Go.of (T' := T0) (f' := (mkF m 16 #[.val (.ref xa), .val (.ref xb), .val (.int (2 : Int32))] [(.ref xa)])) (fun _ k => XS.aloadN X0.here hx rfl (hb hby d_jdk_43_method_13_code_15) rfl rfl k) ?_
  refine Go.of (T' := T0) (f' := (mkF m 17 #[.val (.ref xa), .val (.ref xb), .val (.int (2 : Int32))] [(.int (2 : Int32)), (.ref xa)])) (fun _ k => XS.iloadN X0.here hx rfl (hb hby d_jdk_43_method_13_code_16) rfl k) ?_
  obtain ⟨cl280, Ar280, qk280, S280, Ng280, H280, G280⟩ := id prem0
  have hin280 := inb_of (j := (2 : Int32)) S280 ⟨by decide, by decide⟩
  refine Go.of (T' := T0) (f' := (mkF m 18 #[.val (.ref xa), .val (.ref xb), .val (.int (2 : Int32))] [(.int (115 : Int32))])) (fun _ k => X0.baloadBytes hx (j := (2 : Int32)) (v := (.int (115 : Int32))) (by rw [e0]; exact Ar280.1) (State.isArrayOf_alike hZ.alike Ar280.2.1) Ar280.2.2 hin280 (H280.at hin280 rfl) (g := (mkF m 17 #[.val (.ref xa), .val (.ref xb), .val (.int (2 : Int32))] [(.int (2 : Int32)), (.ref xa)])) rfl rfl (hb hby d_jdk_43_method_13_code_17) _ k) ?_
  refine Go.of (T' := T0) (f' := (mkF m 19 #[.val (.ref xa), .val (.ref xb), .val (.int (2 : Int32))] [(.ref xb), (.int (115 : Int32))])) (fun _ k => XS.aloadN X0.here hx rfl (hb hby d_jdk_43_method_13_code_18) rfl rfl k) ?_
  refine Go.of (T' := T0) (f' := (mkF m 20 #[.val (.ref xa), .val (.ref xb), .val (.int (2 : Int32))] [(.int (2 : Int32)), (.ref xb), (.int (115 : Int32))])) (fun _ k => XS.iloadN X0.here hx rfl (hb hby d_jdk_43_method_13_code_19) rfl k) ?_
  obtain ⟨cl281, Ar281, qk281, S281, Ng281, H281, G281⟩ := id prem1
  have hin281 := inb_of (j := (2 : Int32)) S281 ⟨by decide, by decide⟩
  refine Go.of (T' := T0) (f' := (mkF m 21 #[.val (.ref xa), .val (.ref xb), .val (.int (2 : Int32))] [(.int (115 : Int32)), (.int (115 : Int32))])) (fun _ k => X0.baloadBytes hx (j := (2 : Int32)) (v := (.int (115 : Int32))) (by rw [e0]; exact Ar281.1) (State.isArrayOf_alike hZ.alike Ar281.2.1) Ar281.2.2 hin281 (H281.at hin281 rfl) (g := (mkF m 20 #[.val (.ref xa), .val (.ref xb), .val (.int (2 : Int32))] [(.int (2 : Int32)), (.ref xb), (.int (115 : Int32))])) rfl rfl (hb hby d_jdk_43_method_13_code_20) _ k) ?_
  refine Go.of (T' := T0) (f' := (mkF m 26 #[.val (.ref xa), .val (.ref xb), .val (.int (2 : Int32))] [])) (fun _ k => XS.icmpYes X0.here hx rfl (pc0 := 21) (pc' := 26) rfl (hb hby d_jdk_43_method_13_code_21) rfl (teq (by decide : (115 : Int32) = (115 : Int32))).1 (by decide) (by decide) k) ?_
  refine Go.of (T' := T0) (f' := (mkF m 29 #[.val (.ref xa), .val (.ref xb), .val (.int (3 : Int32))] [])) (fun _ k => XS.iinc X0.here hx rfl (hb hby d_jdk_43_method_13_code_26) rfl (l' := #[.val (.ref xa), .val (.ref xb), .val (.int (3 : Int32))]) rfl k) ?_
  refine Go.of (T' := T0) (f' := (mkF m 9 #[.val (.ref xa), .val (.ref xb), .val (.int (3 : Int32))] [])) (fun _ k => XS.goto X0.here hx rfl (pc0 := 29) (pc' := 9) rfl (hb hby d_jdk_43_method_13_code_29) (by decide) (by decide) k) ?_
  refine Go.of (T' := T0) (f' := (mkF m 10 #[.val (.ref xa), .val (.ref xb), .val (.int (3 : Int32))] [(.int (3 : Int32))])) (fun _ k => XS.iloadN X0.here hx rfl (hb hby d_jdk_43_method_13_code_9) rfl k) ?_
  refine Go.of (T' := T0) (f' := (mkF m 11 #[.val (.ref xa), .val (.ref xb), .val (.int (3 : Int32))] [(.ref xa), (.int (3 : Int32))])) (fun _ k => XS.aloadN X0.here hx rfl (hb hby d_jdk_43_method_13_code_10) rfl rfl k) ?_
  obtain ⟨cl283, Ar283, qk283, S283, Ng283, H283, G283⟩ := id prem0
  refine Go.of (T' := T0) (f' := (mkF m 12 #[.val (.ref xa), .val (.ref xb), .val (.int (3 : Int32))] [(.int (7 : Int32)), (.int (3 : Int32))])) (fun _ k => X0.arraylength hx (by rw [e0]; exact Ar283.1) (State.isArrayOf_alike hZ.alike Ar283.2.1) (g := (mkF m 11 #[.val (.ref xa), .val (.ref xb), .val (.int (3 : Int32))] [(.ref xa), (.int (3 : Int32))])) rfl rfl (hb hby d_jdk_43_method_13_code_11) _ (by rw [len_of S283 Ng283]; exact k)) ?_
  refine Go.of (T' := T0) (f' := (mkF m 15 #[.val (.ref xa), .val (.ref xb), .val (.int (3 : Int32))] [])) (fun _ k => XS.icmpNo X0.here hx rfl (hb hby d_jdk_43_method_13_code_12) rfl (tlt (by decide : (3 : Int32) < (7 : Int32))).2.1 k) ?_
  refine Go.of (T' := T0) (f' := (mkF m 16 #[.val (.ref xa), .val (.ref xb), .val (.int (3 : Int32))] [(.ref xa)])) (fun _ k => XS.aloadN X0.here hx rfl (hb hby d_jdk_43_method_13_code_15) rfl rfl k) ?_
  refine Go.of (T' := T0) (f' := (mkF m 17 #[.val (.ref xa), .val (.ref xb), .val (.int (3 : Int32))] [(.int (3 : Int32)), (.ref xa)])) (fun _ k => XS.iloadN X0.here hx rfl (hb hby d_jdk_43_method_13_code_16) rfl k) ?_
  obtain ⟨cl285, Ar285, qk285, S285, Ng285, H285, G285⟩ := id prem0
  have hin285 := inb_of (j := (3 : Int32)) S285 ⟨by decide, by decide⟩
  refine Go.of (T' := T0) (f' := (mkF m 18 #[.val (.ref xa), .val (.ref xb), .val (.int (3 : Int32))] [(.int (117 : Int32))])) (fun _ k => X0.baloadBytes hx (j := (3 : Int32)) (v := (.int (117 : Int32))) (by rw [e0]; exact Ar285.1) (State.isArrayOf_alike hZ.alike Ar285.2.1) Ar285.2.2 hin285 (H285.at hin285 rfl) (g := (mkF m 17 #[.val (.ref xa), .val (.ref xb), .val (.int (3 : Int32))] [(.int (3 : Int32)), (.ref xa)])) rfl rfl (hb hby d_jdk_43_method_13_code_17) _ k) ?_
  refine Go.of (T' := T0) (f' := (mkF m 19 #[.val (.ref xa), .val (.ref xb), .val (.int (3 : Int32))] [(.ref xb), (.int (117 : Int32))])) (fun _ k => XS.aloadN X0.here hx rfl (hb hby d_jdk_43_method_13_code_18) rfl rfl k) ?_
  refine Go.of (T' := T0) (f' := (mkF m 20 #[.val (.ref xa), .val (.ref xb), .val (.int (3 : Int32))] [(.int (3 : Int32)), (.ref xb), (.int (117 : Int32))])) (fun _ k => XS.iloadN X0.here hx rfl (hb hby d_jdk_43_method_13_code_19) rfl k) ?_
  obtain ⟨cl286, Ar286, qk286, S286, Ng286, H286, G286⟩ := id prem1
  have hin286 := inb_of (j := (3 : Int32)) S286 ⟨by decide, by decide⟩
  refine Go.of (T' := T0) (f' := (mkF m 21 #[.val (.ref xa), .val (.ref xb), .val (.int (3 : Int32))] [(.int (117 : Int32)), (.int (117 : Int32))])) (fun _ k => X0.baloadBytes hx (j := (3 : Int32)) (v := (.int (117 : Int32))) (by rw [e0]; exact Ar286.1) (State.isArrayOf_alike hZ.alike Ar286.2.1) Ar286.2.2 hin286 (H286.at hin286 rfl) (g := (mkF m 20 #[.val (.ref xa), .val (.ref xb), .val (.int (3 : Int32))] [(.int (3 : Int32)), (.ref xb), (.int (117 : Int32))])) rfl rfl (hb hby d_jdk_43_method_13_code_20) _ k) ?_
  refine Go.of (T' := T0) (f' := (mkF m 26 #[.val (.ref xa), .val (.ref xb), .val (.int (3 : Int32))] [])) (fun _ k => XS.icmpYes X0.here hx rfl (pc0 := 21) (pc' := 26) rfl (hb hby d_jdk_43_method_13_code_21) rfl (teq (by decide : (117 : Int32) = (117 : Int32))).1 (by decide) (by decide) k) ?_
  refine Go.of (T' := T0) (f' := (mkF m 29 #[.val (.ref xa), .val (.ref xb), .val (.int (4 : Int32))] [])) (fun _ k => XS.iinc X0.here hx rfl (hb hby d_jdk_43_method_13_code_26) rfl (l' := #[.val (.ref xa), .val (.ref xb), .val (.int (4 : Int32))]) rfl k) ?_
  refine Go.of (T' := T0) (f' := (mkF m 9 #[.val (.ref xa), .val (.ref xb), .val (.int (4 : Int32))] [])) (fun _ k => XS.goto X0.here hx rfl (pc0 := 29) (pc' := 9) rfl (hb hby d_jdk_43_method_13_code_29) (by decide) (by decide) k) ?_
  refine Go.of (T' := T0) (f' := (mkF m 10 #[.val (.ref xa), .val (.ref xb), .val (.int (4 : Int32))] [(.int (4 : Int32))])) (fun _ k => XS.iloadN X0.here hx rfl (hb hby d_jdk_43_method_13_code_9) rfl k) ?_
  refine Go.of (T' := T0) (f' := (mkF m 11 #[.val (.ref xa), .val (.ref xb), .val (.int (4 : Int32))] [(.ref xa), (.int (4 : Int32))])) (fun _ k => XS.aloadN X0.here hx rfl (hb hby d_jdk_43_method_13_code_10) rfl rfl k) ?_
  obtain ⟨cl288, Ar288, qk288, S288, Ng288, H288, G288⟩ := id prem0
  refine Go.of (T' := T0) (f' := (mkF m 12 #[.val (.ref xa), .val (.ref xb), .val (.int (4 : Int32))] [(.int (7 : Int32)), (.int (4 : Int32))])) (fun _ k => X0.arraylength hx (by rw [e0]; exact Ar288.1) (State.isArrayOf_alike hZ.alike Ar288.2.1) (g := (mkF m 11 #[.val (.ref xa), .val (.ref xb), .val (.int (4 : Int32))] [(.ref xa), (.int (4 : Int32))])) rfl rfl (hb hby d_jdk_43_method_13_code_11) _ (by rw [len_of S288 Ng288]; exact k)) ?_
  refine Go.of (T' := T0) (f' := (mkF m 15 #[.val (.ref xa), .val (.ref xb), .val (.int (4 : Int32))] [])) (fun _ k => XS.icmpNo X0.here hx rfl (hb hby d_jdk_43_method_13_code_12) rfl (tlt (by decide : (4 : Int32) < (7 : Int32))).2.1 k) ?_
  refine Go.of (T' := T0) (f' := (mkF m 16 #[.val (.ref xa), .val (.ref xb), .val (.int (4 : Int32))] [(.ref xa)])) (fun _ k => XS.aloadN X0.here hx rfl (hb hby d_jdk_43_method_13_code_15) rfl rfl k) ?_
  refine Go.of (T' := T0) (f' := (mkF m 17 #[.val (.ref xa), .val (.ref xb), .val (.int (4 : Int32))] [(.int (4 : Int32)), (.ref xa)])) (fun _ k => XS.iloadN X0.here hx rfl (hb hby d_jdk_43_method_13_code_16) rfl k) ?_
  obtain ⟨cl290, Ar290, qk290, S290, Ng290, H290, G290⟩ := id prem0
  have hin290 := inb_of (j := (4 : Int32)) S290 ⟨by decide, by decide⟩
  refine Go.of (T' := T0) (f' := (mkF m 18 #[.val (.ref xa), .val (.ref xb), .val (.int (4 : Int32))] [(.int (108 : Int32))])) (fun _ k => X0.baloadBytes hx (j := (4 : Int32)) (v := (.int (108 : Int32))) (by rw [e0]; exact Ar290.1) (State.isArrayOf_alike hZ.alike Ar290.2.1) Ar290.2.2 hin290 (H290.at hin290 rfl) (g := (mkF m 17 #[.val (.ref xa), .val (.ref xb), .val (.int (4 : Int32))] [(.int (4 : Int32)), (.ref xa)])) rfl rfl (hb hby d_jdk_43_method_13_code_17) _ k) ?_
  refine Go.of (T' := T0) (f' := (mkF m 19 #[.val (.ref xa), .val (.ref xb), .val (.int (4 : Int32))] [(.ref xb), (.int (108 : Int32))])) (fun _ k => XS.aloadN X0.here hx rfl (hb hby d_jdk_43_method_13_code_18) rfl rfl k) ?_
  refine Go.of (T' := T0) (f' := (mkF m 20 #[.val (.ref xa), .val (.ref xb), .val (.int (4 : Int32))] [(.int (4 : Int32)), (.ref xb), (.int (108 : Int32))])) (fun _ k => XS.iloadN X0.here hx rfl (hb hby d_jdk_43_method_13_code_19) rfl k) ?_
  obtain ⟨cl291, Ar291, qk291, S291, Ng291, H291, G291⟩ := id prem1
  have hin291 := inb_of (j := (4 : Int32)) S291 ⟨by decide, by decide⟩
  refine Go.of (T' := T0) (f' := (mkF m 21 #[.val (.ref xa), .val (.ref xb), .val (.int (4 : Int32))] [(.int (108 : Int32)), (.int (108 : Int32))])) (fun _ k => X0.baloadBytes hx (j := (4 : Int32)) (v := (.int (108 : Int32))) (by rw [e0]; exact Ar291.1) (State.isArrayOf_alike hZ.alike Ar291.2.1) Ar291.2.2 hin291 (H291.at hin291 rfl) (g := (mkF m 20 #[.val (.ref xa), .val (.ref xb), .val (.int (4 : Int32))] [(.int (4 : Int32)), (.ref xb), (.int (108 : Int32))])) rfl rfl (hb hby d_jdk_43_method_13_code_20) _ k) ?_
  refine Go.of (T' := T0) (f' := (mkF m 26 #[.val (.ref xa), .val (.ref xb), .val (.int (4 : Int32))] [])) (fun _ k => XS.icmpYes X0.here hx rfl (pc0 := 21) (pc' := 26) rfl (hb hby d_jdk_43_method_13_code_21) rfl (teq (by decide : (108 : Int32) = (108 : Int32))).1 (by decide) (by decide) k) ?_
  refine Go.of (T' := T0) (f' := (mkF m 29 #[.val (.ref xa), .val (.ref xb), .val (.int (5 : Int32))] [])) (fun _ k => XS.iinc X0.here hx rfl (hb hby d_jdk_43_method_13_code_26) rfl (l' := #[.val (.ref xa), .val (.ref xb), .val (.int (5 : Int32))]) rfl k) ?_
  refine Go.of (T' := T0) (f' := (mkF m 9 #[.val (.ref xa), .val (.ref xb), .val (.int (5 : Int32))] [])) (fun _ k => XS.goto X0.here hx rfl (pc0 := 29) (pc' := 9) rfl (hb hby d_jdk_43_method_13_code_29) (by decide) (by decide) k) ?_
  refine Go.of (T' := T0) (f' := (mkF m 10 #[.val (.ref xa), .val (.ref xb), .val (.int (5 : Int32))] [(.int (5 : Int32))])) (fun _ k => XS.iloadN X0.here hx rfl (hb hby d_jdk_43_method_13_code_9) rfl k) ?_
  refine Go.of (T' := T0) (f' := (mkF m 11 #[.val (.ref xa), .val (.ref xb), .val (.int (5 : Int32))] [(.ref xa), (.int (5 : Int32))])) (fun _ k => XS.aloadN X0.here hx rfl (hb hby d_jdk_43_method_13_code_10) rfl rfl k) ?_
  obtain ⟨cl293, Ar293, qk293, S293, Ng293, H293, G293⟩ := id prem0
  refine Go.of (T' := T0) (f' := (mkF m 12 #[.val (.ref xa), .val (.ref xb), .val (.int (5 : Int32))] [(.int (7 : Int32)), (.int (5 : Int32))])) (fun _ k => X0.arraylength hx (by rw [e0]; exact Ar293.1) (State.isArrayOf_alike hZ.alike Ar293.2.1) (g := (mkF m 11 #[.val (.ref xa), .val (.ref xb), .val (.int (5 : Int32))] [(.ref xa), (.int (5 : Int32))])) rfl rfl (hb hby d_jdk_43_method_13_code_11) _ (by rw [len_of S293 Ng293]; exact k)) ?_
  refine Go.of (T' := T0) (f' := (mkF m 15 #[.val (.ref xa), .val (.ref xb), .val (.int (5 : Int32))] [])) (fun _ k => XS.icmpNo X0.here hx rfl (hb hby d_jdk_43_method_13_code_12) rfl (tlt (by decide : (5 : Int32) < (7 : Int32))).2.1 k) ?_
  refine Go.of (T' := T0) (f' := (mkF m 16 #[.val (.ref xa), .val (.ref xb), .val (.int (5 : Int32))] [(.ref xa)])) (fun _ k => XS.aloadN X0.here hx rfl (hb hby d_jdk_43_method_13_code_15) rfl rfl k) ?_
  refine Go.of (T' := T0) (f' := (mkF m 17 #[.val (.ref xa), .val (.ref xb), .val (.int (5 : Int32))] [(.int (5 : Int32)), (.ref xa)])) (fun _ k => XS.iloadN X0.here hx rfl (hb hby d_jdk_43_method_13_code_16) rfl k) ?_
  obtain ⟨cl295, Ar295, qk295, S295, Ng295, H295, G295⟩ := id prem0
  have hin295 := inb_of (j := (5 : Int32)) S295 ⟨by decide, by decide⟩
  refine Go.of (T' := T0) (f' := (mkF m 18 #[.val (.ref xa), .val (.ref xb), .val (.int (5 : Int32))] [(.int (116 : Int32))])) (fun _ k => X0.baloadBytes hx (j := (5 : Int32)) (v := (.int (116 : Int32))) (by rw [e0]; exact Ar295.1) (State.isArrayOf_alike hZ.alike Ar295.2.1) Ar295.2.2 hin295 (H295.at hin295 rfl) (g := (mkF m 17 #[.val (.ref xa), .val (.ref xb), .val (.int (5 : Int32))] [(.int (5 : Int32)), (.ref xa)])) rfl rfl (hb hby d_jdk_43_method_13_code_17) _ k) ?_
  refine Go.of (T' := T0) (f' := (mkF m 19 #[.val (.ref xa), .val (.ref xb), .val (.int (5 : Int32))] [(.ref xb), (.int (116 : Int32))])) (fun _ k => XS.aloadN X0.here hx rfl (hb hby d_jdk_43_method_13_code_18) rfl rfl k) ?_
  refine Go.of (T' := T0) (f' := (mkF m 20 #[.val (.ref xa), .val (.ref xb), .val (.int (5 : Int32))] [(.int (5 : Int32)), (.ref xb), (.int (116 : Int32))])) (fun _ k => XS.iloadN X0.here hx rfl (hb hby d_jdk_43_method_13_code_19) rfl k) ?_
  obtain ⟨cl296, Ar296, qk296, S296, Ng296, H296, G296⟩ := id prem1
  have hin296 := inb_of (j := (5 : Int32)) S296 ⟨by decide, by decide⟩
  refine Go.of (T' := T0) (f' := (mkF m 21 #[.val (.ref xa), .val (.ref xb), .val (.int (5 : Int32))] [(.int (116 : Int32)), (.int (116 : Int32))])) (fun _ k => X0.baloadBytes hx (j := (5 : Int32)) (v := (.int (116 : Int32))) (by rw [e0]; exact Ar296.1) (State.isArrayOf_alike hZ.alike Ar296.2.1) Ar296.2.2 hin296 (H296.at hin296 rfl) (g := (mkF m 20 #[.val (.ref xa), .val (.ref xb), .val (.int (5 : Int32))] [(.int (5 : Int32)), (.ref xb), (.int (116 : Int32))])) rfl rfl (hb hby d_jdk_43_method_13_code_20) _ k) ?_
  refine Go.of (T' := T0) (f' := (mkF m 26 #[.val (.ref xa), .val (.ref xb), .val (.int (5 : Int32))] [])) (fun _ k => XS.icmpYes X0.here hx rfl (pc0 := 21) (pc' := 26) rfl (hb hby d_jdk_43_method_13_code_21) rfl (teq (by decide : (116 : Int32) = (116 : Int32))).1 (by decide) (by decide) k) ?_
  refine Go.of (T' := T0) (f' := (mkF m 29 #[.val (.ref xa), .val (.ref xb), .val (.int (6 : Int32))] [])) (fun _ k => XS.iinc X0.here hx rfl (hb hby d_jdk_43_method_13_code_26) rfl (l' := #[.val (.ref xa), .val (.ref xb), .val (.int (6 : Int32))]) rfl k) ?_
  refine Go.of (T' := T0) (f' := (mkF m 9 #[.val (.ref xa), .val (.ref xb), .val (.int (6 : Int32))] [])) (fun _ k => XS.goto X0.here hx rfl (pc0 := 29) (pc' := 9) rfl (hb hby d_jdk_43_method_13_code_29) (by decide) (by decide) k) ?_
  refine Go.of (T' := T0) (f' := (mkF m 10 #[.val (.ref xa), .val (.ref xb), .val (.int (6 : Int32))] [(.int (6 : Int32))])) (fun _ k => XS.iloadN X0.here hx rfl (hb hby d_jdk_43_method_13_code_9) rfl k) ?_
  refine Go.of (T' := T0) (f' := (mkF m 11 #[.val (.ref xa), .val (.ref xb), .val (.int (6 : Int32))] [(.ref xa), (.int (6 : Int32))])) (fun _ k => XS.aloadN X0.here hx rfl (hb hby d_jdk_43_method_13_code_10) rfl rfl k) ?_
  obtain ⟨cl298, Ar298, qk298, S298, Ng298, H298, G298⟩ := id prem0
  refine Go.of (T' := T0) (f' := (mkF m 12 #[.val (.ref xa), .val (.ref xb), .val (.int (6 : Int32))] [(.int (7 : Int32)), (.int (6 : Int32))])) (fun _ k => X0.arraylength hx (by rw [e0]; exact Ar298.1) (State.isArrayOf_alike hZ.alike Ar298.2.1) (g := (mkF m 11 #[.val (.ref xa), .val (.ref xb), .val (.int (6 : Int32))] [(.ref xa), (.int (6 : Int32))])) rfl rfl (hb hby d_jdk_43_method_13_code_11) _ (by rw [len_of S298 Ng298]; exact k)) ?_
  refine Go.of (T' := T0) (f' := (mkF m 15 #[.val (.ref xa), .val (.ref xb), .val (.int (6 : Int32))] [])) (fun _ k => XS.icmpNo X0.here hx rfl (hb hby d_jdk_43_method_13_code_12) rfl (tlt (by decide : (6 : Int32) < (7 : Int32))).2.1 k) ?_
  refine Go.of (T' := T0) (f' := (mkF m 16 #[.val (.ref xa), .val (.ref xb), .val (.int (6 : Int32))] [(.ref xa)])) (fun _ k => XS.aloadN X0.here hx rfl (hb hby d_jdk_43_method_13_code_15) rfl rfl k) ?_
  refine Go.of (T' := T0) (f' := (mkF m 17 #[.val (.ref xa), .val (.ref xb), .val (.int (6 : Int32))] [(.int (6 : Int32)), (.ref xa)])) (fun _ k => XS.iloadN X0.here hx rfl (hb hby d_jdk_43_method_13_code_16) rfl k) ?_
  obtain ⟨cl300, Ar300, qk300, S300, Ng300, H300, G300⟩ := id prem0
  have hin300 := inb_of (j := (6 : Int32)) S300 ⟨by decide, by decide⟩
  refine Go.of (T' := T0) (f' := (mkF m 18 #[.val (.ref xa), .val (.ref xb), .val (.int (6 : Int32))] [(.int (115 : Int32))])) (fun _ k => X0.baloadBytes hx (j := (6 : Int32)) (v := (.int (115 : Int32))) (by rw [e0]; exact Ar300.1) (State.isArrayOf_alike hZ.alike Ar300.2.1) Ar300.2.2 hin300 (H300.at hin300 rfl) (g := (mkF m 17 #[.val (.ref xa), .val (.ref xb), .val (.int (6 : Int32))] [(.int (6 : Int32)), (.ref xa)])) rfl rfl (hb hby d_jdk_43_method_13_code_17) _ k) ?_
  refine Go.of (T' := T0) (f' := (mkF m 19 #[.val (.ref xa), .val (.ref xb), .val (.int (6 : Int32))] [(.ref xb), (.int (115 : Int32))])) (fun _ k => XS.aloadN X0.here hx rfl (hb hby d_jdk_43_method_13_code_18) rfl rfl k) ?_
  refine Go.of (T' := T0) (f' := (mkF m 20 #[.val (.ref xa), .val (.ref xb), .val (.int (6 : Int32))] [(.int (6 : Int32)), (.ref xb), (.int (115 : Int32))])) (fun _ k => XS.iloadN X0.here hx rfl (hb hby d_jdk_43_method_13_code_19) rfl k) ?_
  obtain ⟨cl301, Ar301, qk301, S301, Ng301, H301, G301⟩ := id prem1
  have hin301 := inb_of (j := (6 : Int32)) S301 ⟨by decide, by decide⟩
  refine Go.of (T' := T0) (f' := (mkF m 21 #[.val (.ref xa), .val (.ref xb), .val (.int (6 : Int32))] [(.int (115 : Int32)), (.int (115 : Int32))])) (fun _ k => X0.baloadBytes hx (j := (6 : Int32)) (v := (.int (115 : Int32))) (by rw [e0]; exact Ar301.1) (State.isArrayOf_alike hZ.alike Ar301.2.1) Ar301.2.2 hin301 (H301.at hin301 rfl) (g := (mkF m 20 #[.val (.ref xa), .val (.ref xb), .val (.int (6 : Int32))] [(.int (6 : Int32)), (.ref xb), (.int (115 : Int32))])) rfl rfl (hb hby d_jdk_43_method_13_code_20) _ k) ?_
  refine Go.of (T' := T0) (f' := (mkF m 26 #[.val (.ref xa), .val (.ref xb), .val (.int (6 : Int32))] [])) (fun _ k => XS.icmpYes X0.here hx rfl (pc0 := 21) (pc' := 26) rfl (hb hby d_jdk_43_method_13_code_21) rfl (teq (by decide : (115 : Int32) = (115 : Int32))).1 (by decide) (by decide) k) ?_
  refine Go.of (T' := T0) (f' := (mkF m 29 #[.val (.ref xa), .val (.ref xb), .val (.int (7 : Int32))] [])) (fun _ k => XS.iinc X0.here hx rfl (hb hby d_jdk_43_method_13_code_26) rfl (l' := #[.val (.ref xa), .val (.ref xb), .val (.int (7 : Int32))]) rfl k) ?_
  refine Go.of (T' := T0) (f' := (mkF m 9 #[.val (.ref xa), .val (.ref xb), .val (.int (7 : Int32))] [])) (fun _ k => XS.goto X0.here hx rfl (pc0 := 29) (pc' := 9) rfl (hb hby d_jdk_43_method_13_code_29) (by decide) (by decide) k) ?_
  refine Go.of (T' := T0) (f' := (mkF m 10 #[.val (.ref xa), .val (.ref xb), .val (.int (7 : Int32))] [(.int (7 : Int32))])) (fun _ k => XS.iloadN X0.here hx rfl (hb hby d_jdk_43_method_13_code_9) rfl k) ?_
  refine Go.of (T' := T0) (f' := (mkF m 11 #[.val (.ref xa), .val (.ref xb), .val (.int (7 : Int32))] [(.ref xa), (.int (7 : Int32))])) (fun _ k => XS.aloadN X0.here hx rfl (hb hby d_jdk_43_method_13_code_10) rfl rfl k) ?_
  obtain ⟨cl303, Ar303, qk303, S303, Ng303, H303, G303⟩ := id prem0
  refine Go.of (T' := T0) (f' := (mkF m 12 #[.val (.ref xa), .val (.ref xb), .val (.int (7 : Int32))] [(.int (7 : Int32)), (.int (7 : Int32))])) (fun _ k => X0.arraylength hx (by rw [e0]; exact Ar303.1) (State.isArrayOf_alike hZ.alike Ar303.2.1) (g := (mkF m 11 #[.val (.ref xa), .val (.ref xb), .val (.int (7 : Int32))] [(.ref xa), (.int (7 : Int32))])) rfl rfl (hb hby d_jdk_43_method_13_code_11) _ (by rw [len_of S303 Ng303]; exact k)) ?_
  refine Go.of (T' := T0) (f' := (mkF m 32 #[.val (.ref xa), .val (.ref xb), .val (.int (7 : Int32))] [])) (fun _ k => XS.icmpYes X0.here hx rfl (pc0 := 12) (pc' := 32) rfl (hb hby d_jdk_43_method_13_code_12) rfl (flt (by decide : ¬ ((7 : Int32) < (7 : Int32)))).2.1 (by decide) (by decide) k) ?_
  refine Go.of (T' := T0) (f' := (mkF m 33 #[.val (.ref xa), .val (.ref xb), .val (.int (7 : Int32))] [(.int (1 : Int32))])) (fun _ k => XS.iconst X0.here hx rfl (hb hby d_jdk_43_method_13_code_32) k) ?_
  exact Go.retB X0 hx hlk hret (by simp) (hb hby d_jdk_43_method_13_code_33) (by decide) (by decide) (z' := (1 : Int32)) rfl (by rw [e0]; exact ⟨rfl, rfl, by simp⟩)
theorem ef_rm_eqc1 (m : MethodId) (s_RESULTS_name : Addr) (cb : Addr) : entryFrame m #[(.ref s_RESULTS_name), (.ref cb)] 3 = mkF m 0 #[.val (.ref s_RESULTS_name), .val (.ref cb), .unset] [] := by first | (simp [entryFrame, mkF, argsToLocals, Value.category]; done) | rfl
set_option maxRecDepth 65536 in
set_option maxHeartbeats 40000000 in
theorem rm_eqc1 {l : Launch} {Z : State} {a0 : Array Value} {s__VALUES : Addr} {s_HITS : Addr} {s_RESULTS : Addr} {s_VALIDATE : Addr} {s_HITS_name : Addr} {s_RESULTS_name : Addr} {s_VALIDATE_name : Addr} {s_HITS_name_value : Addr} {s_RESULTS_name_value : Addr} {s_VALIDATE_name_value : Addr} {s_DEFAULTCAPACITY_EMPTY_ELEMENTDATA : Addr} {s_COMPACT_STRINGS : Int32} {cl_s__VALUES : Cell} {cl_s_HITS_name_value : Cell} {cl_s_RESULTS_name_value : Cell} {cl_s_VALIDATE_name_value : Cell} {cl_s_DEFAULTCAPACITY_EMPTY_ELEMENTDATA : Cell} (hw : ∀ d ∈ tables_1, d.before a0 Z = true) (G : own_Ctx Z s__VALUES s_HITS s_RESULTS s_VALIDATE s_HITS_name s_RESULTS_name s_VALIDATE_name s_HITS_name_value s_RESULTS_name_value s_VALIDATE_name_value s_DEFAULTCAPACITY_EMPTY_ELEMENTDATA s_COMPACT_STRINGS cl_s__VALUES cl_s_HITS_name_value cl_s_RESULTS_name_value cl_s_VALIDATE_name_value cl_s_DEFAULTCAPACITY_EMPTY_ELEMENTDATA) (cb : Addr) (vb : Addr) (kb : ClassId) (h0 : Heap) (O0 : Ext Z.heap h0) (prem0 : Exa Z h0 cb "java/lang/String") (prem1 : Fld Z h0 cb "java/lang/String" "coder" "B" (.int (0 : Int32))) (prem2 : Fld Z h0 cb "java/lang/String" "value" "[B" (.ref vb)) (prem3 : Arv Z h0 vb kb .byte (7 : Int32) [(.int (114 : Int32)), (.int (101 : Int32)), (.int (115 : Int32)), (.int (117 : Int32)), (.int (108 : Int32)), (.int (116 : Int32)), (.int (115 : Int32))] (.int (0 : Int32))) :
    Ok l Z (⟨"java/lang/String", "equals", "(Ljava/lang/Object;)Z"⟩ : MethodName) jdk_42_method_66_code 3 (some .boolean) ({ frames := 1, cells := 0, slots := 0, locals := 14 } : Room) #[(.ref s_RESULTS_name), (.ref cb)] h0
      (fun v h L => v = some (.int (1 : Int32)) ∧ (h = h0) ∧ (L = [])) := by
  refine Ok.mk pn_java_lang_String_equals__Ljava_lang_Object__Z ?_
  intro p e s m below meth c T0 hx hby hml hown hnm hret hlk hZ e0 X0
  refine Go.cast (ef_rm_eqc1 m s_RESULTS_name cb) ?_
  obtain ⟨S__VALUES, E_s__VALUES, S_HITS, E_s_HITS, S_RESULTS, E_s_RESULTS, S_VALIDATE, E_s_VALIDATE, F_s_HITS_name, E_s_HITS_name, F_s_RESULTS_name, E_s_RESULTS_name, F_s_VALIDATE_name, E_s_VALIDATE_name, F_s_HITS_name_coder, F_s_HITS_name_value, F_s_RESULTS_name_coder, F_s_RESULTS_name_value, F_s_VALIDATE_name_coder, F_s_VALIDATE_name_value, ne_s_HITS_name_s_RESULTS_name, ne_s_HITS_name_s_VALIDATE_name, ne_s_RESULTS_name_s_VALIDATE_name, S_DEFAULTCAPACITY_EMPTY_ELEMENTDATA, E_s_DEFAULTCAPACITY_EMPTY_ELEMENTDATA, S_COMPACT_STRINGS, hne_s_COMPACT_STRINGS_0, V_s__VALUES, V_s_HITS_name_value, V_s_RESULTS_name_value, V_s_VALIDATE_name_value, V_s_DEFAULTCAPACITY_EMPTY_ELEMENTDATA⟩ := id G
  have N0 := Fr.nil Z.heap.size
  have K0 : Keep h0 h0 [] := Keep.refl _ _
  refine Go.of (T' := T0) (f' := (mkF m 1 #[.val (.ref s_RESULTS_name), .val (.ref cb), .unset] [(.ref s_RESULTS_name)])) (fun _ k => XS.aloadN X0.here hx rfl (hb hby d_jdk_42_method_66_code_0) rfl rfl k) ?_
  refine Go.of (T' := T0) (f' := (mkF m 2 #[.val (.ref s_RESULTS_name), .val (.ref cb), .unset] [(.ref cb), (.ref s_RESULTS_name)])) (fun _ k => XS.aloadN X0.here hx rfl (hb hby d_jdk_42_method_66_code_1) rfl rfl k) ?_
  by_cases hc305 : s_RESULTS_name = cb
  · skip
    refine Go.of (T' := T0) (f' := (mkF m 5 #[.val (.ref s_RESULTS_name), .val (.ref cb), .unset] [])) (fun _ k => Jvm.RoadKit.acmp (g := (mkF m 2 #[.val (.ref s_RESULTS_name), .val (.ref cb), .unset] [(.ref cb), (.ref s_RESULTS_name)])) X0 hx rfl rfl rfl (pc0 := 2) (pc' := 5) (same := true) rfl (hb hby d_jdk_42_method_66_code_2) rfl (decide_eq_true (congrArg Value.ref hc305)) (by decide) (by decide) k) ?_
    refine Go.of (T' := T0) (f' := (mkF m 6 #[.val (.ref s_RESULTS_name), .val (.ref cb), .unset] [(.int (1 : Int32))])) (fun _ k => XS.iconst X0.here hx rfl (hb hby d_jdk_42_method_66_code_5) k) ?_
    exact Go.retB X0 hx hlk hret (by simp) (hb hby d_jdk_42_method_66_code_6) (by decide) (by decide) (z' := (1 : Int32)) rfl (by rw [e0]; exact ⟨rfl, rfl, by simp⟩)
  · skip
    refine Go.of (T' := T0) (f' := (mkF m 7 #[.val (.ref s_RESULTS_name), .val (.ref cb), .unset] [])) (fun _ k => Jvm.RoadKit.acmp (g := (mkF m 2 #[.val (.ref s_RESULTS_name), .val (.ref cb), .unset] [(.ref cb), (.ref s_RESULTS_name)])) X0 hx rfl rfl rfl (pc0 := 2) (pc' := 7) (same := false) rfl (hb hby d_jdk_42_method_66_code_2) rfl (decide_eq_false fun q => hc305 (Value.ref.inj q)) (by decide) (by decide) k) ?_
    refine Go.of (T' := T0) (f' := (mkF m 8 #[.val (.ref s_RESULTS_name), .val (.ref cb), .unset] [(.ref cb)])) (fun _ k => XS.aloadN X0.here hx rfl (hb hby d_jdk_42_method_66_code_7) rfl rfl k) ?_
    obtain ⟨T306, X306, e306, st306⟩ := instY X0 hx hZ hown (hw _ (List.mem_of_getElem? (i := 102) rfl)) e0 (Ins.self prem0) (g := (mkF m 8 #[.val (.ref s_RESULTS_name), .val (.ref cb), .unset] [(.ref cb)])) rfl rfl (hb hby d_jdk_42_method_66_code_8)
    refine Go.of (T' := T306) (f' := (mkF m 11 #[.val (.ref s_RESULTS_name), .val (.ref cb), .unset] [(.int (1 : Int32))])) (fun _ k => st306 _ k) ?_
    refine Go.of (T' := T306) (f' := (mkF m 14 #[.val (.ref s_RESULTS_name), .val (.ref cb), .unset] [])) (fun _ k => XS.ifNo X306.here hx rfl (hb hby d_jdk_42_method_66_code_11) rfl ((if0 _ _).trans (feq (by decide : ¬ ((1 : Int32) = (0 : Int32)))).1) k) ?_
    refine Go.of (T' := T306) (f' := (mkF m 15 #[.val (.ref s_RESULTS_name), .val (.ref cb), .unset] [(.ref cb)])) (fun _ k => XS.aloadN X306.here hx rfl (hb hby d_jdk_42_method_66_code_14) rfl rfl k) ?_
    obtain ⟨T308, X308, e308, st308⟩ := castY X306 hx hZ hown (hw _ (List.mem_of_getElem? (i := 102) rfl)) e306 (Ins.self prem0) (g := (mkF m 15 #[.val (.ref s_RESULTS_name), .val (.ref cb), .unset] [(.ref cb)])) rfl rfl (hb hby d_jdk_42_method_66_code_15)
    refine Go.of (T' := T308) (f' := (mkF m 18 #[.val (.ref s_RESULTS_name), .val (.ref cb), .unset] [(.ref cb)])) (fun _ k => st308 _ k) ?_
    refine Go.of (T' := T308) (f' := (mkF m 19 #[.val (.ref s_RESULTS_name), .val (.ref cb), .val (.ref cb)] [])) (fun _ k => XS.astoreN X308.here hx rfl (hb hby d_jdk_42_method_66_code_18) rfl rfl (l' := #[.val (.ref s_RESULTS_name), .val (.ref cb), .val (.ref cb)]) rfl k) ?_
    obtain ⟨T309, X309, e309, st309⟩ := getS2 X308 hx hZ hown (host := "") (Or.inl (hw _ (List.mem_of_getElem? (i := 97) rfl))) Via.refl e308 (Sta.ext O0 S_COMPACT_STRINGS) (g := (mkF m 19 #[.val (.ref s_RESULTS_name), .val (.ref cb), .val (.ref cb)] [])) rfl (hb hby d_jdk_42_method_66_code_19)
    refine Go.of (T' := T309) (f' := (mkF m 22 #[.val (.ref s_RESULTS_name), .val (.ref cb), .val (.ref cb)] [(.int s_COMPACT_STRINGS)])) (fun _ k => st309 _ k) ?_
    have hc310 : ¬ (s_COMPACT_STRINGS = (0 : Int32)) := hne_s_COMPACT_STRINGS_0
    refine Go.of (T' := T309) (f' := (mkF m 25 #[.val (.ref s_RESULTS_name), .val (.ref cb), .val (.ref cb)] [])) (fun _ k => XS.ifNo X309.here hx rfl (hb hby d_jdk_42_method_66_code_22) rfl ((if0 _ _).trans (feq hc310).1) k) ?_
    refine Go.of (T' := T309) (f' := (mkF m 26 #[.val (.ref s_RESULTS_name), .val (.ref cb), .val (.ref cb)] [(.ref s_RESULTS_name)])) (fun _ k => XS.aloadN X309.here hx rfl (hb hby d_jdk_42_method_66_code_25) rfl rfl k) ?_
    obtain ⟨T311, X311, e311, st311⟩ := getF X309 hx hZ hown (host := "") (Or.inl (hw _ (List.mem_of_getElem? (i := 115) rfl))) Via.refl e309 (Fld.ext O0 F_s_RESULTS_name_coder) (g := (mkF m 26 #[.val (.ref s_RESULTS_name), .val (.ref cb), .val (.ref cb)] [(.ref s_RESULTS_name)])) rfl rfl (hb hby d_jdk_42_method_66_code_26)
    refine Go.of (T' := T311) (f' := (mkF m 29 #[.val (.ref s_RESULTS_name), .val (.ref cb), .val (.ref cb)] [(.int (0 : Int32))])) (fun _ k => st311 _ k) ?_
    refine Go.of (T' := T311) (f' := (mkF m 30 #[.val (.ref s_RESULTS_name), .val (.ref cb), .val (.ref cb)] [(.ref cb), (.int (0 : Int32))])) (fun _ k => XS.aloadN X311.here hx rfl (hb hby d_jdk_42_method_66_code_29) rfl rfl k) ?_
    obtain ⟨T312, X312, e312, st312⟩ := getF X311 hx hZ hown (host := "") (Or.inl (hw _ (List.mem_of_getElem? (i := 115) rfl))) Via.refl e311 prem1 (g := (mkF m 30 #[.val (.ref s_RESULTS_name), .val (.ref cb), .val (.ref cb)] [(.ref cb), (.int (0 : Int32))])) rfl rfl (hb hby d_jdk_42_method_66_code_30)
    refine Go.of (T' := T312) (f' := (mkF m 33 #[.val (.ref s_RESULTS_name), .val (.ref cb), .val (.ref cb)] [(.int (0 : Int32)), (.int (0 : Int32))])) (fun _ k => st312 _ k) ?_
    refine Go.of (T' := T312) (f' := (mkF m 36 #[.val (.ref s_RESULTS_name), .val (.ref cb), .val (.ref cb)] [])) (fun _ k => XS.icmpNo X312.here hx rfl (hb hby d_jdk_42_method_66_code_33) rfl (teq (by decide : (0 : Int32) = (0 : Int32))).2 k) ?_
    refine Go.of (T' := T312) (f' := (mkF m 37 #[.val (.ref s_RESULTS_name), .val (.ref cb), .val (.ref cb)] [(.ref s_RESULTS_name)])) (fun _ k => XS.aloadN X312.here hx rfl (hb hby d_jdk_42_method_66_code_36) rfl rfl k) ?_
    obtain ⟨T314, X314, e314, st314⟩ := getF X312 hx hZ hown (host := "") (Or.inl (hw _ (List.mem_of_getElem? (i := 113) rfl))) Via.refl e312 (Fld.ext O0 F_s_RESULTS_name_value) (g := (mkF m 37 #[.val (.ref s_RESULTS_name), .val (.ref cb), .val (.ref cb)] [(.ref s_RESULTS_name)])) rfl rfl (hb hby d_jdk_42_method_66_code_37)
    refine Go.of (T' := T314) (f' := (mkF m 40 #[.val (.ref s_RESULTS_name), .val (.ref cb), .val (.ref cb)] [(.ref s_RESULTS_name_value)])) (fun _ k => st314 _ k) ?_
    refine Go.of (T' := T314) (f' := (mkF m 41 #[.val (.ref s_RESULTS_name), .val (.ref cb), .val (.ref cb)] [(.ref cb), (.ref s_RESULTS_name_value)])) (fun _ k => XS.aloadN X314.here hx rfl (hb hby d_jdk_42_method_66_code_40) rfl rfl k) ?_
    obtain ⟨T315, X315, e315, st315⟩ := getF X314 hx hZ hown (host := "") (Or.inl (hw _ (List.mem_of_getElem? (i := 113) rfl))) Via.refl e314 prem2 (g := (mkF m 41 #[.val (.ref s_RESULTS_name), .val (.ref cb), .val (.ref cb)] [(.ref cb), (.ref s_RESULTS_name_value)])) rfl rfl (hb hby d_jdk_42_method_66_code_41)
    refine Go.of (T' := T315) (f' := (mkF m 44 #[.val (.ref s_RESULTS_name), .val (.ref cb), .val (.ref cb)] [(.ref vb), (.ref s_RESULTS_name_value)])) (fun _ k => st315 _ k) ?_
    obtain ⟨T316, v316, L316, X316, q316, st316⟩ := callSt X315 hx hZ (y := (⟨"java/lang/StringLatin1", "equals", "([B[B)Z"⟩ : MethodName)) hown (hw _ (List.mem_of_getElem? (i := 148) rfl)) (hw _ (List.mem_of_getElem? (i := 149) rfl)) (hw _ (List.mem_of_getElem? (i := 100) rfl)) (hw _ (List.mem_of_getElem? (i := 150) rfl)) (by decide) (rm_l1eq1 hw G s_RESULTS_name_value vb cl_s_RESULTS_name_value.cls kb h0 O0 (Arv.ext V_s_RESULTS_name_value O0) prem3) e315 (W := 0) (by decide) (by decide) (by decide) (by decide) (g := (mkF m 44 #[.val (.ref s_RESULTS_name), .val (.ref cb), .val (.ref cb)] [(.ref vb), (.ref s_RESULTS_name_value)])) rfl (by rw [hml]; rfl) (argsL := [(.ref s_RESULTS_name_value), (.ref vb)]) (rest := []) (lenOf pd___B_B_Z rfl) rfl rfl (by show 2 * 0 + _ ≤ _; exact Nat.le_of_eq rfl) (hb hby d_jdk_42_method_66_code_44)
    obtain ⟨rfl, e316, rfl⟩ := q316
    have N316 := Fr.app N0 (Fr.nil _)
    refine Go.of (T' := T316) (f' := (mkF m 47 #[.val (.ref s_RESULTS_name), .val (.ref cb), .val (.ref cb)] [(.int (1 : Int32))])) (fun _ k => st316 _ k) ?_
    refine Go.of (T' := T316) (f' := (mkF m 50 #[.val (.ref s_RESULTS_name), .val (.ref cb), .val (.ref cb)] [])) (fun _ k => XS.ifNo X316.here hx rfl (hb hby d_jdk_42_method_66_code_47) rfl ((if0 _ _).trans (feq (by decide : ¬ ((1 : Int32) = (0 : Int32)))).1) k) ?_
    refine Go.of (T' := T316) (f' := (mkF m 51 #[.val (.ref s_RESULTS_name), .val (.ref cb), .val (.ref cb)] [(.int (1 : Int32))])) (fun _ k => XS.iconst X316.here hx rfl (hb hby d_jdk_42_method_66_code_50) k) ?_
    refine Go.of (T' := T316) (f' := (mkF m 55 #[.val (.ref s_RESULTS_name), .val (.ref cb), .val (.ref cb)] [(.int (1 : Int32))])) (fun _ k => XS.goto X316.here hx rfl (pc0 := 51) (pc' := 55) rfl (hb hby d_jdk_42_method_66_code_51) (by decide) (by decide) k) ?_
    exact Go.retB X316 hx hlk hret (by simp) (hb hby d_jdk_42_method_66_code_55) (by decide) (by decide) (z' := (1 : Int32)) rfl (by rw [e316]; exact ⟨rfl, rfl, by simp⟩)
theorem ef_rm_eqs1 (m : MethodId) (s_RESULTS_name : Addr) (s_RESULTS_name : Addr) : entryFrame m #[(.ref s_RESULTS_name), (.ref s_RESULTS_name)] 3 = mkF m 0 #[.val (.ref s_RESULTS_name), .val (.ref s_RESULTS_name), .unset] [] := by first | (simp [entryFrame, mkF, argsToLocals, Value.category]; done) | rfl
set_option maxRecDepth 65536 in
set_option maxHeartbeats 40000000 in
theorem rm_eqs1 {l : Launch} {Z : State} {a0 : Array Value} {s__VALUES : Addr} {s_HITS : Addr} {s_RESULTS : Addr} {s_VALIDATE : Addr} {s_HITS_name : Addr} {s_RESULTS_name : Addr} {s_VALIDATE_name : Addr} {s_HITS_name_value : Addr} {s_RESULTS_name_value : Addr} {s_VALIDATE_name_value : Addr} {s_DEFAULTCAPACITY_EMPTY_ELEMENTDATA : Addr} {s_COMPACT_STRINGS : Int32} {cl_s__VALUES : Cell} {cl_s_HITS_name_value : Cell} {cl_s_RESULTS_name_value : Cell} {cl_s_VALIDATE_name_value : Cell} {cl_s_DEFAULTCAPACITY_EMPTY_ELEMENTDATA : Cell} (hw : ∀ d ∈ tables_1, d.before a0 Z = true) (G : own_Ctx Z s__VALUES s_HITS s_RESULTS s_VALIDATE s_HITS_name s_RESULTS_name s_VALIDATE_name s_HITS_name_value s_RESULTS_name_value s_VALIDATE_name_value s_DEFAULTCAPACITY_EMPTY_ELEMENTDATA s_COMPACT_STRINGS cl_s__VALUES cl_s_HITS_name_value cl_s_RESULTS_name_value cl_s_VALIDATE_name_value cl_s_DEFAULTCAPACITY_EMPTY_ELEMENTDATA)   (h0 : Heap) (O0 : Ext Z.heap h0)  :
    Ok l Z (⟨"java/lang/String", "equals", "(Ljava/lang/Object;)Z"⟩ : MethodName) jdk_42_method_66_code 3 (some .boolean) ({ frames := 0, cells := 0, slots := 0, locals := 0 } : Room) #[(.ref s_RESULTS_name), (.ref s_RESULTS_name)] h0
      (fun v h L => v = some (.int (1 : Int32)) ∧ (h = h0) ∧ (L = [])) := by
  refine Ok.mk pn_java_lang_String_equals__Ljava_lang_Object__Z ?_
  intro p e s m below meth c T0 hx hby hml hown hnm hret hlk hZ e0 X0
  refine Go.cast (ef_rm_eqs1 m s_RESULTS_name s_RESULTS_name) ?_
  obtain ⟨S__VALUES, E_s__VALUES, S_HITS, E_s_HITS, S_RESULTS, E_s_RESULTS, S_VALIDATE, E_s_VALIDATE, F_s_HITS_name, E_s_HITS_name, F_s_RESULTS_name, E_s_RESULTS_name, F_s_VALIDATE_name, E_s_VALIDATE_name, F_s_HITS_name_coder, F_s_HITS_name_value, F_s_RESULTS_name_coder, F_s_RESULTS_name_value, F_s_VALIDATE_name_coder, F_s_VALIDATE_name_value, ne_s_HITS_name_s_RESULTS_name, ne_s_HITS_name_s_VALIDATE_name, ne_s_RESULTS_name_s_VALIDATE_name, S_DEFAULTCAPACITY_EMPTY_ELEMENTDATA, E_s_DEFAULTCAPACITY_EMPTY_ELEMENTDATA, S_COMPACT_STRINGS, hne_s_COMPACT_STRINGS_0, V_s__VALUES, V_s_HITS_name_value, V_s_RESULTS_name_value, V_s_VALIDATE_name_value, V_s_DEFAULTCAPACITY_EMPTY_ELEMENTDATA⟩ := id G
  have N0 := Fr.nil Z.heap.size
  have K0 : Keep h0 h0 [] := Keep.refl _ _
  refine Go.of (T' := T0) (f' := (mkF m 1 #[.val (.ref s_RESULTS_name), .val (.ref s_RESULTS_name), .unset] [(.ref s_RESULTS_name)])) (fun _ k => XS.aloadN X0.here hx rfl (hb hby d_jdk_42_method_66_code_0) rfl rfl k) ?_
  refine Go.of (T' := T0) (f' := (mkF m 2 #[.val (.ref s_RESULTS_name), .val (.ref s_RESULTS_name), .unset] [(.ref s_RESULTS_name), (.ref s_RESULTS_name)])) (fun _ k => XS.aloadN X0.here hx rfl (hb hby d_jdk_42_method_66_code_1) rfl rfl k) ?_
  refine Go.of (T' := T0) (f' := (mkF m 5 #[.val (.ref s_RESULTS_name), .val (.ref s_RESULTS_name), .unset] [])) (fun _ k => Jvm.RoadKit.acmp (g := (mkF m 2 #[.val (.ref s_RESULTS_name), .val (.ref s_RESULTS_name), .unset] [(.ref s_RESULTS_name), (.ref s_RESULTS_name)])) X0 hx rfl rfl rfl (pc0 := 2) (pc' := 5) (same := true) rfl (hb hby d_jdk_42_method_66_code_2) rfl (decide_eq_true rfl) (by decide) (by decide) k) ?_
  refine Go.of (T' := T0) (f' := (mkF m 6 #[.val (.ref s_RESULTS_name), .val (.ref s_RESULTS_name), .unset] [(.int (1 : Int32))])) (fun _ k => XS.iconst X0.here hx rfl (hb hby d_jdk_42_method_66_code_5) k) ?_
  exact Go.retB X0 hx hlk hret (by simp) (hb hby d_jdk_42_method_66_code_6) (by decide) (by decide) (z' := (1 : Int32)) rfl (by rw [e0]; exact ⟨rfl, rfl, by simp⟩)
theorem ef_rm_pci2 (m : MethodId)  : entryFrame m #[(.int (2 : Int32)), (.int (3 : Int32)), .null] 3 = mkF m 0 #[.val (.int (2 : Int32)), .val (.int (3 : Int32)), .val .null] [] := by first | (simp [entryFrame, mkF, argsToLocals, Value.category]; done) | rfl
set_option maxRecDepth 65536 in
set_option maxHeartbeats 40000000 in
theorem rm_pci2 {l : Launch} {Z : State} {a0 : Array Value} {s__VALUES : Addr} {s_HITS : Addr} {s_RESULTS : Addr} {s_VALIDATE : Addr} {s_HITS_name : Addr} {s_RESULTS_name : Addr} {s_VALIDATE_name : Addr} {s_HITS_name_value : Addr} {s_RESULTS_name_value : Addr} {s_VALIDATE_name_value : Addr} {s_DEFAULTCAPACITY_EMPTY_ELEMENTDATA : Addr} {s_COMPACT_STRINGS : Int32} {cl_s__VALUES : Cell} {cl_s_HITS_name_value : Cell} {cl_s_RESULTS_name_value : Cell} {cl_s_VALIDATE_name_value : Cell} {cl_s_DEFAULTCAPACITY_EMPTY_ELEMENTDATA : Cell} (hw : ∀ d ∈ tables_1, d.before a0 Z = true) (G : own_Ctx Z s__VALUES s_HITS s_RESULTS s_VALIDATE s_HITS_name s_RESULTS_name s_VALIDATE_name s_HITS_name_value s_RESULTS_name_value s_VALIDATE_name_value s_DEFAULTCAPACITY_EMPTY_ELEMENTDATA s_COMPACT_STRINGS cl_s__VALUES cl_s_HITS_name_value cl_s_RESULTS_name_value cl_s_VALIDATE_name_value cl_s_DEFAULTCAPACITY_EMPTY_ELEMENTDATA)   (h0 : Heap) (O0 : Ext Z.heap h0)  :
    Ok l Z (⟨"jdk/internal/util/Preconditions", "checkIndex", "(IILjava/util/function/BiFunction;)I"⟩ : MethodName) jdk_41_method_11_code 3 (some .int) ({ frames := 0, cells := 0, slots := 0, locals := 0 } : Room) #[(.int (2 : Int32)), (.int (3 : Int32)), .null] h0
      (fun v h L => v = some (.int (2 : Int32)) ∧ (h = h0) ∧ (L = [])) := by
  refine Ok.mk pn_jdk_internal_util_Preconditions_checkIndex__IILjava_util_function_BiFunction__I ?_
  intro p e s m below meth c T0 hx hby hml hown hnm hret hlk hZ e0 X0
  refine Go.cast (ef_rm_pci2 m ) ?_
  obtain ⟨S__VALUES, E_s__VALUES, S_HITS, E_s_HITS, S_RESULTS, E_s_RESULTS, S_VALIDATE, E_s_VALIDATE, F_s_HITS_name, E_s_HITS_name, F_s_RESULTS_name, E_s_RESULTS_name, F_s_VALIDATE_name, E_s_VALIDATE_name, F_s_HITS_name_coder, F_s_HITS_name_value, F_s_RESULTS_name_coder, F_s_RESULTS_name_value, F_s_VALIDATE_name_coder, F_s_VALIDATE_name_value, ne_s_HITS_name_s_RESULTS_name, ne_s_HITS_name_s_VALIDATE_name, ne_s_RESULTS_name_s_VALIDATE_name, S_DEFAULTCAPACITY_EMPTY_ELEMENTDATA, E_s_DEFAULTCAPACITY_EMPTY_ELEMENTDATA, S_COMPACT_STRINGS, hne_s_COMPACT_STRINGS_0, V_s__VALUES, V_s_HITS_name_value, V_s_RESULTS_name_value, V_s_VALIDATE_name_value, V_s_DEFAULTCAPACITY_EMPTY_ELEMENTDATA⟩ := id G
  have N0 := Fr.nil Z.heap.size
  have K0 : Keep h0 h0 [] := Keep.refl _ _
  refine Go.of (T' := T0) (f' := (mkF m 1 #[.val (.int (2 : Int32)), .val (.int (3 : Int32)), .val .null] [(.int (2 : Int32))])) (fun _ k => XS.iloadN X0.here hx rfl (hb hby d_jdk_41_method_11_code_0) rfl k) ?_
  refine Go.of (T' := T0) (f' := (mkF m 4 #[.val (.int (2 : Int32)), .val (.int (3 : Int32)), .val .null] [])) (fun _ k => XS.ifNo X0.here hx rfl (hb hby d_jdk_41_method_11_code_1) rfl ((if0 _ _).trans (flt (by decide : ¬ ((2 : Int32) < (0 : Int32)))).1) k) ?_
  refine Go.of (T' := T0) (f' := (mkF m 5 #[.val (.int (2 : Int32)), .val (.int (3 : Int32)), .val .null] [(.int (2 : Int32))])) (fun _ k => XS.iloadN X0.here hx rfl (hb hby d_jdk_41_method_11_code_4) rfl k) ?_
  refine Go.of (T' := T0) (f' := (mkF m 6 #[.val (.int (2 : Int32)), .val (.int (3 : Int32)), .val .null] [(.int (3 : Int32)), (.int (2 : Int32))])) (fun _ k => XS.iloadN X0.here hx rfl (hb hby d_jdk_41_method_11_code_5) rfl k) ?_
  refine Go.of (T' := T0) (f' := (mkF m 16 #[.val (.int (2 : Int32)), .val (.int (3 : Int32)), .val .null] [])) (fun _ k => XS.icmpYes X0.here hx rfl (pc0 := 6) (pc' := 16) rfl (hb hby d_jdk_41_method_11_code_6) rfl (tlt (by decide : (2 : Int32) < (3 : Int32))).1 (by decide) (by decide) k) ?_
  refine Go.of (T' := T0) (f' := (mkF m 17 #[.val (.int (2 : Int32)), .val (.int (3 : Int32)), .val .null] [(.int (2 : Int32))])) (fun _ k => XS.iloadN X0.here hx rfl (hb hby d_jdk_41_method_11_code_16) rfl k) ?_
  exact Go.retI X0 hx hlk hret (hb hby d_jdk_41_method_11_code_17) (by decide) (by decide) (by rw [e0]; exact ⟨rfl, rfl, by simp⟩)
theorem ef_rm_oci2 (m : MethodId)  : entryFrame m #[(.int (2 : Int32)), (.int (3 : Int32))] 2 = mkF m 0 #[.val (.int (2 : Int32)), .val (.int (3 : Int32))] [] := by first | (simp [entryFrame, mkF, argsToLocals, Value.category]; done) | rfl
set_option maxRecDepth 65536 in
set_option maxHeartbeats 40000000 in
theorem rm_oci2 {l : Launch} {Z : State} {a0 : Array Value} {s__VALUES : Addr} {s_HITS : Addr} {s_RESULTS : Addr} {s_VALIDATE : Addr} {s_HITS_name : Addr} {s_RESULTS_name : Addr} {s_VALIDATE_name : Addr} {s_HITS_name_value : Addr} {s_RESULTS_name_value : Addr} {s_VALIDATE_name_value : Addr} {s_DEFAULTCAPACITY_EMPTY_ELEMENTDATA : Addr} {s_COMPACT_STRINGS : Int32} {cl_s__VALUES : Cell} {cl_s_HITS_name_value : Cell} {cl_s_RESULTS_name_value : Cell} {cl_s_VALIDATE_name_value : Cell} {cl_s_DEFAULTCAPACITY_EMPTY_ELEMENTDATA : Cell} (hw : ∀ d ∈ tables_1, d.before a0 Z = true) (G : own_Ctx Z s__VALUES s_HITS s_RESULTS s_VALIDATE s_HITS_name s_RESULTS_name s_VALIDATE_name s_HITS_name_value s_RESULTS_name_value s_VALIDATE_name_value s_DEFAULTCAPACITY_EMPTY_ELEMENTDATA s_COMPACT_STRINGS cl_s__VALUES cl_s_HITS_name_value cl_s_RESULTS_name_value cl_s_VALIDATE_name_value cl_s_DEFAULTCAPACITY_EMPTY_ELEMENTDATA)   (h0 : Heap) (O0 : Ext Z.heap h0)  :
    Ok l Z (⟨"java/util/Objects", "checkIndex", "(II)I"⟩ : MethodName) jdk_31_method_17_code 2 (some .int) ({ frames := 1, cells := 0, slots := 0, locals := 14 } : Room) #[(.int (2 : Int32)), (.int (3 : Int32))] h0
      (fun v h L => v = some (.int (2 : Int32)) ∧ (h = h0) ∧ (L = [])) := by
  refine Ok.mk pn_java_util_Objects_checkIndex__II_I ?_
  intro p e s m below meth c T0 hx hby hml hown hnm hret hlk hZ e0 X0
  refine Go.cast (ef_rm_oci2 m ) ?_
  obtain ⟨S__VALUES, E_s__VALUES, S_HITS, E_s_HITS, S_RESULTS, E_s_RESULTS, S_VALIDATE, E_s_VALIDATE, F_s_HITS_name, E_s_HITS_name, F_s_RESULTS_name, E_s_RESULTS_name, F_s_VALIDATE_name, E_s_VALIDATE_name, F_s_HITS_name_coder, F_s_HITS_name_value, F_s_RESULTS_name_coder, F_s_RESULTS_name_value, F_s_VALIDATE_name_coder, F_s_VALIDATE_name_value, ne_s_HITS_name_s_RESULTS_name, ne_s_HITS_name_s_VALIDATE_name, ne_s_RESULTS_name_s_VALIDATE_name, S_DEFAULTCAPACITY_EMPTY_ELEMENTDATA, E_s_DEFAULTCAPACITY_EMPTY_ELEMENTDATA, S_COMPACT_STRINGS, hne_s_COMPACT_STRINGS_0, V_s__VALUES, V_s_HITS_name_value, V_s_RESULTS_name_value, V_s_VALIDATE_name_value, V_s_DEFAULTCAPACITY_EMPTY_ELEMENTDATA⟩ := id G
  have N0 := Fr.nil Z.heap.size
  have K0 : Keep h0 h0 [] := Keep.refl _ _
  refine Go.of (T' := T0) (f' := (mkF m 1 #[.val (.int (2 : Int32)), .val (.int (3 : Int32))] [(.int (2 : Int32))])) (fun _ k => XS.iloadN X0.here hx rfl (hb hby d_jdk_31_method_17_code_0) rfl k) ?_
  refine Go.of (T' := T0) (f' := (mkF m 2 #[.val (.int (2 : Int32)), .val (.int (3 : Int32))] [(.int (3 : Int32)), (.int (2 : Int32))])) (fun _ k => XS.iloadN X0.here hx rfl (hb hby d_jdk_31_method_17_code_1) rfl k) ?_
  refine Go.of (T' := T0) (f' := (mkF m 3 #[.val (.int (2 : Int32)), .val (.int (3 : Int32))] [.null, (.int (3 : Int32)), (.int (2 : Int32))])) (fun _ k => XS.aconstNull X0.here hx rfl (hb hby d_jdk_31_method_17_code_2) k) ?_
  obtain ⟨T321, v321, L321, X321, q321, st321⟩ := callSt X0 hx hZ (y := (⟨"jdk/internal/util/Preconditions", "checkIndex", "(IILjava/util/function/BiFunction;)I"⟩ : MethodName)) hown (hw _ (List.mem_of_getElem? (i := 130) rfl)) (hw _ (List.mem_of_getElem? (i := 131) rfl)) (hw _ (List.mem_of_getElem? (i := 132) rfl)) (hw _ (List.mem_of_getElem? (i := 133) rfl)) (by decide) (rm_pci2 hw G   h0 O0 ) e0 (W := 0) (by decide) (by decide) (by decide) (by decide) (g := (mkF m 3 #[.val (.int (2 : Int32)), .val (.int (3 : Int32))] [.null, (.int (3 : Int32)), (.int (2 : Int32))])) rfl (by rw [hml]; rfl) (argsL := [(.int (2 : Int32)), (.int (3 : Int32)), .null]) (rest := []) (lenOf pd__IILjava_util_function_BiFunction__I rfl) rfl rfl (by show 2 * 0 + _ ≤ _; exact Nat.le_of_eq rfl) (hb hby d_jdk_31_method_17_code_3)
  obtain ⟨rfl, e321, rfl⟩ := q321
  have N321 := Fr.app N0 (Fr.nil _)
  refine Go.of (T' := T321) (f' := (mkF m 6 #[.val (.int (2 : Int32)), .val (.int (3 : Int32))] [(.int (2 : Int32))])) (fun _ k => st321 _ k) ?_
  exact Go.retI X321 hx hlk hret (hb hby d_jdk_31_method_17_code_6) (by decide) (by decide) (by rw [e321]; exact ⟨rfl, rfl, by simp⟩)
theorem ef_rm_eldat2 (m : MethodId) (ob : Addr) : entryFrame m #[(.ref ob), (.int (2 : Int32))] 2 = mkF m 0 #[.val (.ref ob), .val (.int (2 : Int32))] [] := by first | (simp [entryFrame, mkF, argsToLocals, Value.category]; done) | rfl
set_option maxRecDepth 65536 in
set_option maxHeartbeats 40000000 in
theorem rm_eldat2 {l : Launch} {Z : State} {a0 : Array Value} {s__VALUES : Addr} {s_HITS : Addr} {s_RESULTS : Addr} {s_VALIDATE : Addr} {s_HITS_name : Addr} {s_RESULTS_name : Addr} {s_VALIDATE_name : Addr} {s_HITS_name_value : Addr} {s_RESULTS_name_value : Addr} {s_VALIDATE_name_value : Addr} {s_DEFAULTCAPACITY_EMPTY_ELEMENTDATA : Addr} {s_COMPACT_STRINGS : Int32} {cl_s__VALUES : Cell} {cl_s_HITS_name_value : Cell} {cl_s_RESULTS_name_value : Cell} {cl_s_VALIDATE_name_value : Cell} {cl_s_DEFAULTCAPACITY_EMPTY_ELEMENTDATA : Cell} (hw : ∀ d ∈ tables_1, d.before a0 Z = true) (G : own_Ctx Z s__VALUES s_HITS s_RESULTS s_VALIDATE s_HITS_name s_RESULTS_name s_VALIDATE_name s_HITS_name_value s_RESULTS_name_value s_VALIDATE_name_value s_DEFAULTCAPACITY_EMPTY_ELEMENTDATA s_COMPACT_STRINGS cl_s__VALUES cl_s_HITS_name_value cl_s_RESULTS_name_value cl_s_VALIDATE_name_value cl_s_DEFAULTCAPACITY_EMPTY_ELEMENTDATA) (ob : Addr) (ar : Addr) (kr : ClassId) (el0 : Addr) (el1 : Addr) (el2 : Addr) (h0 : Heap) (O0 : Ext Z.heap h0) (prem0 : Fld Z h0 ob "java/util/ArrayList" "elementData" "[Ljava/lang/Object;" (.ref ar)) (prem1 : Arv Z h0 ar kr (.object "java/lang/Object") (10 : Int32) [(.ref el0), (.ref el1), (.ref el2), .null, .null, .null, .null, .null, .null, .null] .null) :
    Ok l Z (⟨"java/util/ArrayList", "elementData", "(I)Ljava/lang/Object;"⟩ : MethodName) jdk_38_method_18_code 2 (some (.object "java/lang/Object")) ({ frames := 0, cells := 0, slots := 0, locals := 0 } : Room) #[(.ref ob), (.int (2 : Int32))] h0
      (fun v h L => v = some (.ref el2) ∧ (h = h0) ∧ (L = [])) := by
  refine Ok.mk pn_java_util_ArrayList_elementData__I_Ljava_lang_Object_ ?_
  intro p e s m below meth c T0 hx hby hml hown hnm hret hlk hZ e0 X0
  refine Go.cast (ef_rm_eldat2 m ob) ?_
  obtain ⟨S__VALUES, E_s__VALUES, S_HITS, E_s_HITS, S_RESULTS, E_s_RESULTS, S_VALIDATE, E_s_VALIDATE, F_s_HITS_name, E_s_HITS_name, F_s_RESULTS_name, E_s_RESULTS_name, F_s_VALIDATE_name, E_s_VALIDATE_name, F_s_HITS_name_coder, F_s_HITS_name_value, F_s_RESULTS_name_coder, F_s_RESULTS_name_value, F_s_VALIDATE_name_coder, F_s_VALIDATE_name_value, ne_s_HITS_name_s_RESULTS_name, ne_s_HITS_name_s_VALIDATE_name, ne_s_RESULTS_name_s_VALIDATE_name, S_DEFAULTCAPACITY_EMPTY_ELEMENTDATA, E_s_DEFAULTCAPACITY_EMPTY_ELEMENTDATA, S_COMPACT_STRINGS, hne_s_COMPACT_STRINGS_0, V_s__VALUES, V_s_HITS_name_value, V_s_RESULTS_name_value, V_s_VALIDATE_name_value, V_s_DEFAULTCAPACITY_EMPTY_ELEMENTDATA⟩ := id G
  have N0 := Fr.nil Z.heap.size
  have K0 : Keep h0 h0 [] := Keep.refl _ _
  refine Go.of (T' := T0) (f' := (mkF m 1 #[.val (.ref ob), .val (.int (2 : Int32))] [(.ref ob)])) (fun _ k => XS.aloadN X0.here hx rfl (hb hby d_jdk_38_method_18_code_0) rfl rfl k) ?_
  obtain ⟨T322, X322, e322, st322⟩ := getF X0 hx hZ hown (host := "") (Or.inl (hw _ (List.mem_of_getElem? (i := 28) rfl))) Via.refl e0 prem0 (g := (mkF m 1 #[.val (.ref ob), .val (.int (2 : Int32))] [(.ref ob)])) rfl rfl (hb hby d_jdk_38_method_18_code_1)
  refine Go.of (T' := T322) (f' := (mkF m 4 #[.val (.ref ob), .val (.int (2 : Int32))] [(.ref ar)])) (fun _ k => st322 _ k) ?_
  refine Go.of (T' := T322) (f' := (mkF m 5 #[.val (.ref ob), .val (.int (2 : Int32))] [(.int (2 : Int32)), (.ref ar)])) (fun _ k => XS.iloadN X322.here hx rfl (hb hby d_jdk_38_method_18_code_4) rfl k) ?_
  obtain ⟨cl323, Ar323, qk323, S323, Ng323, H323, G323⟩ := id prem1
  have hin323 := inb_of (j := (2 : Int32)) S323 ⟨by decide, by decide⟩
  refine Go.of (T' := T322) (f' := (mkF m 6 #[.val (.ref ob), .val (.int (2 : Int32))] [(.ref el2)])) (fun _ k => X322.aaload hx (j := (2 : Int32)) (v := (.ref el2)) (by rw [e322]; exact Ar323.1) (State.isArrayOf_alike hZ.alike Ar323.2.1) rfl Ar323.2.2 hin323 (H323.at hin323 rfl) (g := (mkF m 5 #[.val (.ref ob), .val (.int (2 : Int32))] [(.int (2 : Int32)), (.ref ar)])) rfl rfl (hb hby d_jdk_38_method_18_code_5) _ k) ?_
  exact Go.retA X322 hx hlk hret rfl rfl (hb hby d_jdk_38_method_18_code_6) (by decide) (by decide) (by rw [e322]; exact ⟨rfl, rfl, by simp⟩)
theorem ef_rm_get2 (m : MethodId) (ob : Addr) : entryFrame m #[(.ref ob), (.int (2 : Int32))] 2 = mkF m 0 #[.val (.ref ob), .val (.int (2 : Int32))] [] := by first | (simp [entryFrame, mkF, argsToLocals, Value.category]; done) | rfl
set_option maxRecDepth 65536 in
set_option maxHeartbeats 40000000 in
theorem rm_get2 {l : Launch} {Z : State} {a0 : Array Value} {s__VALUES : Addr} {s_HITS : Addr} {s_RESULTS : Addr} {s_VALIDATE : Addr} {s_HITS_name : Addr} {s_RESULTS_name : Addr} {s_VALIDATE_name : Addr} {s_HITS_name_value : Addr} {s_RESULTS_name_value : Addr} {s_VALIDATE_name_value : Addr} {s_DEFAULTCAPACITY_EMPTY_ELEMENTDATA : Addr} {s_COMPACT_STRINGS : Int32} {cl_s__VALUES : Cell} {cl_s_HITS_name_value : Cell} {cl_s_RESULTS_name_value : Cell} {cl_s_VALIDATE_name_value : Cell} {cl_s_DEFAULTCAPACITY_EMPTY_ELEMENTDATA : Cell} (hw : ∀ d ∈ tables_1, d.before a0 Z = true) (G : own_Ctx Z s__VALUES s_HITS s_RESULTS s_VALIDATE s_HITS_name s_RESULTS_name s_VALIDATE_name s_HITS_name_value s_RESULTS_name_value s_VALIDATE_name_value s_DEFAULTCAPACITY_EMPTY_ELEMENTDATA s_COMPACT_STRINGS cl_s__VALUES cl_s_HITS_name_value cl_s_RESULTS_name_value cl_s_VALIDATE_name_value cl_s_DEFAULTCAPACITY_EMPTY_ELEMENTDATA) (ob : Addr) (ar : Addr) (kr : ClassId) (el0 : Addr) (el1 : Addr) (el2 : Addr) (h0 : Heap) (O0 : Ext Z.heap h0) (prem0 : Exa Z h0 ob "java/util/ArrayList") (prem1 : Fld Z h0 ob "java/util/ArrayList" "size" "I" (.int (3 : Int32))) (prem2 : Fld Z h0 ob "java/util/ArrayList" "elementData" "[Ljava/lang/Object;" (.ref ar)) (prem3 : Arv Z h0 ar kr (.object "java/lang/Object") (10 : Int32) [(.ref el0), (.ref el1), (.ref el2), .null, .null, .null, .null, .null, .null, .null] .null) :
    Ok l Z (⟨"java/util/ArrayList", "get", "(I)Ljava/lang/Object;"⟩ : MethodName) jdk_38_method_20_code 2 (some (.object "java/lang/Object")) ({ frames := 2, cells := 0, slots := 0, locals := 27 } : Room) #[(.ref ob), (.int (2 : Int32))] h0
      (fun v h L => v = some (.ref el2) ∧ (h = h0) ∧ (L = [])) := by
  refine Ok.mk pn_java_util_ArrayList_get__I_Ljava_lang_Object_ ?_
  intro p e s m below meth c T0 hx hby hml hown hnm hret hlk hZ e0 X0
  refine Go.cast (ef_rm_get2 m ob) ?_
  obtain ⟨S__VALUES, E_s__VALUES, S_HITS, E_s_HITS, S_RESULTS, E_s_RESULTS, S_VALIDATE, E_s_VALIDATE, F_s_HITS_name, E_s_HITS_name, F_s_RESULTS_name, E_s_RESULTS_name, F_s_VALIDATE_name, E_s_VALIDATE_name, F_s_HITS_name_coder, F_s_HITS_name_value, F_s_RESULTS_name_coder, F_s_RESULTS_name_value, F_s_VALIDATE_name_coder, F_s_VALIDATE_name_value, ne_s_HITS_name_s_RESULTS_name, ne_s_HITS_name_s_VALIDATE_name, ne_s_RESULTS_name_s_VALIDATE_name, S_DEFAULTCAPACITY_EMPTY_ELEMENTDATA, E_s_DEFAULTCAPACITY_EMPTY_ELEMENTDATA, S_COMPACT_STRINGS, hne_s_COMPACT_STRINGS_0, V_s__VALUES, V_s_HITS_name_value, V_s_RESULTS_name_value, V_s_VALIDATE_name_value, V_s_DEFAULTCAPACITY_EMPTY_ELEMENTDATA⟩ := id G
  have N0 := Fr.nil Z.heap.size
  have K0 : Keep h0 h0 [] := Keep.refl _ _
  refine Go.of (T' := T0) (f' := (mkF m 1 #[.val (.ref ob), .val (.int (2 : Int32))] [(.int (2 : Int32))])) (fun _ k => XS.iloadN X0.here hx rfl (hb hby d_jdk_38_method_20_code_0) rfl k) ?_
  refine Go.of (T' := T0) (f' := (mkF m 2 #[.val (.ref ob), .val (.int (2 : Int32))] [(.ref ob), (.int (2 : Int32))])) (fun _ k => XS.aloadN X0.here hx rfl (hb hby d_jdk_38_method_20_code_1) rfl rfl k) ?_
  obtain ⟨T324, X324, e324, st324⟩ := getF X0 hx hZ hown (host := "") (Or.inl (hw _ (List.mem_of_getElem? (i := 61) rfl))) Via.refl e0 prem1 (g := (mkF m 2 #[.val (.ref ob), .val (.int (2 : Int32))] [(.ref ob), (.int (2 : Int32))])) rfl rfl (hb hby d_jdk_38_method_20_code_2)
  refine Go.of (T' := T324) (f' := (mkF m 5 #[.val (.ref ob), .val (.int (2 : Int32))] [(.int (3 : Int32)), (.int (2 : Int32))])) (fun _ k => st324 _ k) ?_
  obtain ⟨T325, v325, L325, X325, q325, st325⟩ := callSt X324 hx hZ (y := (⟨"java/util/Objects", "checkIndex", "(II)I"⟩ : MethodName)) hown (hw _ (List.mem_of_getElem? (i := 126) rfl)) (hw _ (List.mem_of_getElem? (i := 127) rfl)) (hw _ (List.mem_of_getElem? (i := 128) rfl)) (hw _ (List.mem_of_getElem? (i := 129) rfl)) (by decide) (rm_oci2 hw G   h0 O0 ) e324 (W := 0) (by decide) (by decide) (by decide) (by decide) (g := (mkF m 5 #[.val (.ref ob), .val (.int (2 : Int32))] [(.int (3 : Int32)), (.int (2 : Int32))])) rfl (by rw [hml]; rfl) (argsL := [(.int (2 : Int32)), (.int (3 : Int32))]) (rest := []) (lenOf pd__II_I rfl) rfl rfl (by show 2 * 0 + _ ≤ _; exact Nat.le_of_eq rfl) (hb hby d_jdk_38_method_20_code_5)
  obtain ⟨rfl, e325, rfl⟩ := q325
  have N325 := Fr.app N0 (Fr.nil _)
  refine Go.of (T' := T325) (f' := (mkF m 8 #[.val (.ref ob), .val (.int (2 : Int32))] [(.int (2 : Int32))])) (fun _ k => st325 _ k) ?_
  refine Go.of (T' := T325) (f' := (mkF m 9 #[.val (.ref ob), .val (.int (2 : Int32))] [])) (fun _ k => XT.pop X325.here hx rfl (hb hby d_jdk_38_method_20_code_8) rfl rfl k) ?_
  refine Go.of (T' := T325) (f' := (mkF m 10 #[.val (.ref ob), .val (.int (2 : Int32))] [(.ref ob)])) (fun _ k => XS.aloadN X325.here hx rfl (hb hby d_jdk_38_method_20_code_9) rfl rfl k) ?_
  refine Go.of (T' := T325) (f' := (mkF m 11 #[.val (.ref ob), .val (.int (2 : Int32))] [(.int (2 : Int32)), (.ref ob)])) (fun _ k => XS.iloadN X325.here hx rfl (hb hby d_jdk_38_method_20_code_10) rfl k) ?_
  obtain ⟨T326, v326, L326, X326, q326, st326⟩ := callVi X325 hx hZ (y := (⟨"java/util/ArrayList", "elementData", "(I)Ljava/lang/Object;"⟩ : MethodName)) (z := (⟨"java/util/ArrayList", "elementData", "(I)Ljava/lang/Object;"⟩ : MethodName)) hown (hw _ (List.mem_of_getElem? (i := 134) rfl)) (hw _ (List.mem_of_getElem? (i := 135) rfl)) (notFace_of_selects (args := #[]) (mvT hZ (hw _ (List.mem_of_getElem? (i := 137) rfl)))) (hw _ (List.mem_of_getElem? (i := 137) rfl)) (hw _ (List.mem_of_getElem? (i := 136) rfl)) (hw _ (List.mem_of_getElem? (i := 138) rfl)) (hw _ (List.mem_of_getElem? (i := 6) rfl)) (by decide) (rm_eldat2 hw G ob ar kr el0 el1 el2 h0 O0 prem2 prem3) e325 (W := 0) (by decide) (by decide) (by decide) (by decide) prem0 (g := (mkF m 11 #[.val (.ref ob), .val (.int (2 : Int32))] [(.int (2 : Int32)), (.ref ob)])) rfl (by rw [hml]; rfl) (argsL := [(.int (2 : Int32))]) (rest := []) (lenOf pd__I_Ljava_lang_Object_ rfl) rfl rfl (by show 2 * 0 + _ ≤ _; exact Nat.le_of_eq rfl) (hb hby d_jdk_38_method_20_code_11)
  obtain ⟨rfl, e326, rfl⟩ := q326
  have N326 := Fr.app N325 (Fr.nil _)
  refine Go.of (T' := T326) (f' := (mkF m 14 #[.val (.ref ob), .val (.int (2 : Int32))] [(.ref el2)])) (fun _ k => st326 _ k) ?_
  exact Go.retA X326 hx hlk hret rfl rfl (hb hby d_jdk_38_method_20_code_14) (by decide) (by decide) (by rw [e326]; exact ⟨rfl, rfl, by simp⟩)
theorem ef_rm_gn2 (m : MethodId) (s_VALIDATE : Addr) : entryFrame m #[(.ref s_VALIDATE)] 1 = mkF m 0 #[.val (.ref s_VALIDATE)] [] := by first | (simp [entryFrame, mkF, argsToLocals, Value.category]; done) | rfl
set_option maxRecDepth 65536 in
set_option maxHeartbeats 40000000 in
theorem rm_gn2 {l : Launch} {Z : State} {a0 : Array Value} {s__VALUES : Addr} {s_HITS : Addr} {s_RESULTS : Addr} {s_VALIDATE : Addr} {s_HITS_name : Addr} {s_RESULTS_name : Addr} {s_VALIDATE_name : Addr} {s_HITS_name_value : Addr} {s_RESULTS_name_value : Addr} {s_VALIDATE_name_value : Addr} {s_DEFAULTCAPACITY_EMPTY_ELEMENTDATA : Addr} {s_COMPACT_STRINGS : Int32} {cl_s__VALUES : Cell} {cl_s_HITS_name_value : Cell} {cl_s_RESULTS_name_value : Cell} {cl_s_VALIDATE_name_value : Cell} {cl_s_DEFAULTCAPACITY_EMPTY_ELEMENTDATA : Cell} (hw : ∀ d ∈ tables_1, d.before a0 Z = true) (G : own_Ctx Z s__VALUES s_HITS s_RESULTS s_VALIDATE s_HITS_name s_RESULTS_name s_VALIDATE_name s_HITS_name_value s_RESULTS_name_value s_VALIDATE_name_value s_DEFAULTCAPACITY_EMPTY_ELEMENTDATA s_COMPACT_STRINGS cl_s__VALUES cl_s_HITS_name_value cl_s_RESULTS_name_value cl_s_VALIDATE_name_value cl_s_DEFAULTCAPACITY_EMPTY_ELEMENTDATA)   (h0 : Heap) (O0 : Ext Z.heap h0)  :
    Ok l Z (⟨"com/example/fair_index/fairindex/csw/ResultType", "getName", "()Ljava/lang/String;"⟩ : MethodName) prog_4_method_6_code 1 (some (.object "java/lang/String")) ({ frames := 0, cells := 0, slots := 0, locals := 0 } : Room) #[(.ref s_VALIDATE)] h0
      (fun v h L => v = some (.ref s_VALIDATE_name) ∧ (h = h0) ∧ (L = [])) := by
  refine Ok.mk pn_com_example_fair_index_fairindex_csw_ResultType_getName___Ljava_lang_String_ ?_
  intro p e s m below meth c T0 hx hby hml hown hnm hret hlk hZ e0 X0
  refine Go.cast (ef_rm_gn2 m s_VALIDATE) ?_
  obtain ⟨S__VALUES, E_s__VALUES, S_HITS, E_s_HITS, S_RESULTS, E_s_RESULTS, S_VALIDATE, E_s_VALIDATE, F_s_HITS_name, E_s_HITS_name, F_s_RESULTS_name, E_s_RESULTS_name, F_s_VALIDATE_name, E_s_VALIDATE_name, F_s_HITS_name_coder, F_s_HITS_name_value, F_s_RESULTS_name_coder, F_s_RESULTS_name_value, F_s_VALIDATE_name_coder, F_s_VALIDATE_name_value, ne_s_HITS_name_s_RESULTS_name, ne_s_HITS_name_s_VALIDATE_name, ne_s_RESULTS_name_s_VALIDATE_name, S_DEFAULTCAPACITY_EMPTY_ELEMENTDATA, E_s_DEFAULTCAPACITY_EMPTY_ELEMENTDATA, S_COMPACT_STRINGS, hne_s_COMPACT_STRINGS_0, V_s__VALUES, V_s_HITS_name_value, V_s_RESULTS_name_value, V_s_VALIDATE_name_value, V_s_DEFAULTCAPACITY_EMPTY_ELEMENTDATA⟩ := id G
  have N0 := Fr.nil Z.heap.size
  have K0 : Keep h0 h0 [] := Keep.refl _ _
  refine Go.of (T' := T0) (f' := (mkF m 1 #[.val (.ref s_VALIDATE)] [(.ref s_VALIDATE)])) (fun _ k => XS.aloadN X0.here hx rfl (hb hby d_prog_4_method_6_code_0) rfl rfl k) ?_
  obtain ⟨T327, X327, e327, st327⟩ := getF X0 hx hZ hown (host := "") (Or.inl (hw _ (List.mem_of_getElem? (i := 48) rfl))) Via.refl e0 (Fld.ext O0 F_s_VALIDATE_name) (g := (mkF m 1 #[.val (.ref s_VALIDATE)] [(.ref s_VALIDATE)])) rfl rfl (hb hby d_prog_4_method_6_code_1)
  refine Go.of (T' := T327) (f' := (mkF m 4 #[.val (.ref s_VALIDATE)] [(.ref s_VALIDATE_name)])) (fun _ k => st327 _ k) ?_
  exact Go.retA X327 hx hlk hret rfl rfl (hb hby d_prog_4_method_6_code_4) (by decide) (by decide) (by rw [e327]; exact ⟨rfl, rfl, by simp⟩)
theorem ef_rm_l1eq2 (m : MethodId) (xa : Addr) (xb : Addr) : entryFrame m #[(.ref xa), (.ref xb)] 3 = mkF m 0 #[.val (.ref xa), .val (.ref xb), .unset] [] := by first | (simp [entryFrame, mkF, argsToLocals, Value.category]; done) | rfl
set_option maxRecDepth 65536 in
set_option maxHeartbeats 40000000 in
theorem rm_l1eq2 {l : Launch} {Z : State} {a0 : Array Value} {s__VALUES : Addr} {s_HITS : Addr} {s_RESULTS : Addr} {s_VALIDATE : Addr} {s_HITS_name : Addr} {s_RESULTS_name : Addr} {s_VALIDATE_name : Addr} {s_HITS_name_value : Addr} {s_RESULTS_name_value : Addr} {s_VALIDATE_name_value : Addr} {s_DEFAULTCAPACITY_EMPTY_ELEMENTDATA : Addr} {s_COMPACT_STRINGS : Int32} {cl_s__VALUES : Cell} {cl_s_HITS_name_value : Cell} {cl_s_RESULTS_name_value : Cell} {cl_s_VALIDATE_name_value : Cell} {cl_s_DEFAULTCAPACITY_EMPTY_ELEMENTDATA : Cell} (hw : ∀ d ∈ tables_1, d.before a0 Z = true) (G : own_Ctx Z s__VALUES s_HITS s_RESULTS s_VALIDATE s_HITS_name s_RESULTS_name s_VALIDATE_name s_HITS_name_value s_RESULTS_name_value s_VALIDATE_name_value s_DEFAULTCAPACITY_EMPTY_ELEMENTDATA s_COMPACT_STRINGS cl_s__VALUES cl_s_HITS_name_value cl_s_RESULTS_name_value cl_s_VALIDATE_name_value cl_s_DEFAULTCAPACITY_EMPTY_ELEMENTDATA) (xa : Addr) (xb : Addr) (ka : ClassId) (kb : ClassId) (h0 : Heap) (O0 : Ext Z.heap h0) (prem0 : Arv Z h0 xa ka .byte (8 : Int32) [(.int (118 : Int32)), (.int (97 : Int32)), (.int (108 : Int32)), (.int (105 : Int32)), (.int (100 : Int32)), (.int (97 : Int32)), (.int (116 : Int32)), (.int (101 : Int32))] (.int (0 : Int32))) (prem1 : Arv Z h0 xb kb .byte (8 : Int32) [(.int (118 : Int32)), (.int (97 : Int32)), (.int (108 : Int32)), (.int (105 : Int32)), (.int (100 : Int32)), (.int (97 : Int32)), (.int (116 : Int32)), (.int (101 : Int32))] (.int (0 : Int32))) :
    Ok l Z (⟨"java/lang/StringLatin1", "equals", "([B[B)Z"⟩ : MethodName) jdk_43_method_13_code 3 (some .boolean) ({ frames := 0, cells := 0, slots := 0, locals := 0 } : Room) #[(.ref xa), (.ref xb)] h0
      (fun v h L => v = some (.int (1 : Int32)) ∧ (h = h0) ∧ (L = [])) := by
  refine Ok.mk pn_java_lang_StringLatin1_equals___B_B_Z ?_
  intro p e s m below meth c T0 hx hby hml hown hnm hret hlk hZ e0 X0
  refine Go.cast (ef_rm_l1eq2 m xa xb) ?_
  obtain ⟨S__VALUES, E_s__VALUES, S_HITS, E_s_HITS, S_RESULTS, E_s_RESULTS, S_VALIDATE, E_s_VALIDATE, F_s_HITS_name, E_s_HITS_name, F_s_RESULTS_name, E_s_RESULTS_name, F_s_VALIDATE_name, E_s_VALIDATE_name, F_s_HITS_name_coder, F_s_HITS_name_value, F_s_RESULTS_name_coder, F_s_RESULTS_name_value, F_s_VALIDATE_name_coder, F_s_VALIDATE_name_value, ne_s_HITS_name_s_RESULTS_name, ne_s_HITS_name_s_VALIDATE_name, ne_s_RESULTS_name_s_VALIDATE_name, S_DEFAULTCAPACITY_EMPTY_ELEMENTDATA, E_s_DEFAULTCAPACITY_EMPTY_ELEMENTDATA, S_COMPACT_STRINGS, hne_s_COMPACT_STRINGS_0, V_s__VALUES, V_s_HITS_name_value, V_s_RESULTS_name_value, V_s_VALIDATE_name_value, V_s_DEFAULTCAPACITY_EMPTY_ELEMENTDATA⟩ := id G
  have N0 := Fr.nil Z.heap.size
  have K0 : Keep h0 h0 [] := Keep.refl _ _
  refine Go.of (T' := T0) (f' := (mkF m 1 #[.val (.ref xa), .val (.ref xb), .unset] [(.ref xa)])) (fun _ k => XS.aloadN X0.here hx rfl (hb hby d_jdk_43_method_13_code_0) rfl rfl k) ?_
  obtain ⟨cl328, Ar328, qk328, S328, Ng328, H328, G328⟩ := id prem0
  refine Go.of (T' := T0) (f' := (mkF m 2 #[.val (.ref xa), .val (.ref xb), .unset] [(.int (8 : Int32))])) (fun _ k => X0.arraylength hx (by rw [e0]; exact Ar328.1) (State.isArrayOf_alike hZ.alike Ar328.2.1) (g := (mkF m 1 #[.val (.ref xa), .val (.ref xb), .unset] [(.ref xa)])) rfl rfl (hb hby d_jdk_43_method_13_code_1) _ (by rw [len_of S328 Ng328]; exact k)) ?_
  refine Go.of (T' := T0) (f' := (mkF m 3 #[.val (.ref xa), .val (.ref xb), .unset] [(.ref xb), (.int (8 : Int32))])) (fun _ k => XS.aloadN X0.here hx rfl (hb hby d_jdk_43_method_13_code_2) rfl rfl k) ?_
  obtain ⟨cl329, Ar329, qk329, S329, Ng329, H329, G329⟩ := id prem1
  refine Go.of (T' := T0) (f' := (mkF m 4 #[.val (.ref xa), .val (.ref xb), .unset] [(.int (8 : Int32)), (.int (8 : Int32))])) (fun _ k => X0.arraylength hx (by rw [e0]; exact Ar329.1) (State.isArrayOf_alike hZ.alike Ar329.2.1) (g := (mkF m 3 #[.val (.ref xa), .val (.ref xb), .unset] [(.ref xb), (.int (8 : Int32))])) rfl rfl (hb hby d_jdk_43_method_13_code_3) _ (by rw [len_of S329 Ng329]; exact k)) ?_
  refine Go.of (T' := T0) (f' := (mkF m 7 #[.val (.ref xa), .val (.ref xb), .unset] [])) (fun _ k => XS.icmpNo X0.here hx rfl (hb hby d_jdk_43_method_13_code_4) rfl (teq (by decide : (8 : Int32) = (8 : Int32))).2 k) ?_
  refine Go.of (T' := T0) (f' := (mkF m 8 #[.val (.ref xa), .val (.ref xb), .unset] [(.int (0 : Int32))])) (fun _ k => XS.iconst X0.here hx rfl (hb hby d_jdk_43_method_13_code_7) k) ?_
  refine Go.of (T' := T0) (f' := (mkF m 9 #[.val (.ref xa), .val (.ref xb), .val (.int (0 : Int32))] [])) (fun _ k => XS.istoreN X0.here hx rfl (hb hby d_jdk_43_method_13_code_8) rfl (l' := #[.val (.ref xa), .val (.ref xb), .val (.int (0 : Int32))]) rfl k) ?_
  refine Go.of (T' := T0) (f' := (mkF m 10 #[.val (.ref xa), .val (.ref xb), .val (.int (0 : Int32))] [(.int (0 : Int32))])) (fun _ k => XS.iloadN X0.here hx rfl (hb hby d_jdk_43_method_13_code_9) rfl k) ?_
  refine Go.of (T' := T0) (f' := (mkF m 11 #[.val (.ref xa), .val (.ref xb), .val (.int (0 : Int32))] [(.ref xa), (.int (0 : Int32))])) (fun _ k => XS.aloadN X0.here hx rfl (hb hby d_jdk_43_method_13_code_10) rfl rfl k) ?_
  obtain ⟨cl331, Ar331, qk331, S331, Ng331, H331, G331⟩ := id prem0
  refine Go.of (T' := T0) (f' := (mkF m 12 #[.val (.ref xa), .val (.ref xb), .val (.int (0 : Int32))] [(.int (8 : Int32)), (.int (0 : Int32))])) (fun _ k => X0.arraylength hx (by rw [e0]; exact Ar331.1) (State.isArrayOf_alike hZ.alike Ar331.2.1) (g := (mkF m 11 #[.val (.ref xa), .val (.ref xb), .val (.int (0 : Int32))] [(.ref xa), (.int (0 : Int32))])) rfl rfl (hb hby d_jdk_43_method_13_code_11) _ (by rw [len_of S331 Ng331]; exact k)) ?_
  refine Go.of (T' := T0) (f' := (mkF m 15 #[.val (.ref xa), .val (.ref xb), .val (.int (0 : Int32))] [])) (fun _ k => XS.icmpNo X0.here hx rfl (hb hby d_jdk_43_method_13_code_12) rfl (tlt (by decide : (0 : Int32) < (8 : Int32))).2.1 k) ?_
  refine Go.of (T' := T0) (f' := (mkF m 16 #[.val (.ref xa), .val (.ref xb), .val (.int (0 : Int32))] [(.ref xa)])) (fun _ k => XS.aloadN X0.here hx rfl (hb hby d_jdk_43_method_13_code_15) rfl rfl k) ?_
  refine Go.of (T' := T0) (f' := (mkF m 17 #[.val (.ref xa), .val (.ref xb), .val (.int (0 : Int32))] [(.int (0 : Int32)), (.ref xa)])) (fun _ k => XS.iloadN X0.here hx rfl (hb hby d_jdk_43_method_13_code_16) rfl k) ?_
  obtain ⟨cl333, Ar333, qk333, S333, Ng333, H333, G333⟩ := id prem0
  have hin333 := inb_of (j := (0 : Int32)) S333 ⟨by decide, by decide⟩
  refine Go.of (T' := T0) (f' := (mkF m 18 #[.val (.ref xa), .val (.ref xb), .val (.int (0 : Int32))] [(.int (118 : Int32))])) (fun _ k => X0.baloadBytes hx (j := (0 : Int32)) (v := (.int (118 : Int32))) (by rw [e0]; exact Ar333.1) (State.isArrayOf_alike hZ.alike Ar333.2.1) Ar333.2.2 hin333 (H333.at hin333 rfl) (g := (mkF m 17 #[.val (.ref xa), .val (.ref xb), .val (.int (0 : Int32))] [(.int (0 : Int32)), (.ref xa)])) rfl rfl (hb hby d_jdk_43_method_13_code_17) _ k) ?_
  refine Go.of (T' := T0) (f' := (mkF m 19 #[.val (.ref xa), .val (.ref xb), .val (.int (0 : Int32))] [(.ref xb), (.int (118 : Int32))])) (fun _ k => XS.aloadN X0.here hx rfl (hb hby d_jdk_43_method_13_code_18) rfl rfl k) ?_
  refine Go.of (T' := T0) (f' := (mkF m 20 #[.val (.ref xa), .val (.ref xb), .val (.int (0 : Int32))] [(.int (0 : Int32)), (.ref xb), (.int (118 : Int32))])) (fun _ k => XS.iloadN X0.here hx rfl (hb hby d_jdk_43_method_13_code_19) rfl k) ?_
  obtain ⟨cl334, Ar334, qk334, S334, Ng334, H334, G334⟩ := id prem1
  have hin334 := inb_of (j := (0 : Int32)) S334 ⟨by decide, by decide⟩
  refine Go.of (T' := T0) (f' := (mkF m 21 #[.val (.ref xa), .val (.ref xb), .val (.int (0 : Int32))] [(.int (118 : Int32)), (.int (118 : Int32))])) (fun _ k => X0.baloadBytes hx (j := (0 : Int32)) (v := (.int (118 : Int32))) (by rw [e0]; exact Ar334.1) (State.isArrayOf_alike hZ.alike Ar334.2.1) Ar334.2.2 hin334 (H334.at hin334 rfl) (g := (mkF m 20 #[.val (.ref xa), .val (.ref xb), .val (.int (0 : Int32))] [(.int (0 : Int32)), (.ref xb), (.int (118 : Int32))])) rfl rfl (hb hby d_jdk_43_method_13_code_20) _ k) ?_
  refine Go.of (T' := T0) (f' := (mkF m 26 #[.val (.ref xa), .val (.ref xb), .val (.int (0 : Int32))] [])) (fun _ k => XS.icmpYes X0.here hx rfl (pc0 := 21) (pc' := 26) rfl (hb hby d_jdk_43_method_13_code_21) rfl (teq (by decide : (118 : Int32) = (118 : Int32))).1 (by decide) (by decide) k) ?_
  refine Go.of (T' := T0) (f' := (mkF m 29 #[.val (.ref xa), .val (.ref xb), .val (.int (1 : Int32))] [])) (fun _ k => XS.iinc X0.here hx rfl (hb hby d_jdk_43_method_13_code_26) rfl (l' := #[.val (.ref xa), .val (.ref xb), .val (.int (1 : Int32))]) rfl k) ?_
  refine Go.of (T' := T0) (f' := (mkF m 9 #[.val (.ref xa), .val (.ref xb), .val (.int (1 : Int32))] [])) (fun _ k => XS.goto X0.here hx rfl (pc0 := 29) (pc' := 9) rfl (hb hby d_jdk_43_method_13_code_29) (by decide) (by decide) k) ?_
  refine Go.of (T' := T0) (f' := (mkF m 10 #[.val (.ref xa), .val (.ref xb), .val (.int (1 : Int32))] [(.int (1 : Int32))])) (fun _ k => XS.iloadN X0.here hx rfl (hb hby d_jdk_43_method_13_code_9) rfl k) ?_
  refine Go.of (T' := T0) (f' := (mkF m 11 #[.val (.ref xa), .val (.ref xb), .val (.int (1 : Int32))] [(.ref xa), (.int (1 : Int32))])) (fun _ k => XS.aloadN X0.here hx rfl (hb hby d_jdk_43_method_13_code_10) rfl rfl k) ?_
  obtain ⟨cl336, Ar336, qk336, S336, Ng336, H336, G336⟩ := id prem0
  refine Go.of (T' := T0) (f' := (mkF m 12 #[.val (.ref xa), .val (.ref xb), .val (.int (1 : Int32))] [(.int (8 : Int32)), (.int (1 : Int32))])) (fun _ k => X0.arraylength hx (by rw [e0]; exact Ar336.1) (State.isArrayOf_alike hZ.alike Ar336.2.1) (g := (mkF m 11 #[.val (.ref xa), .val (.ref xb), .val (.int (1 : Int32))] [(.ref xa), (.int (1 : Int32))])) rfl rfl (hb hby d_jdk_43_method_13_code_11) _ (by rw [len_of S336 Ng336]; exact k)) ?_
  refine Go.of (T' := T0) (f' := (mkF m 15 #[.val (.ref xa), .val (.ref xb), .val (.int (1 : Int32))] [])) (fun _ k => XS.icmpNo X0.here hx rfl (hb hby d_jdk_43_method_13_code_12) rfl (tlt (by decide : (1 : Int32) < (8 : Int32))).2.1 k) ?_
  refine Go.of (T' := T0) (f' := (mkF m 16 #[.val (.ref xa), .val (.ref xb), .val (.int (1 : Int32))] [(.ref xa)])) (fun _ k => XS.aloadN X0.here hx rfl (hb hby d_jdk_43_method_13_code_15) rfl rfl k) ?_
  refine Go.of (T' := T0) (f' := (mkF m 17 #[.val (.ref xa), .val (.ref xb), .val (.int (1 : Int32))] [(.int (1 : Int32)), (.ref xa)])) (fun _ k => XS.iloadN X0.here hx rfl (hb hby d_jdk_43_method_13_code_16) rfl k) ?_
  obtain ⟨cl338, Ar338, qk338, S338, Ng338, H338, G338⟩ := id prem0
  have hin338 := inb_of (j := (1 : Int32)) S338 ⟨by decide, by decide⟩
  refine Go.of (T' := T0) (f' := (mkF m 18 #[.val (.ref xa), .val (.ref xb), .val (.int (1 : Int32))] [(.int (97 : Int32))])) (fun _ k => X0.baloadBytes hx (j := (1 : Int32)) (v := (.int (97 : Int32))) (by rw [e0]; exact Ar338.1) (State.isArrayOf_alike hZ.alike Ar338.2.1) Ar338.2.2 hin338 (H338.at hin338 rfl) (g := (mkF m 17 #[.val (.ref xa), .val (.ref xb), .val (.int (1 : Int32))] [(.int (1 : Int32)), (.ref xa)])) rfl rfl (hb hby d_jdk_43_method_13_code_17) _ k) ?_
  refine Go.of (T' := T0) (f' := (mkF m 19 #[.val (.ref xa), .val (.ref xb), .val (.int (1 : Int32))] [(.ref xb), (.int (97 : Int32))])) (fun _ k => XS.aloadN X0.here hx rfl (hb hby d_jdk_43_method_13_code_18) rfl rfl k) ?_
  refine Go.of (T' := T0) (f' := (mkF m 20 #[.val (.ref xa), .val (.ref xb), .val (.int (1 : Int32))] [(.int (1 : Int32)), (.ref xb), (.int (97 : Int32))])) (fun _ k => XS.iloadN X0.here hx rfl (hb hby d_jdk_43_method_13_code_19) rfl k) ?_
  obtain ⟨cl339, Ar339, qk339, S339, Ng339, H339, G339⟩ := id prem1
  have hin339 := inb_of (j := (1 : Int32)) S339 ⟨by decide, by decide⟩
  refine Go.of (T' := T0) (f' := (mkF m 21 #[.val (.ref xa), .val (.ref xb), .val (.int (1 : Int32))] [(.int (97 : Int32)), (.int (97 : Int32))])) (fun _ k => X0.baloadBytes hx (j := (1 : Int32)) (v := (.int (97 : Int32))) (by rw [e0]; exact Ar339.1) (State.isArrayOf_alike hZ.alike Ar339.2.1) Ar339.2.2 hin339 (H339.at hin339 rfl) (g := (mkF m 20 #[.val (.ref xa), .val (.ref xb), .val (.int (1 : Int32))] [(.int (1 : Int32)), (.ref xb), (.int (97 : Int32))])) rfl rfl (hb hby d_jdk_43_method_13_code_20) _ k) ?_
  refine Go.of (T' := T0) (f' := (mkF m 26 #[.val (.ref xa), .val (.ref xb), .val (.int (1 : Int32))] [])) (fun _ k => XS.icmpYes X0.here hx rfl (pc0 := 21) (pc' := 26) rfl (hb hby d_jdk_43_method_13_code_21) rfl (teq (by decide : (97 : Int32) = (97 : Int32))).1 (by decide) (by decide) k) ?_
  refine Go.of (T' := T0) (f' := (mkF m 29 #[.val (.ref xa), .val (.ref xb), .val (.int (2 : Int32))] [])) (fun _ k => XS.iinc X0.here hx rfl (hb hby d_jdk_43_method_13_code_26) rfl (l' := #[.val (.ref xa), .val (.ref xb), .val (.int (2 : Int32))]) rfl k) ?_
  refine Go.of (T' := T0) (f' := (mkF m 9 #[.val (.ref xa), .val (.ref xb), .val (.int (2 : Int32))] [])) (fun _ k => XS.goto X0.here hx rfl (pc0 := 29) (pc' := 9) rfl (hb hby d_jdk_43_method_13_code_29) (by decide) (by decide) k) ?_
  refine Go.of (T' := T0) (f' := (mkF m 10 #[.val (.ref xa), .val (.ref xb), .val (.int (2 : Int32))] [(.int (2 : Int32))])) (fun _ k => XS.iloadN X0.here hx rfl (hb hby d_jdk_43_method_13_code_9) rfl k) ?_
  refine Go.of (T' := T0) (f' := (mkF m 11 #[.val (.ref xa), .val (.ref xb), .val (.int (2 : Int32))] [(.ref xa), (.int (2 : Int32))])) (fun _ k => XS.aloadN X0.here hx rfl (hb hby d_jdk_43_method_13_code_10) rfl rfl k) ?_
  obtain ⟨cl341, Ar341, qk341, S341, Ng341, H341, G341⟩ := id prem0
  refine Go.of (T' := T0) (f' := (mkF m 12 #[.val (.ref xa), .val (.ref xb), .val (.int (2 : Int32))] [(.int (8 : Int32)), (.int (2 : Int32))])) (fun _ k => X0.arraylength hx (by rw [e0]; exact Ar341.1) (State.isArrayOf_alike hZ.alike Ar341.2.1) (g := (mkF m 11 #[.val (.ref xa), .val (.ref xb), .val (.int (2 : Int32))] [(.ref xa), (.int (2 : Int32))])) rfl rfl (hb hby d_jdk_43_method_13_code_11) _ (by rw [len_of S341 Ng341]; exact k)) ?_
  refine Go.of (T' := T0) (f' := (mkF m 15 #[.val (.ref xa), .val (.ref xb), .val (.int (2 : Int32))] [])) (fun _ k => XS.icmpNo X0.here hx rfl (hb hby d_jdk_43_method_13_code_12) rfl (tlt (by decide : (2 : Int32) < (8 : Int32))).2.1 k) ?_
  refine Go.of (T' := T0) (f' := (mkF m 16 #[.val (.ref xa), .val (.ref xb), .val (.int (2 : Int32))] [(.ref xa)])) (fun _ k => XS.aloadN X0.here hx rfl (hb hby d_jdk_43_method_13_code_15) rfl rfl k) ?_
  refine Go.of (T' := T0) (f' := (mkF m 17 #[.val (.ref xa), .val (.ref xb), .val (.int (2 : Int32))] [(.int (2 : Int32)), (.ref xa)])) (fun _ k => XS.iloadN X0.here hx rfl (hb hby d_jdk_43_method_13_code_16) rfl k) ?_
  obtain ⟨cl343, Ar343, qk343, S343, Ng343, H343, G343⟩ := id prem0
  have hin343 := inb_of (j := (2 : Int32)) S343 ⟨by decide, by decide⟩
  refine Go.of (T' := T0) (f' := (mkF m 18 #[.val (.ref xa), .val (.ref xb), .val (.int (2 : Int32))] [(.int (108 : Int32))])) (fun _ k => X0.baloadBytes hx (j := (2 : Int32)) (v := (.int (108 : Int32))) (by rw [e0]; exact Ar343.1) (State.isArrayOf_alike hZ.alike Ar343.2.1) Ar343.2.2 hin343 (H343.at hin343 rfl) (g := (mkF m 17 #[.val (.ref xa), .val (.ref xb), .val (.int (2 : Int32))] [(.int (2 : Int32)), (.ref xa)])) rfl rfl (hb hby d_jdk_43_method_13_code_17) _ k) ?_
  refine Go.of (T' := T0) (f' := (mkF m 19 #[.val (.ref xa), .val (.ref xb), .val (.int (2 : Int32))] [(.ref xb), (.int (108 : Int32))])) (fun _ k => XS.aloadN X0.here hx rfl (hb hby d_jdk_43_method_13_code_18) rfl rfl k) ?_
  refine Go.of (T' := T0) (f' := (mkF m 20 #[.val (.ref xa), .val (.ref xb), .val (.int (2 : Int32))] [(.int (2 : Int32)), (.ref xb), (.int (108 : Int32))])) (fun _ k => XS.iloadN X0.here hx rfl (hb hby d_jdk_43_method_13_code_19) rfl k) ?_
  obtain ⟨cl344, Ar344, qk344, S344, Ng344, H344, G344⟩ := id prem1
  have hin344 := inb_of (j := (2 : Int32)) S344 ⟨by decide, by decide⟩
  refine Go.of (T' := T0) (f' := (mkF m 21 #[.val (.ref xa), .val (.ref xb), .val (.int (2 : Int32))] [(.int (108 : Int32)), (.int (108 : Int32))])) (fun _ k => X0.baloadBytes hx (j := (2 : Int32)) (v := (.int (108 : Int32))) (by rw [e0]; exact Ar344.1) (State.isArrayOf_alike hZ.alike Ar344.2.1) Ar344.2.2 hin344 (H344.at hin344 rfl) (g := (mkF m 20 #[.val (.ref xa), .val (.ref xb), .val (.int (2 : Int32))] [(.int (2 : Int32)), (.ref xb), (.int (108 : Int32))])) rfl rfl (hb hby d_jdk_43_method_13_code_20) _ k) ?_
  refine Go.of (T' := T0) (f' := (mkF m 26 #[.val (.ref xa), .val (.ref xb), .val (.int (2 : Int32))] [])) (fun _ k => XS.icmpYes X0.here hx rfl (pc0 := 21) (pc' := 26) rfl (hb hby d_jdk_43_method_13_code_21) rfl (teq (by decide : (108 : Int32) = (108 : Int32))).1 (by decide) (by decide) k) ?_
  refine Go.of (T' := T0) (f' := (mkF m 29 #[.val (.ref xa), .val (.ref xb), .val (.int (3 : Int32))] [])) (fun _ k => XS.iinc X0.here hx rfl (hb hby d_jdk_43_method_13_code_26) rfl (l' := #[.val (.ref xa), .val (.ref xb), .val (.int (3 : Int32))]) rfl k) ?_
  refine Go.of (T' := T0) (f' := (mkF m 9 #[.val (.ref xa), .val (.ref xb), .val (.int (3 : Int32))] [])) (fun _ k => XS.goto X0.here hx rfl (pc0 := 29) (pc' := 9) rfl (hb hby d_jdk_43_method_13_code_29) (by decide) (by decide) k) ?_
  refine Go.of (T' := T0) (f' := (mkF m 10 #[.val (.ref xa), .val (.ref xb), .val (.int (3 : Int32))] [(.int (3 : Int32))])) (fun _ k => XS.iloadN X0.here hx rfl (hb hby d_jdk_43_method_13_code_9) rfl k) ?_
  refine Go.of (T' := T0) (f' := (mkF m 11 #[.val (.ref xa), .val (.ref xb), .val (.int (3 : Int32))] [(.ref xa), (.int (3 : Int32))])) (fun _ k => XS.aloadN X0.here hx rfl (hb hby d_jdk_43_method_13_code_10) rfl rfl k) ?_
  obtain ⟨cl346, Ar346, qk346, S346, Ng346, H346, G346⟩ := id prem0
  refine Go.of (T' := T0) (f' := (mkF m 12 #[.val (.ref xa), .val (.ref xb), .val (.int (3 : Int32))] [(.int (8 : Int32)), (.int (3 : Int32))])) (fun _ k => X0.arraylength hx (by rw [e0]; exact Ar346.1) (State.isArrayOf_alike hZ.alike Ar346.2.1) (g := (mkF m 11 #[.val (.ref xa), .val (.ref xb), .val (.int (3 : Int32))] [(.ref xa), (.int (3 : Int32))])) rfl rfl (hb hby d_jdk_43_method_13_code_11) _ (by rw [len_of S346 Ng346]; exact k)) ?_
  refine Go.of (T' := T0) (f' := (mkF m 15 #[.val (.ref xa), .val (.ref xb), .val (.int (3 : Int32))] [])) (fun _ k => XS.icmpNo X0.here hx rfl (hb hby d_jdk_43_method_13_code_12) rfl (tlt (by decide : (3 : Int32) < (8 : Int32))).2.1 k) ?_
  refine Go.of (T' := T0) (f' := (mkF m 16 #[.val (.ref xa), .val (.ref xb), .val (.int (3 : Int32))] [(.ref xa)])) (fun _ k => XS.aloadN X0.here hx rfl (hb hby d_jdk_43_method_13_code_15) rfl rfl k) ?_
  refine Go.of (T' := T0) (f' := (mkF m 17 #[.val (.ref xa), .val (.ref xb), .val (.int (3 : Int32))] [(.int (3 : Int32)), (.ref xa)])) (fun _ k => XS.iloadN X0.here hx rfl (hb hby d_jdk_43_method_13_code_16) rfl k) ?_
  obtain ⟨cl348, Ar348, qk348, S348, Ng348, H348, G348⟩ := id prem0
  have hin348 := inb_of (j := (3 : Int32)) S348 ⟨by decide, by decide⟩
  refine Go.of (T' := T0) (f' := (mkF m 18 #[.val (.ref xa), .val (.ref xb), .val (.int (3 : Int32))] [(.int (105 : Int32))])) (fun _ k => X0.baloadBytes hx (j := (3 : Int32)) (v := (.int (105 : Int32))) (by rw [e0]; exact Ar348.1) (State.isArrayOf_alike hZ.alike Ar348.2.1) Ar348.2.2 hin348 (H348.at hin348 rfl) (g := (mkF m 17 #[.val (.ref xa), .val (.ref xb), .val (.int (3 : Int32))] [(.int (3 : Int32)), (.ref xa)])) rfl rfl (hb hby d_jdk_43_method_13_code_17) _ k) ?_
  refine Go.of (T' := T0) (f' := (mkF m 19 #[.val (.ref xa), .val (.ref xb), .val (.int (3 : Int32))] [(.ref xb), (.int (105 : Int32))])) (fun _ k => XS.aloadN X0.here hx rfl (hb hby d_jdk_43_method_13_code_18) rfl rfl k) ?_
  refine Go.of (T' := T0) (f' := (mkF m 20 #[.val (.ref xa), .val (.ref xb), .val (.int (3 : Int32))] [(.int (3 : Int32)), (.ref xb), (.int (105 : Int32))])) (fun _ k => XS.iloadN X0.here hx rfl (hb hby d_jdk_43_method_13_code_19) rfl k) ?_
  obtain ⟨cl349, Ar349, qk349, S349, Ng349, H349, G349⟩ := id prem1
  have hin349 := inb_of (j := (3 : Int32)) S349 ⟨by decide, by decide⟩
  refine Go.of (T' := T0) (f' := (mkF m 21 #[.val (.ref xa), .val (.ref xb), .val (.int (3 : Int32))] [(.int (105 : Int32)), (.int (105 : Int32))])) (fun _ k => X0.baloadBytes hx (j := (3 : Int32)) (v := (.int (105 : Int32))) (by rw [e0]; exact Ar349.1) (State.isArrayOf_alike hZ.alike Ar349.2.1) Ar349.2.2 hin349 (H349.at hin349 rfl) (g := (mkF m 20 #[.val (.ref xa), .val (.ref xb), .val (.int (3 : Int32))] [(.int (3 : Int32)), (.ref xb), (.int (105 : Int32))])) rfl rfl (hb hby d_jdk_43_method_13_code_20) _ k) ?_
  refine Go.of (T' := T0) (f' := (mkF m 26 #[.val (.ref xa), .val (.ref xb), .val (.int (3 : Int32))] [])) (fun _ k => XS.icmpYes X0.here hx rfl (pc0 := 21) (pc' := 26) rfl (hb hby d_jdk_43_method_13_code_21) rfl (teq (by decide : (105 : Int32) = (105 : Int32))).1 (by decide) (by decide) k) ?_
  refine Go.of (T' := T0) (f' := (mkF m 29 #[.val (.ref xa), .val (.ref xb), .val (.int (4 : Int32))] [])) (fun _ k => XS.iinc X0.here hx rfl (hb hby d_jdk_43_method_13_code_26) rfl (l' := #[.val (.ref xa), .val (.ref xb), .val (.int (4 : Int32))]) rfl k) ?_
  refine Go.of (T' := T0) (f' := (mkF m 9 #[.val (.ref xa), .val (.ref xb), .val (.int (4 : Int32))] [])) (fun _ k => XS.goto X0.here hx rfl (pc0 := 29) (pc' := 9) rfl (hb hby d_jdk_43_method_13_code_29) (by decide) (by decide) k) ?_
  refine Go.of (T' := T0) (f' := (mkF m 10 #[.val (.ref xa), .val (.ref xb), .val (.int (4 : Int32))] [(.int (4 : Int32))])) (fun _ k => XS.iloadN X0.here hx rfl (hb hby d_jdk_43_method_13_code_9) rfl k) ?_
  refine Go.of (T' := T0) (f' := (mkF m 11 #[.val (.ref xa), .val (.ref xb), .val (.int (4 : Int32))] [(.ref xa), (.int (4 : Int32))])) (fun _ k => XS.aloadN X0.here hx rfl (hb hby d_jdk_43_method_13_code_10) rfl rfl k) ?_
  obtain ⟨cl351, Ar351, qk351, S351, Ng351, H351, G351⟩ := id prem0
  refine Go.of (T' := T0) (f' := (mkF m 12 #[.val (.ref xa), .val (.ref xb), .val (.int (4 : Int32))] [(.int (8 : Int32)), (.int (4 : Int32))])) (fun _ k => X0.arraylength hx (by rw [e0]; exact Ar351.1) (State.isArrayOf_alike hZ.alike Ar351.2.1) (g := (mkF m 11 #[.val (.ref xa), .val (.ref xb), .val (.int (4 : Int32))] [(.ref xa), (.int (4 : Int32))])) rfl rfl (hb hby d_jdk_43_method_13_code_11) _ (by rw [len_of S351 Ng351]; exact k)) ?_
  refine Go.of (T' := T0) (f' := (mkF m 15 #[.val (.ref xa), .val (.ref xb), .val (.int (4 : Int32))] [])) (fun _ k => XS.icmpNo X0.here hx rfl (hb hby d_jdk_43_method_13_code_12) rfl (tlt (by decide : (4 : Int32) < (8 : Int32))).2.1 k) ?_
  refine Go.of (T' := T0) (f' := (mkF m 16 #[.val (.ref xa), .val (.ref xb), .val (.int (4 : Int32))] [(.ref xa)])) (fun _ k => XS.aloadN X0.here hx rfl (hb hby d_jdk_43_method_13_code_15) rfl rfl k) ?_
  refine Go.of (T' := T0) (f' := (mkF m 17 #[.val (.ref xa), .val (.ref xb), .val (.int (4 : Int32))] [(.int (4 : Int32)), (.ref xa)])) (fun _ k => XS.iloadN X0.here hx rfl (hb hby d_jdk_43_method_13_code_16) rfl k) ?_
  obtain ⟨cl353, Ar353, qk353, S353, Ng353, H353, G353⟩ := id prem0
  have hin353 := inb_of (j := (4 : Int32)) S353 ⟨by decide, by decide⟩
  refine Go.of (T' := T0) (f' := (mkF m 18 #[.val (.ref xa), .val (.ref xb), .val (.int (4 : Int32))] [(.int (100 : Int32))])) (fun _ k => X0.baloadBytes hx (j := (4 : Int32)) (v := (.int (100 : Int32))) (by rw [e0]; exact Ar353.1) (State.isArrayOf_alike hZ.alike Ar353.2.1) Ar353.2.2 hin353 (H353.at hin353 rfl) (g := (mkF m 17 #[.val (.ref xa), .val (.ref xb), .val (.int (4 : Int32))] [(.int (4 : Int32)), (.ref xa)])) rfl rfl (hb hby d_jdk_43_method_13_code_17) _ k) ?_
  refine Go.of (T' := T0) (f' := (mkF m 19 #[.val (.ref xa), .val (.ref xb), .val (.int (4 : Int32))] [(.ref xb), (.int (100 : Int32))])) (fun _ k => XS.aloadN X0.here hx rfl (hb hby d_jdk_43_method_13_code_18) rfl rfl k) ?_
  refine Go.of (T' := T0) (f' := (mkF m 20 #[.val (.ref xa), .val (.ref xb), .val (.int (4 : Int32))] [(.int (4 : Int32)), (.ref xb), (.int (100 : Int32))])) (fun _ k => XS.iloadN X0.here hx rfl (hb hby d_jdk_43_method_13_code_19) rfl k) ?_
  obtain ⟨cl354, Ar354, qk354, S354, Ng354, H354, G354⟩ := id prem1
  have hin354 := inb_of (j := (4 : Int32)) S354 ⟨by decide, by decide⟩
  refine Go.of (T' := T0) (f' := (mkF m 21 #[.val (.ref xa), .val (.ref xb), .val (.int (4 : Int32))] [(.int (100 : Int32)), (.int (100 : Int32))])) (fun _ k => X0.baloadBytes hx (j := (4 : Int32)) (v := (.int (100 : Int32))) (by rw [e0]; exact Ar354.1) (State.isArrayOf_alike hZ.alike Ar354.2.1) Ar354.2.2 hin354 (H354.at hin354 rfl) (g := (mkF m 20 #[.val (.ref xa), .val (.ref xb), .val (.int (4 : Int32))] [(.int (4 : Int32)), (.ref xb), (.int (100 : Int32))])) rfl rfl (hb hby d_jdk_43_method_13_code_20) _ k) ?_
  refine Go.of (T' := T0) (f' := (mkF m 26 #[.val (.ref xa), .val (.ref xb), .val (.int (4 : Int32))] [])) (fun _ k => XS.icmpYes X0.here hx rfl (pc0 := 21) (pc' := 26) rfl (hb hby d_jdk_43_method_13_code_21) rfl (teq (by decide : (100 : Int32) = (100 : Int32))).1 (by decide) (by decide) k) ?_
  refine Go.of (T' := T0) (f' := (mkF m 29 #[.val (.ref xa), .val (.ref xb), .val (.int (5 : Int32))] [])) (fun _ k => XS.iinc X0.here hx rfl (hb hby d_jdk_43_method_13_code_26) rfl (l' := #[.val (.ref xa), .val (.ref xb), .val (.int (5 : Int32))]) rfl k) ?_
  refine Go.of (T' := T0) (f' := (mkF m 9 #[.val (.ref xa), .val (.ref xb), .val (.int (5 : Int32))] [])) (fun _ k => XS.goto X0.here hx rfl (pc0 := 29) (pc' := 9) rfl (hb hby d_jdk_43_method_13_code_29) (by decide) (by decide) k) ?_
  refine Go.of (T' := T0) (f' := (mkF m 10 #[.val (.ref xa), .val (.ref xb), .val (.int (5 : Int32))] [(.int (5 : Int32))])) (fun _ k => XS.iloadN X0.here hx rfl (hb hby d_jdk_43_method_13_code_9) rfl k) ?_
  refine Go.of (T' := T0) (f' := (mkF m 11 #[.val (.ref xa), .val (.ref xb), .val (.int (5 : Int32))] [(.ref xa), (.int (5 : Int32))])) (fun _ k => XS.aloadN X0.here hx rfl (hb hby d_jdk_43_method_13_code_10) rfl rfl k) ?_
  obtain ⟨cl356, Ar356, qk356, S356, Ng356, H356, G356⟩ := id prem0
  refine Go.of (T' := T0) (f' := (mkF m 12 #[.val (.ref xa), .val (.ref xb), .val (.int (5 : Int32))] [(.int (8 : Int32)), (.int (5 : Int32))])) (fun _ k => X0.arraylength hx (by rw [e0]; exact Ar356.1) (State.isArrayOf_alike hZ.alike Ar356.2.1) (g := (mkF m 11 #[.val (.ref xa), .val (.ref xb), .val (.int (5 : Int32))] [(.ref xa), (.int (5 : Int32))])) rfl rfl (hb hby d_jdk_43_method_13_code_11) _ (by rw [len_of S356 Ng356]; exact k)) ?_
  refine Go.of (T' := T0) (f' := (mkF m 15 #[.val (.ref xa), .val (.ref xb), .val (.int (5 : Int32))] [])) (fun _ k => XS.icmpNo X0.here hx rfl (hb hby d_jdk_43_method_13_code_12) rfl (tlt (by decide : (5 : Int32) < (8 : Int32))).2.1 k) ?_
  refine Go.of (T' := T0) (f' := (mkF m 16 #[.val (.ref xa), .val (.ref xb), .val (.int (5 : Int32))] [(.ref xa)])) (fun _ k => XS.aloadN X0.here hx rfl (hb hby d_jdk_43_method_13_code_15) rfl rfl k) ?_
  refine Go.of (T' := T0) (f' := (mkF m 17 #[.val (.ref xa), .val (.ref xb), .val (.int (5 : Int32))] [(.int (5 : Int32)), (.ref xa)])) (fun _ k => XS.iloadN X0.here hx rfl (hb hby d_jdk_43_method_13_code_16) rfl k) ?_
  obtain ⟨cl358, Ar358, qk358, S358, Ng358, H358, G358⟩ := id prem0
  have hin358 := inb_of (j := (5 : Int32)) S358 ⟨by decide, by decide⟩
  refine Go.of (T' := T0) (f' := (mkF m 18 #[.val (.ref xa), .val (.ref xb), .val (.int (5 : Int32))] [(.int (97 : Int32))])) (fun _ k => X0.baloadBytes hx (j := (5 : Int32)) (v := (.int (97 : Int32))) (by rw [e0]; exact Ar358.1) (State.isArrayOf_alike hZ.alike Ar358.2.1) Ar358.2.2 hin358 (H358.at hin358 rfl) (g := (mkF m 17 #[.val (.ref xa), .val (.ref xb), .val (.int (5 : Int32))] [(.int (5 : Int32)), (.ref xa)])) rfl rfl (hb hby d_jdk_43_method_13_code_17) _ k) ?_
  refine Go.of (T' := T0) (f' := (mkF m 19 #[.val (.ref xa), .val (.ref xb), .val (.int (5 : Int32))] [(.ref xb), (.int (97 : Int32))])) (fun _ k => XS.aloadN X0.here hx rfl (hb hby d_jdk_43_method_13_code_18) rfl rfl k) ?_
  refine Go.of (T' := T0) (f' := (mkF m 20 #[.val (.ref xa), .val (.ref xb), .val (.int (5 : Int32))] [(.int (5 : Int32)), (.ref xb), (.int (97 : Int32))])) (fun _ k => XS.iloadN X0.here hx rfl (hb hby d_jdk_43_method_13_code_19) rfl k) ?_
  obtain ⟨cl359, Ar359, qk359, S359, Ng359, H359, G359⟩ := id prem1
  have hin359 := inb_of (j := (5 : Int32)) S359 ⟨by decide, by decide⟩
  refine Go.of (T' := T0) (f' := (mkF m 21 #[.val (.ref xa), .val (.ref xb), .val (.int (5 : Int32))] [(.int (97 : Int32)), (.int (97 : Int32))])) (fun _ k => X0.baloadBytes hx (j := (5 : Int32)) (v := (.int (97 : Int32))) (by rw [e0]; exact Ar359.1) (State.isArrayOf_alike hZ.alike Ar359.2.1) Ar359.2.2 hin359 (H359.at hin359 rfl) (g := (mkF m 20 #[.val (.ref xa), .val (.ref xb), .val (.int (5 : Int32))] [(.int (5 : Int32)), (.ref xb), (.int (97 : Int32))])) rfl rfl (hb hby d_jdk_43_method_13_code_20) _ k) ?_
  refine Go.of (T' := T0) (f' := (mkF m 26 #[.val (.ref xa), .val (.ref xb), .val (.int (5 : Int32))] [])) (fun _ k => XS.icmpYes X0.here hx rfl (pc0 := 21) (pc' := 26) rfl (hb hby d_jdk_43_method_13_code_21) rfl (teq (by decide : (97 : Int32) = (97 : Int32))).1 (by decide) (by decide) k) ?_
  refine Go.of (T' := T0) (f' := (mkF m 29 #[.val (.ref xa), .val (.ref xb), .val (.int (6 : Int32))] [])) (fun _ k => XS.iinc X0.here hx rfl (hb hby d_jdk_43_method_13_code_26) rfl (l' := #[.val (.ref xa), .val (.ref xb), .val (.int (6 : Int32))]) rfl k) ?_
  refine Go.of (T' := T0) (f' := (mkF m 9 #[.val (.ref xa), .val (.ref xb), .val (.int (6 : Int32))] [])) (fun _ k => XS.goto X0.here hx rfl (pc0 := 29) (pc' := 9) rfl (hb hby d_jdk_43_method_13_code_29) (by decide) (by decide) k) ?_
  refine Go.of (T' := T0) (f' := (mkF m 10 #[.val (.ref xa), .val (.ref xb), .val (.int (6 : Int32))] [(.int (6 : Int32))])) (fun _ k => XS.iloadN X0.here hx rfl (hb hby d_jdk_43_method_13_code_9) rfl k) ?_
  refine Go.of (T' := T0) (f' := (mkF m 11 #[.val (.ref xa), .val (.ref xb), .val (.int (6 : Int32))] [(.ref xa), (.int (6 : Int32))])) (fun _ k => XS.aloadN X0.here hx rfl (hb hby d_jdk_43_method_13_code_10) rfl rfl k) ?_
  obtain ⟨cl361, Ar361, qk361, S361, Ng361, H361, G361⟩ := id prem0
  refine Go.of (T' := T0) (f' := (mkF m 12 #[.val (.ref xa), .val (.ref xb), .val (.int (6 : Int32))] [(.int (8 : Int32)), (.int (6 : Int32))])) (fun _ k => X0.arraylength hx (by rw [e0]; exact Ar361.1) (State.isArrayOf_alike hZ.alike Ar361.2.1) (g := (mkF m 11 #[.val (.ref xa), .val (.ref xb), .val (.int (6 : Int32))] [(.ref xa), (.int (6 : Int32))])) rfl rfl (hb hby d_jdk_43_method_13_code_11) _ (by rw [len_of S361 Ng361]; exact k)) ?_
  refine Go.of (T' := T0) (f' := (mkF m 15 #[.val (.ref xa), .val (.ref xb), .val (.int (6 : Int32))] [])) (fun _ k => XS.icmpNo X0.here hx rfl (hb hby d_jdk_43_method_13_code_12) rfl (tlt (by decide : (6 : Int32) < (8 : Int32))).2.1 k) ?_
  refine Go.of (T' := T0) (f' := (mkF m 16 #[.val (.ref xa), .val (.ref xb), .val (.int (6 : Int32))] [(.ref xa)])) (fun _ k => XS.aloadN X0.here hx rfl (hb hby d_jdk_43_method_13_code_15) rfl rfl k) ?_
  refine Go.of (T' := T0) (f' := (mkF m 17 #[.val (.ref xa), .val (.ref xb), .val (.int (6 : Int32))] [(.int (6 : Int32)), (.ref xa)])) (fun _ k => XS.iloadN X0.here hx rfl (hb hby d_jdk_43_method_13_code_16) rfl k) ?_
  obtain ⟨cl363, Ar363, qk363, S363, Ng363, H363, G363⟩ := id prem0
  have hin363 := inb_of (j := (6 : Int32)) S363 ⟨by decide, by decide⟩
  refine Go.of (T' := T0) (f' := (mkF m 18 #[.val (.ref xa), .val (.ref xb), .val (.int (6 : Int32))] [(.int (116 : Int32))])) (fun _ k => X0.baloadBytes hx (j := (6 : Int32)) (v := (.int (116 : Int32))) (by rw [e0]; exact Ar363.1) (State.isArrayOf_alike hZ.alike Ar363.2.1) Ar363.2.2 hin363 (H363.at hin363 rfl) (g := (mkF m 17 #[.val (.ref xa), .val (.ref xb), .val (.int (6 : Int32))] [(.int (6 : Int32)), (.ref xa)])) rfl rfl (hb hby d_jdk_43_method_13_code_17) _ k) ?_
  refine Go.of (T' := T0) (f' := (mkF m 19 #[.val (.ref xa), .val (.ref xb), .val (.int (6 : Int32))] [(.ref xb), (.int (116 : Int32))])) (fun _ k => XS.aloadN X0.here hx rfl (hb hby d_jdk_43_method_13_code_18) rfl rfl k) ?_
  refine Go.of (T' := T0) (f' := (mkF m 20 #[.val (.ref xa), .val (.ref xb), .val (.int (6 : Int32))] [(.int (6 : Int32)), (.ref xb), (.int (116 : Int32))])) (fun _ k => XS.iloadN X0.here hx rfl (hb hby d_jdk_43_method_13_code_19) rfl k) ?_
  obtain ⟨cl364, Ar364, qk364, S364, Ng364, H364, G364⟩ := id prem1
  have hin364 := inb_of (j := (6 : Int32)) S364 ⟨by decide, by decide⟩
  refine Go.of (T' := T0) (f' := (mkF m 21 #[.val (.ref xa), .val (.ref xb), .val (.int (6 : Int32))] [(.int (116 : Int32)), (.int (116 : Int32))])) (fun _ k => X0.baloadBytes hx (j := (6 : Int32)) (v := (.int (116 : Int32))) (by rw [e0]; exact Ar364.1) (State.isArrayOf_alike hZ.alike Ar364.2.1) Ar364.2.2 hin364 (H364.at hin364 rfl) (g := (mkF m 20 #[.val (.ref xa), .val (.ref xb), .val (.int (6 : Int32))] [(.int (6 : Int32)), (.ref xb), (.int (116 : Int32))])) rfl rfl (hb hby d_jdk_43_method_13_code_20) _ k) ?_
  refine Go.of (T' := T0) (f' := (mkF m 26 #[.val (.ref xa), .val (.ref xb), .val (.int (6 : Int32))] [])) (fun _ k => XS.icmpYes X0.here hx rfl (pc0 := 21) (pc' := 26) rfl (hb hby d_jdk_43_method_13_code_21) rfl (teq (by decide : (116 : Int32) = (116 : Int32))).1 (by decide) (by decide) k) ?_
  refine Go.of (T' := T0) (f' := (mkF m 29 #[.val (.ref xa), .val (.ref xb), .val (.int (7 : Int32))] [])) (fun _ k => XS.iinc X0.here hx rfl (hb hby d_jdk_43_method_13_code_26) rfl (l' := #[.val (.ref xa), .val (.ref xb), .val (.int (7 : Int32))]) rfl k) ?_
  refine Go.of (T' := T0) (f' := (mkF m 9 #[.val (.ref xa), .val (.ref xb), .val (.int (7 : Int32))] [])) (fun _ k => XS.goto X0.here hx rfl (pc0 := 29) (pc' := 9) rfl (hb hby d_jdk_43_method_13_code_29) (by decide) (by decide) k) ?_
  refine Go.of (T' := T0) (f' := (mkF m 10 #[.val (.ref xa), .val (.ref xb), .val (.int (7 : Int32))] [(.int (7 : Int32))])) (fun _ k => XS.iloadN X0.here hx rfl (hb hby d_jdk_43_method_13_code_9) rfl k) ?_
  refine Go.of (T' := T0) (f' := (mkF m 11 #[.val (.ref xa), .val (.ref xb), .val (.int (7 : Int32))] [(.ref xa), (.int (7 : Int32))])) (fun _ k => XS.aloadN X0.here hx rfl (hb hby d_jdk_43_method_13_code_10) rfl rfl k) ?_
  obtain ⟨cl366, Ar366, qk366, S366, Ng366, H366, G366⟩ := id prem0
  refine Go.of (T' := T0) (f' := (mkF m 12 #[.val (.ref xa), .val (.ref xb), .val (.int (7 : Int32))] [(.int (8 : Int32)), (.int (7 : Int32))])) (fun _ k => X0.arraylength hx (by rw [e0]; exact Ar366.1) (State.isArrayOf_alike hZ.alike Ar366.2.1) (g := (mkF m 11 #[.val (.ref xa), .val (.ref xb), .val (.int (7 : Int32))] [(.ref xa), (.int (7 : Int32))])) rfl rfl (hb hby d_jdk_43_method_13_code_11) _ (by rw [len_of S366 Ng366]; exact k)) ?_
  refine Go.of (T' := T0) (f' := (mkF m 15 #[.val (.ref xa), .val (.ref xb), .val (.int (7 : Int32))] [])) (fun _ k => XS.icmpNo X0.here hx rfl (hb hby d_jdk_43_method_13_code_12) rfl (tlt (by decide : (7 : Int32) < (8 : Int32))).2.1 k) ?_
  refine Go.of (T' := T0) (f' := (mkF m 16 #[.val (.ref xa), .val (.ref xb), .val (.int (7 : Int32))] [(.ref xa)])) (fun _ k => XS.aloadN X0.here hx rfl (hb hby d_jdk_43_method_13_code_15) rfl rfl k) ?_
  refine Go.of (T' := T0) (f' := (mkF m 17 #[.val (.ref xa), .val (.ref xb), .val (.int (7 : Int32))] [(.int (7 : Int32)), (.ref xa)])) (fun _ k => XS.iloadN X0.here hx rfl (hb hby d_jdk_43_method_13_code_16) rfl k) ?_
  obtain ⟨cl368, Ar368, qk368, S368, Ng368, H368, G368⟩ := id prem0
  have hin368 := inb_of (j := (7 : Int32)) S368 ⟨by decide, by decide⟩
  refine Go.of (T' := T0) (f' := (mkF m 18 #[.val (.ref xa), .val (.ref xb), .val (.int (7 : Int32))] [(.int (101 : Int32))])) (fun _ k => X0.baloadBytes hx (j := (7 : Int32)) (v := (.int (101 : Int32))) (by rw [e0]; exact Ar368.1) (State.isArrayOf_alike hZ.alike Ar368.2.1) Ar368.2.2 hin368 (H368.at hin368 rfl) (g := (mkF m 17 #[.val (.ref xa), .val (.ref xb), .val (.int (7 : Int32))] [(.int (7 : Int32)), (.ref xa)])) rfl rfl (hb hby d_jdk_43_method_13_code_17) _ k) ?_
  refine Go.of (T' := T0) (f' := (mkF m 19 #[.val (.ref xa), .val (.ref xb), .val (.int (7 : Int32))] [(.ref xb), (.int (101 : Int32))])) (fun _ k => XS.aloadN X0.here hx rfl (hb hby d_jdk_43_method_13_code_18) rfl rfl k) ?_
  refine Go.of (T' := T0) (f' := (mkF m 20 #[.val (.ref xa), .val (.ref xb), .val (.int (7 : Int32))] [(.int (7 : Int32)), (.ref xb), (.int (101 : Int32))])) (fun _ k => XS.iloadN X0.here hx rfl (hb hby d_jdk_43_method_13_code_19) rfl k) ?_
  obtain ⟨cl369, Ar369, qk369, S369, Ng369, H369, G369⟩ := id prem1
  have hin369 := inb_of (j := (7 : Int32)) S369 ⟨by decide, by decide⟩
  refine Go.of (T' := T0) (f' := (mkF m 21 #[.val (.ref xa), .val (.ref xb), .val (.int (7 : Int32))] [(.int (101 : Int32)), (.int (101 : Int32))])) (fun _ k => X0.baloadBytes hx (j := (7 : Int32)) (v := (.int (101 : Int32))) (by rw [e0]; exact Ar369.1) (State.isArrayOf_alike hZ.alike Ar369.2.1) Ar369.2.2 hin369 (H369.at hin369 rfl) (g := (mkF m 20 #[.val (.ref xa), .val (.ref xb), .val (.int (7 : Int32))] [(.int (7 : Int32)), (.ref xb), (.int (101 : Int32))])) rfl rfl (hb hby d_jdk_43_method_13_code_20) _ k) ?_
  refine Go.of (T' := T0) (f' := (mkF m 26 #[.val (.ref xa), .val (.ref xb), .val (.int (7 : Int32))] [])) (fun _ k => XS.icmpYes X0.here hx rfl (pc0 := 21) (pc' := 26) rfl (hb hby d_jdk_43_method_13_code_21) rfl (teq (by decide : (101 : Int32) = (101 : Int32))).1 (by decide) (by decide) k) ?_
  refine Go.of (T' := T0) (f' := (mkF m 29 #[.val (.ref xa), .val (.ref xb), .val (.int (8 : Int32))] [])) (fun _ k => XS.iinc X0.here hx rfl (hb hby d_jdk_43_method_13_code_26) rfl (l' := #[.val (.ref xa), .val (.ref xb), .val (.int (8 : Int32))]) rfl k) ?_
  refine Go.of (T' := T0) (f' := (mkF m 9 #[.val (.ref xa), .val (.ref xb), .val (.int (8 : Int32))] [])) (fun _ k => XS.goto X0.here hx rfl (pc0 := 29) (pc' := 9) rfl (hb hby d_jdk_43_method_13_code_29) (by decide) (by decide) k) ?_
  refine Go.of (T' := T0) (f' := (mkF m 10 #[.val (.ref xa), .val (.ref xb), .val (.int (8 : Int32))] [(.int (8 : Int32))])) (fun _ k => XS.iloadN X0.here hx rfl (hb hby d_jdk_43_method_13_code_9) rfl k) ?_
  refine Go.of (T' := T0) (f' := (mkF m 11 #[.val (.ref xa), .val (.ref xb), .val (.int (8 : Int32))] [(.ref xa), (.int (8 : Int32))])) (fun _ k => XS.aloadN X0.here hx rfl (hb hby d_jdk_43_method_13_code_10) rfl rfl k) ?_
  obtain ⟨cl371, Ar371, qk371, S371, Ng371, H371, G371⟩ := id prem0
  refine Go.of (T' := T0) (f' := (mkF m 12 #[.val (.ref xa), .val (.ref xb), .val (.int (8 : Int32))] [(.int (8 : Int32)), (.int (8 : Int32))])) (fun _ k => X0.arraylength hx (by rw [e0]; exact Ar371.1) (State.isArrayOf_alike hZ.alike Ar371.2.1) (g := (mkF m 11 #[.val (.ref xa), .val (.ref xb), .val (.int (8 : Int32))] [(.ref xa), (.int (8 : Int32))])) rfl rfl (hb hby d_jdk_43_method_13_code_11) _ (by rw [len_of S371 Ng371]; exact k)) ?_
  refine Go.of (T' := T0) (f' := (mkF m 32 #[.val (.ref xa), .val (.ref xb), .val (.int (8 : Int32))] [])) (fun _ k => XS.icmpYes X0.here hx rfl (pc0 := 12) (pc' := 32) rfl (hb hby d_jdk_43_method_13_code_12) rfl (flt (by decide : ¬ ((8 : Int32) < (8 : Int32)))).2.1 (by decide) (by decide) k) ?_
  refine Go.of (T' := T0) (f' := (mkF m 33 #[.val (.ref xa), .val (.ref xb), .val (.int (8 : Int32))] [(.int (1 : Int32))])) (fun _ k => XS.iconst X0.here hx rfl (hb hby d_jdk_43_method_13_code_32) k) ?_
  exact Go.retB X0 hx hlk hret (by simp) (hb hby d_jdk_43_method_13_code_33) (by decide) (by decide) (z' := (1 : Int32)) rfl (by rw [e0]; exact ⟨rfl, rfl, by simp⟩)
theorem ef_rm_eqc2 (m : MethodId) (s_VALIDATE_name : Addr) (cb : Addr) : entryFrame m #[(.ref s_VALIDATE_name), (.ref cb)] 3 = mkF m 0 #[.val (.ref s_VALIDATE_name), .val (.ref cb), .unset] [] := by first | (simp [entryFrame, mkF, argsToLocals, Value.category]; done) | rfl
set_option maxRecDepth 65536 in
set_option maxHeartbeats 40000000 in
theorem rm_eqc2 {l : Launch} {Z : State} {a0 : Array Value} {s__VALUES : Addr} {s_HITS : Addr} {s_RESULTS : Addr} {s_VALIDATE : Addr} {s_HITS_name : Addr} {s_RESULTS_name : Addr} {s_VALIDATE_name : Addr} {s_HITS_name_value : Addr} {s_RESULTS_name_value : Addr} {s_VALIDATE_name_value : Addr} {s_DEFAULTCAPACITY_EMPTY_ELEMENTDATA : Addr} {s_COMPACT_STRINGS : Int32} {cl_s__VALUES : Cell} {cl_s_HITS_name_value : Cell} {cl_s_RESULTS_name_value : Cell} {cl_s_VALIDATE_name_value : Cell} {cl_s_DEFAULTCAPACITY_EMPTY_ELEMENTDATA : Cell} (hw : ∀ d ∈ tables_1, d.before a0 Z = true) (G : own_Ctx Z s__VALUES s_HITS s_RESULTS s_VALIDATE s_HITS_name s_RESULTS_name s_VALIDATE_name s_HITS_name_value s_RESULTS_name_value s_VALIDATE_name_value s_DEFAULTCAPACITY_EMPTY_ELEMENTDATA s_COMPACT_STRINGS cl_s__VALUES cl_s_HITS_name_value cl_s_RESULTS_name_value cl_s_VALIDATE_name_value cl_s_DEFAULTCAPACITY_EMPTY_ELEMENTDATA) (cb : Addr) (vb : Addr) (kb : ClassId) (h0 : Heap) (O0 : Ext Z.heap h0) (prem0 : Exa Z h0 cb "java/lang/String") (prem1 : Fld Z h0 cb "java/lang/String" "coder" "B" (.int (0 : Int32))) (prem2 : Fld Z h0 cb "java/lang/String" "value" "[B" (.ref vb)) (prem3 : Arv Z h0 vb kb .byte (8 : Int32) [(.int (118 : Int32)), (.int (97 : Int32)), (.int (108 : Int32)), (.int (105 : Int32)), (.int (100 : Int32)), (.int (97 : Int32)), (.int (116 : Int32)), (.int (101 : Int32))] (.int (0 : Int32))) :
    Ok l Z (⟨"java/lang/String", "equals", "(Ljava/lang/Object;)Z"⟩ : MethodName) jdk_42_method_66_code 3 (some .boolean) ({ frames := 1, cells := 0, slots := 0, locals := 14 } : Room) #[(.ref s_VALIDATE_name), (.ref cb)] h0
      (fun v h L => v = some (.int (1 : Int32)) ∧ (h = h0) ∧ (L = [])) := by
  refine Ok.mk pn_java_lang_String_equals__Ljava_lang_Object__Z ?_
  intro p e s m below meth c T0 hx hby hml hown hnm hret hlk hZ e0 X0
  refine Go.cast (ef_rm_eqc2 m s_VALIDATE_name cb) ?_
  obtain ⟨S__VALUES, E_s__VALUES, S_HITS, E_s_HITS, S_RESULTS, E_s_RESULTS, S_VALIDATE, E_s_VALIDATE, F_s_HITS_name, E_s_HITS_name, F_s_RESULTS_name, E_s_RESULTS_name, F_s_VALIDATE_name, E_s_VALIDATE_name, F_s_HITS_name_coder, F_s_HITS_name_value, F_s_RESULTS_name_coder, F_s_RESULTS_name_value, F_s_VALIDATE_name_coder, F_s_VALIDATE_name_value, ne_s_HITS_name_s_RESULTS_name, ne_s_HITS_name_s_VALIDATE_name, ne_s_RESULTS_name_s_VALIDATE_name, S_DEFAULTCAPACITY_EMPTY_ELEMENTDATA, E_s_DEFAULTCAPACITY_EMPTY_ELEMENTDATA, S_COMPACT_STRINGS, hne_s_COMPACT_STRINGS_0, V_s__VALUES, V_s_HITS_name_value, V_s_RESULTS_name_value, V_s_VALIDATE_name_value, V_s_DEFAULTCAPACITY_EMPTY_ELEMENTDATA⟩ := id G
  have N0 := Fr.nil Z.heap.size
  have K0 : Keep h0 h0 [] := Keep.refl _ _
  refine Go.of (T' := T0) (f' := (mkF m 1 #[.val (.ref s_VALIDATE_name), .val (.ref cb), .unset] [(.ref s_VALIDATE_name)])) (fun _ k => XS.aloadN X0.here hx rfl (hb hby d_jdk_42_method_66_code_0) rfl rfl k) ?_
  refine Go.of (T' := T0) (f' := (mkF m 2 #[.val (.ref s_VALIDATE_name), .val (.ref cb), .unset] [(.ref cb), (.ref s_VALIDATE_name)])) (fun _ k => XS.aloadN X0.here hx rfl (hb hby d_jdk_42_method_66_code_1) rfl rfl k) ?_
  by_cases hc373 : s_VALIDATE_name = cb
  · skip
    refine Go.of (T' := T0) (f' := (mkF m 5 #[.val (.ref s_VALIDATE_name), .val (.ref cb), .unset] [])) (fun _ k => Jvm.RoadKit.acmp (g := (mkF m 2 #[.val (.ref s_VALIDATE_name), .val (.ref cb), .unset] [(.ref cb), (.ref s_VALIDATE_name)])) X0 hx rfl rfl rfl (pc0 := 2) (pc' := 5) (same := true) rfl (hb hby d_jdk_42_method_66_code_2) rfl (decide_eq_true (congrArg Value.ref hc373)) (by decide) (by decide) k) ?_
    refine Go.of (T' := T0) (f' := (mkF m 6 #[.val (.ref s_VALIDATE_name), .val (.ref cb), .unset] [(.int (1 : Int32))])) (fun _ k => XS.iconst X0.here hx rfl (hb hby d_jdk_42_method_66_code_5) k) ?_
    exact Go.retB X0 hx hlk hret (by simp) (hb hby d_jdk_42_method_66_code_6) (by decide) (by decide) (z' := (1 : Int32)) rfl (by rw [e0]; exact ⟨rfl, rfl, by simp⟩)
  · skip
    refine Go.of (T' := T0) (f' := (mkF m 7 #[.val (.ref s_VALIDATE_name), .val (.ref cb), .unset] [])) (fun _ k => Jvm.RoadKit.acmp (g := (mkF m 2 #[.val (.ref s_VALIDATE_name), .val (.ref cb), .unset] [(.ref cb), (.ref s_VALIDATE_name)])) X0 hx rfl rfl rfl (pc0 := 2) (pc' := 7) (same := false) rfl (hb hby d_jdk_42_method_66_code_2) rfl (decide_eq_false fun q => hc373 (Value.ref.inj q)) (by decide) (by decide) k) ?_
    refine Go.of (T' := T0) (f' := (mkF m 8 #[.val (.ref s_VALIDATE_name), .val (.ref cb), .unset] [(.ref cb)])) (fun _ k => XS.aloadN X0.here hx rfl (hb hby d_jdk_42_method_66_code_7) rfl rfl k) ?_
    obtain ⟨T374, X374, e374, st374⟩ := instY X0 hx hZ hown (hw _ (List.mem_of_getElem? (i := 102) rfl)) e0 (Ins.self prem0) (g := (mkF m 8 #[.val (.ref s_VALIDATE_name), .val (.ref cb), .unset] [(.ref cb)])) rfl rfl (hb hby d_jdk_42_method_66_code_8)
    refine Go.of (T' := T374) (f' := (mkF m 11 #[.val (.ref s_VALIDATE_name), .val (.ref cb), .unset] [(.int (1 : Int32))])) (fun _ k => st374 _ k) ?_
    refine Go.of (T' := T374) (f' := (mkF m 14 #[.val (.ref s_VALIDATE_name), .val (.ref cb), .unset] [])) (fun _ k => XS.ifNo X374.here hx rfl (hb hby d_jdk_42_method_66_code_11) rfl ((if0 _ _).trans (feq (by decide : ¬ ((1 : Int32) = (0 : Int32)))).1) k) ?_
    refine Go.of (T' := T374) (f' := (mkF m 15 #[.val (.ref s_VALIDATE_name), .val (.ref cb), .unset] [(.ref cb)])) (fun _ k => XS.aloadN X374.here hx rfl (hb hby d_jdk_42_method_66_code_14) rfl rfl k) ?_
    obtain ⟨T376, X376, e376, st376⟩ := castY X374 hx hZ hown (hw _ (List.mem_of_getElem? (i := 102) rfl)) e374 (Ins.self prem0) (g := (mkF m 15 #[.val (.ref s_VALIDATE_name), .val (.ref cb), .unset] [(.ref cb)])) rfl rfl (hb hby d_jdk_42_method_66_code_15)
    refine Go.of (T' := T376) (f' := (mkF m 18 #[.val (.ref s_VALIDATE_name), .val (.ref cb), .unset] [(.ref cb)])) (fun _ k => st376 _ k) ?_
    refine Go.of (T' := T376) (f' := (mkF m 19 #[.val (.ref s_VALIDATE_name), .val (.ref cb), .val (.ref cb)] [])) (fun _ k => XS.astoreN X376.here hx rfl (hb hby d_jdk_42_method_66_code_18) rfl rfl (l' := #[.val (.ref s_VALIDATE_name), .val (.ref cb), .val (.ref cb)]) rfl k) ?_
    obtain ⟨T377, X377, e377, st377⟩ := getS2 X376 hx hZ hown (host := "") (Or.inl (hw _ (List.mem_of_getElem? (i := 97) rfl))) Via.refl e376 (Sta.ext O0 S_COMPACT_STRINGS) (g := (mkF m 19 #[.val (.ref s_VALIDATE_name), .val (.ref cb), .val (.ref cb)] [])) rfl (hb hby d_jdk_42_method_66_code_19)
    refine Go.of (T' := T377) (f' := (mkF m 22 #[.val (.ref s_VALIDATE_name), .val (.ref cb), .val (.ref cb)] [(.int s_COMPACT_STRINGS)])) (fun _ k => st377 _ k) ?_
    have hc378 : ¬ (s_COMPACT_STRINGS = (0 : Int32)) := hne_s_COMPACT_STRINGS_0
    refine Go.of (T' := T377) (f' := (mkF m 25 #[.val (.ref s_VALIDATE_name), .val (.ref cb), .val (.ref cb)] [])) (fun _ k => XS.ifNo X377.here hx rfl (hb hby d_jdk_42_method_66_code_22) rfl ((if0 _ _).trans (feq hc378).1) k) ?_
    refine Go.of (T' := T377) (f' := (mkF m 26 #[.val (.ref s_VALIDATE_name), .val (.ref cb), .val (.ref cb)] [(.ref s_VALIDATE_name)])) (fun _ k => XS.aloadN X377.here hx rfl (hb hby d_jdk_42_method_66_code_25) rfl rfl k) ?_
    obtain ⟨T379, X379, e379, st379⟩ := getF X377 hx hZ hown (host := "") (Or.inl (hw _ (List.mem_of_getElem? (i := 115) rfl))) Via.refl e377 (Fld.ext O0 F_s_VALIDATE_name_coder) (g := (mkF m 26 #[.val (.ref s_VALIDATE_name), .val (.ref cb), .val (.ref cb)] [(.ref s_VALIDATE_name)])) rfl rfl (hb hby d_jdk_42_method_66_code_26)
    refine Go.of (T' := T379) (f' := (mkF m 29 #[.val (.ref s_VALIDATE_name), .val (.ref cb), .val (.ref cb)] [(.int (0 : Int32))])) (fun _ k => st379 _ k) ?_
    refine Go.of (T' := T379) (f' := (mkF m 30 #[.val (.ref s_VALIDATE_name), .val (.ref cb), .val (.ref cb)] [(.ref cb), (.int (0 : Int32))])) (fun _ k => XS.aloadN X379.here hx rfl (hb hby d_jdk_42_method_66_code_29) rfl rfl k) ?_
    obtain ⟨T380, X380, e380, st380⟩ := getF X379 hx hZ hown (host := "") (Or.inl (hw _ (List.mem_of_getElem? (i := 115) rfl))) Via.refl e379 prem1 (g := (mkF m 30 #[.val (.ref s_VALIDATE_name), .val (.ref cb), .val (.ref cb)] [(.ref cb), (.int (0 : Int32))])) rfl rfl (hb hby d_jdk_42_method_66_code_30)
    refine Go.of (T' := T380) (f' := (mkF m 33 #[.val (.ref s_VALIDATE_name), .val (.ref cb), .val (.ref cb)] [(.int (0 : Int32)), (.int (0 : Int32))])) (fun _ k => st380 _ k) ?_
    refine Go.of (T' := T380) (f' := (mkF m 36 #[.val (.ref s_VALIDATE_name), .val (.ref cb), .val (.ref cb)] [])) (fun _ k => XS.icmpNo X380.here hx rfl (hb hby d_jdk_42_method_66_code_33) rfl (teq (by decide : (0 : Int32) = (0 : Int32))).2 k) ?_
    refine Go.of (T' := T380) (f' := (mkF m 37 #[.val (.ref s_VALIDATE_name), .val (.ref cb), .val (.ref cb)] [(.ref s_VALIDATE_name)])) (fun _ k => XS.aloadN X380.here hx rfl (hb hby d_jdk_42_method_66_code_36) rfl rfl k) ?_
    obtain ⟨T382, X382, e382, st382⟩ := getF X380 hx hZ hown (host := "") (Or.inl (hw _ (List.mem_of_getElem? (i := 113) rfl))) Via.refl e380 (Fld.ext O0 F_s_VALIDATE_name_value) (g := (mkF m 37 #[.val (.ref s_VALIDATE_name), .val (.ref cb), .val (.ref cb)] [(.ref s_VALIDATE_name)])) rfl rfl (hb hby d_jdk_42_method_66_code_37)
    refine Go.of (T' := T382) (f' := (mkF m 40 #[.val (.ref s_VALIDATE_name), .val (.ref cb), .val (.ref cb)] [(.ref s_VALIDATE_name_value)])) (fun _ k => st382 _ k) ?_
    refine Go.of (T' := T382) (f' := (mkF m 41 #[.val (.ref s_VALIDATE_name), .val (.ref cb), .val (.ref cb)] [(.ref cb), (.ref s_VALIDATE_name_value)])) (fun _ k => XS.aloadN X382.here hx rfl (hb hby d_jdk_42_method_66_code_40) rfl rfl k) ?_
    obtain ⟨T383, X383, e383, st383⟩ := getF X382 hx hZ hown (host := "") (Or.inl (hw _ (List.mem_of_getElem? (i := 113) rfl))) Via.refl e382 prem2 (g := (mkF m 41 #[.val (.ref s_VALIDATE_name), .val (.ref cb), .val (.ref cb)] [(.ref cb), (.ref s_VALIDATE_name_value)])) rfl rfl (hb hby d_jdk_42_method_66_code_41)
    refine Go.of (T' := T383) (f' := (mkF m 44 #[.val (.ref s_VALIDATE_name), .val (.ref cb), .val (.ref cb)] [(.ref vb), (.ref s_VALIDATE_name_value)])) (fun _ k => st383 _ k) ?_
    obtain ⟨T384, v384, L384, X384, q384, st384⟩ := callSt X383 hx hZ (y := (⟨"java/lang/StringLatin1", "equals", "([B[B)Z"⟩ : MethodName)) hown (hw _ (List.mem_of_getElem? (i := 148) rfl)) (hw _ (List.mem_of_getElem? (i := 149) rfl)) (hw _ (List.mem_of_getElem? (i := 100) rfl)) (hw _ (List.mem_of_getElem? (i := 150) rfl)) (by decide) (rm_l1eq2 hw G s_VALIDATE_name_value vb cl_s_VALIDATE_name_value.cls kb h0 O0 (Arv.ext V_s_VALIDATE_name_value O0) prem3) e383 (W := 0) (by decide) (by decide) (by decide) (by decide) (g := (mkF m 44 #[.val (.ref s_VALIDATE_name), .val (.ref cb), .val (.ref cb)] [(.ref vb), (.ref s_VALIDATE_name_value)])) rfl (by rw [hml]; rfl) (argsL := [(.ref s_VALIDATE_name_value), (.ref vb)]) (rest := []) (lenOf pd___B_B_Z rfl) rfl rfl (by show 2 * 0 + _ ≤ _; exact Nat.le_of_eq rfl) (hb hby d_jdk_42_method_66_code_44)
    obtain ⟨rfl, e384, rfl⟩ := q384
    have N384 := Fr.app N0 (Fr.nil _)
    refine Go.of (T' := T384) (f' := (mkF m 47 #[.val (.ref s_VALIDATE_name), .val (.ref cb), .val (.ref cb)] [(.int (1 : Int32))])) (fun _ k => st384 _ k) ?_
    refine Go.of (T' := T384) (f' := (mkF m 50 #[.val (.ref s_VALIDATE_name), .val (.ref cb), .val (.ref cb)] [])) (fun _ k => XS.ifNo X384.here hx rfl (hb hby d_jdk_42_method_66_code_47) rfl ((if0 _ _).trans (feq (by decide : ¬ ((1 : Int32) = (0 : Int32)))).1) k) ?_
    refine Go.of (T' := T384) (f' := (mkF m 51 #[.val (.ref s_VALIDATE_name), .val (.ref cb), .val (.ref cb)] [(.int (1 : Int32))])) (fun _ k => XS.iconst X384.here hx rfl (hb hby d_jdk_42_method_66_code_50) k) ?_
    refine Go.of (T' := T384) (f' := (mkF m 55 #[.val (.ref s_VALIDATE_name), .val (.ref cb), .val (.ref cb)] [(.int (1 : Int32))])) (fun _ k => XS.goto X384.here hx rfl (pc0 := 51) (pc' := 55) rfl (hb hby d_jdk_42_method_66_code_51) (by decide) (by decide) k) ?_
    exact Go.retB X384 hx hlk hret (by simp) (hb hby d_jdk_42_method_66_code_55) (by decide) (by decide) (z' := (1 : Int32)) rfl (by rw [e384]; exact ⟨rfl, rfl, by simp⟩)
theorem ef_rm_eqs2 (m : MethodId) (s_VALIDATE_name : Addr) (s_VALIDATE_name : Addr) : entryFrame m #[(.ref s_VALIDATE_name), (.ref s_VALIDATE_name)] 3 = mkF m 0 #[.val (.ref s_VALIDATE_name), .val (.ref s_VALIDATE_name), .unset] [] := by first | (simp [entryFrame, mkF, argsToLocals, Value.category]; done) | rfl
set_option maxRecDepth 65536 in
set_option maxHeartbeats 40000000 in
theorem rm_eqs2 {l : Launch} {Z : State} {a0 : Array Value} {s__VALUES : Addr} {s_HITS : Addr} {s_RESULTS : Addr} {s_VALIDATE : Addr} {s_HITS_name : Addr} {s_RESULTS_name : Addr} {s_VALIDATE_name : Addr} {s_HITS_name_value : Addr} {s_RESULTS_name_value : Addr} {s_VALIDATE_name_value : Addr} {s_DEFAULTCAPACITY_EMPTY_ELEMENTDATA : Addr} {s_COMPACT_STRINGS : Int32} {cl_s__VALUES : Cell} {cl_s_HITS_name_value : Cell} {cl_s_RESULTS_name_value : Cell} {cl_s_VALIDATE_name_value : Cell} {cl_s_DEFAULTCAPACITY_EMPTY_ELEMENTDATA : Cell} (hw : ∀ d ∈ tables_1, d.before a0 Z = true) (G : own_Ctx Z s__VALUES s_HITS s_RESULTS s_VALIDATE s_HITS_name s_RESULTS_name s_VALIDATE_name s_HITS_name_value s_RESULTS_name_value s_VALIDATE_name_value s_DEFAULTCAPACITY_EMPTY_ELEMENTDATA s_COMPACT_STRINGS cl_s__VALUES cl_s_HITS_name_value cl_s_RESULTS_name_value cl_s_VALIDATE_name_value cl_s_DEFAULTCAPACITY_EMPTY_ELEMENTDATA)   (h0 : Heap) (O0 : Ext Z.heap h0)  :
    Ok l Z (⟨"java/lang/String", "equals", "(Ljava/lang/Object;)Z"⟩ : MethodName) jdk_42_method_66_code 3 (some .boolean) ({ frames := 0, cells := 0, slots := 0, locals := 0 } : Room) #[(.ref s_VALIDATE_name), (.ref s_VALIDATE_name)] h0
      (fun v h L => v = some (.int (1 : Int32)) ∧ (h = h0) ∧ (L = [])) := by
  refine Ok.mk pn_java_lang_String_equals__Ljava_lang_Object__Z ?_
  intro p e s m below meth c T0 hx hby hml hown hnm hret hlk hZ e0 X0
  refine Go.cast (ef_rm_eqs2 m s_VALIDATE_name s_VALIDATE_name) ?_
  obtain ⟨S__VALUES, E_s__VALUES, S_HITS, E_s_HITS, S_RESULTS, E_s_RESULTS, S_VALIDATE, E_s_VALIDATE, F_s_HITS_name, E_s_HITS_name, F_s_RESULTS_name, E_s_RESULTS_name, F_s_VALIDATE_name, E_s_VALIDATE_name, F_s_HITS_name_coder, F_s_HITS_name_value, F_s_RESULTS_name_coder, F_s_RESULTS_name_value, F_s_VALIDATE_name_coder, F_s_VALIDATE_name_value, ne_s_HITS_name_s_RESULTS_name, ne_s_HITS_name_s_VALIDATE_name, ne_s_RESULTS_name_s_VALIDATE_name, S_DEFAULTCAPACITY_EMPTY_ELEMENTDATA, E_s_DEFAULTCAPACITY_EMPTY_ELEMENTDATA, S_COMPACT_STRINGS, hne_s_COMPACT_STRINGS_0, V_s__VALUES, V_s_HITS_name_value, V_s_RESULTS_name_value, V_s_VALIDATE_name_value, V_s_DEFAULTCAPACITY_EMPTY_ELEMENTDATA⟩ := id G
  have N0 := Fr.nil Z.heap.size
  have K0 : Keep h0 h0 [] := Keep.refl _ _
  refine Go.of (T' := T0) (f' := (mkF m 1 #[.val (.ref s_VALIDATE_name), .val (.ref s_VALIDATE_name), .unset] [(.ref s_VALIDATE_name)])) (fun _ k => XS.aloadN X0.here hx rfl (hb hby d_jdk_42_method_66_code_0) rfl rfl k) ?_
  refine Go.of (T' := T0) (f' := (mkF m 2 #[.val (.ref s_VALIDATE_name), .val (.ref s_VALIDATE_name), .unset] [(.ref s_VALIDATE_name), (.ref s_VALIDATE_name)])) (fun _ k => XS.aloadN X0.here hx rfl (hb hby d_jdk_42_method_66_code_1) rfl rfl k) ?_
  refine Go.of (T' := T0) (f' := (mkF m 5 #[.val (.ref s_VALIDATE_name), .val (.ref s_VALIDATE_name), .unset] [])) (fun _ k => Jvm.RoadKit.acmp (g := (mkF m 2 #[.val (.ref s_VALIDATE_name), .val (.ref s_VALIDATE_name), .unset] [(.ref s_VALIDATE_name), (.ref s_VALIDATE_name)])) X0 hx rfl rfl rfl (pc0 := 2) (pc' := 5) (same := true) rfl (hb hby d_jdk_42_method_66_code_2) rfl (decide_eq_true rfl) (by decide) (by decide) k) ?_
  refine Go.of (T' := T0) (f' := (mkF m 6 #[.val (.ref s_VALIDATE_name), .val (.ref s_VALIDATE_name), .unset] [(.int (1 : Int32))])) (fun _ k => XS.iconst X0.here hx rfl (hb hby d_jdk_42_method_66_code_5) k) ?_
  exact Go.retB X0 hx hlk hret (by simp) (hb hby d_jdk_42_method_66_code_6) (by decide) (by decide) (z' := (1 : Int32)) rfl (by rw [e0]; exact ⟨rfl, rfl, by simp⟩)
theorem d_jdk_43_method_13_code_34 : decode jdk_43_method_13_code 34 = .ok (.iconst 0, 1) := by decide +kernel
theorem d_jdk_43_method_13_code_35 : decode jdk_43_method_13_code 35 = .ok (.ireturn, 1) := by decide +kernel
theorem ef_rm_l1ne01 (m : MethodId) (xa : Addr) (xb : Addr) : entryFrame m #[(.ref xa), (.ref xb)] 3 = mkF m 0 #[.val (.ref xa), .val (.ref xb), .unset] [] := by first | (simp [entryFrame, mkF, argsToLocals, Value.category]; done) | rfl
set_option maxRecDepth 65536 in
set_option maxHeartbeats 40000000 in
theorem rm_l1ne01 {l : Launch} {Z : State} {a0 : Array Value} {s__VALUES : Addr} {s_HITS : Addr} {s_RESULTS : Addr} {s_VALIDATE : Addr} {s_HITS_name : Addr} {s_RESULTS_name : Addr} {s_VALIDATE_name : Addr} {s_HITS_name_value : Addr} {s_RESULTS_name_value : Addr} {s_VALIDATE_name_value : Addr} {s_DEFAULTCAPACITY_EMPTY_ELEMENTDATA : Addr} {s_COMPACT_STRINGS : Int32} {cl_s__VALUES : Cell} {cl_s_HITS_name_value : Cell} {cl_s_RESULTS_name_value : Cell} {cl_s_VALIDATE_name_value : Cell} {cl_s_DEFAULTCAPACITY_EMPTY_ELEMENTDATA : Cell} (hw : ∀ d ∈ tables_1, d.before a0 Z = true) (G : own_Ctx Z s__VALUES s_HITS s_RESULTS s_VALIDATE s_HITS_name s_RESULTS_name s_VALIDATE_name s_HITS_name_value s_RESULTS_name_value s_VALIDATE_name_value s_DEFAULTCAPACITY_EMPTY_ELEMENTDATA s_COMPACT_STRINGS cl_s__VALUES cl_s_HITS_name_value cl_s_RESULTS_name_value cl_s_VALIDATE_name_value cl_s_DEFAULTCAPACITY_EMPTY_ELEMENTDATA) (xa : Addr) (xb : Addr) (ka : ClassId) (kb : ClassId) (va : List Value) (vb : List Value) (h0 : Heap) (O0 : Ext Z.heap h0) (prem0 : Arv Z h0 xa ka .byte (4 : Int32) va (.int (0 : Int32))) (prem1 : Arv Z h0 xb kb .byte (7 : Int32) vb (.int (0 : Int32))) :
    Ok l Z (⟨"java/lang/StringLatin1", "equals", "([B[B)Z"⟩ : MethodName) jdk_43_method_13_code 3 (some .boolean) ({ frames := 0, cells := 0, slots := 0, locals := 0 } : Room) #[(.ref xa), (.ref xb)] h0
      (fun v h L => v = some (.int (0 : Int32)) ∧ (h = h0) ∧ (L = [])) := by
  refine Ok.mk pn_java_lang_StringLatin1_equals___B_B_Z ?_
  intro p e s m below meth c T0 hx hby hml hown hnm hret hlk hZ e0 X0
  refine Go.cast (ef_rm_l1ne01 m xa xb) ?_
  obtain ⟨S__VALUES, E_s__VALUES, S_HITS, E_s_HITS, S_RESULTS, E_s_RESULTS, S_VALIDATE, E_s_VALIDATE, F_s_HITS_name, E_s_HITS_name, F_s_RESULTS_name, E_s_RESULTS_name, F_s_VALIDATE_name, E_s_VALIDATE_name, F_s_HITS_name_coder, F_s_HITS_name_value, F_s_RESULTS_name_coder, F_s_RESULTS_name_value, F_s_VALIDATE_name_coder, F_s_VALIDATE_name_value, ne_s_HITS_name_s_RESULTS_name, ne_s_HITS_name_s_VALIDATE_name, ne_s_RESULTS_name_s_VALIDATE_name, S_DEFAULTCAPACITY_EMPTY_ELEMENTDATA, E_s_DEFAULTCAPACITY_EMPTY_ELEMENTDATA, S_COMPACT_STRINGS, hne_s_COMPACT_STRINGS_0, V_s__VALUES, V_s_HITS_name_value, V_s_RESULTS_name_value, V_s_VALIDATE_name_value, V_s_DEFAULTCAPACITY_EMPTY_ELEMENTDATA⟩ := id G
  have N0 := Fr.nil Z.heap.size
  have K0 : Keep h0 h0 [] := Keep.refl _ _
  refine Go.of (T' := T0) (f' := (mkF m 1 #[.val (.ref xa), .val (.ref xb), .unset] [(.ref xa)])) (fun _ k => XS.aloadN X0.here hx rfl (hb hby d_jdk_43_method_13_code_0) rfl rfl k) ?_
  obtain ⟨cl387, Ar387, qk387, S387, Ng387, H387, G387⟩ := id prem0
  refine Go.of (T' := T0) (f' := (mkF m 2 #[.val (.ref xa), .val (.ref xb), .unset] [(.int (4 : Int32))])) (fun _ k => X0.arraylength hx (by rw [e0]; exact Ar387.1) (State.isArrayOf_alike hZ.alike Ar387.2.1) (g := (mkF m 1 #[.val (.ref xa), .val (.ref xb), .unset] [(.ref xa)])) rfl rfl (hb hby d_jdk_43_method_13_code_1) _ (by rw [len_of S387 Ng387]; exact k)) ?_
  refine Go.of (T' := T0) (f' := (mkF m 3 #[.val (.ref xa), .val (.ref xb), .unset] [(.ref xb), (.int (4 : Int32))])) (fun _ k => XS.aloadN X0.here hx rfl (hb hby d_jdk_43_method_13_code_2) rfl rfl k) ?_
  obtain ⟨cl388, Ar388, qk388, S388, Ng388, H388, G388⟩ := id prem1
  refine Go.of (T' := T0) (f' := (mkF m 4 #[.val (.ref xa), .val (.ref xb), .unset] [(.int (7 : Int32)), (.int (4 : Int32))])) (fun _ k => X0.arraylength hx (by rw [e0]; exact Ar388.1) (State.isArrayOf_alike hZ.alike Ar388.2.1) (g := (mkF m 3 #[.val (.ref xa), .val (.ref xb), .unset] [(.ref xb), (.int (4 : Int32))])) rfl rfl (hb hby d_jdk_43_method_13_code_3) _ (by rw [len_of S388 Ng388]; exact k)) ?_
  refine Go.of (T' := T0) (f' := (mkF m 34 #[.val (.ref xa), .val (.ref xb), .unset] [])) (fun _ k => XS.icmpYes X0.here hx rfl (pc0 := 4) (pc' := 34) rfl (hb hby d_jdk_43_method_13_code_4) rfl (feq (by decide : ¬ ((4 : Int32) = (7 : Int32)))).2 (by decide) (by decide) k) ?_
  refine Go.of (T' := T0) (f' := (mkF m 35 #[.val (.ref xa), .val (.ref xb), .unset] [(.int (0 : Int32))])) (fun _ k => XS.iconst X0.here hx rfl (hb hby d_jdk_43_method_13_code_34) k) ?_
  exact Go.retB X0 hx hlk hret (by simp) (hb hby d_jdk_43_method_13_code_35) (by decide) (by decide) (z' := (0 : Int32)) rfl (by rw [e0]; exact ⟨rfl, rfl, by simp⟩)
theorem d_jdk_42_method_66_code_54 : decode jdk_42_method_66_code 54 = .ok (.iconst 0, 1) := by decide +kernel
theorem ef_rm_eqn01 (m : MethodId) (s_HITS_name : Addr) (s_RESULTS_name : Addr) : entryFrame m #[(.ref s_HITS_name), (.ref s_RESULTS_name)] 3 = mkF m 0 #[.val (.ref s_HITS_name), .val (.ref s_RESULTS_name), .unset] [] := by first | (simp [entryFrame, mkF, argsToLocals, Value.category]; done) | rfl
set_option maxRecDepth 65536 in
set_option maxHeartbeats 40000000 in
theorem rm_eqn01 {l : Launch} {Z : State} {a0 : Array Value} {s__VALUES : Addr} {s_HITS : Addr} {s_RESULTS : Addr} {s_VALIDATE : Addr} {s_HITS_name : Addr} {s_RESULTS_name : Addr} {s_VALIDATE_name : Addr} {s_HITS_name_value : Addr} {s_RESULTS_name_value : Addr} {s_VALIDATE_name_value : Addr} {s_DEFAULTCAPACITY_EMPTY_ELEMENTDATA : Addr} {s_COMPACT_STRINGS : Int32} {cl_s__VALUES : Cell} {cl_s_HITS_name_value : Cell} {cl_s_RESULTS_name_value : Cell} {cl_s_VALIDATE_name_value : Cell} {cl_s_DEFAULTCAPACITY_EMPTY_ELEMENTDATA : Cell} (hw : ∀ d ∈ tables_1, d.before a0 Z = true) (G : own_Ctx Z s__VALUES s_HITS s_RESULTS s_VALIDATE s_HITS_name s_RESULTS_name s_VALIDATE_name s_HITS_name_value s_RESULTS_name_value s_VALIDATE_name_value s_DEFAULTCAPACITY_EMPTY_ELEMENTDATA s_COMPACT_STRINGS cl_s__VALUES cl_s_HITS_name_value cl_s_RESULTS_name_value cl_s_VALIDATE_name_value cl_s_DEFAULTCAPACITY_EMPTY_ELEMENTDATA)   (h0 : Heap) (O0 : Ext Z.heap h0)  :
    Ok l Z (⟨"java/lang/String", "equals", "(Ljava/lang/Object;)Z"⟩ : MethodName) jdk_42_method_66_code 3 (some .boolean) ({ frames := 1, cells := 0, slots := 0, locals := 14 } : Room) #[(.ref s_HITS_name), (.ref s_RESULTS_name)] h0
      (fun v h L => v = some (.int (0 : Int32)) ∧ (h = h0) ∧ (L = [])) := by
  refine Ok.mk pn_java_lang_String_equals__Ljava_lang_Object__Z ?_
  intro p e s m below meth c T0 hx hby hml hown hnm hret hlk hZ e0 X0
  refine Go.cast (ef_rm_eqn01 m s_HITS_name s_RESULTS_name) ?_
  obtain ⟨S__VALUES, E_s__VALUES, S_HITS, E_s_HITS, S_RESULTS, E_s_RESULTS, S_VALIDATE, E_s_VALIDATE, F_s_HITS_name, E_s_HITS_name, F_s_RESULTS_name, E_s_RESULTS_name, F_s_VALIDATE_name, E_s_VALIDATE_name, F_s_HITS_name_coder, F_s_HITS_name_value, F_s_RESULTS_name_coder, F_s_RESULTS_name_value, F_s_VALIDATE_name_coder, F_s_VALIDATE_name_value, ne_s_HITS_name_s_RESULTS_name, ne_s_HITS_name_s_VALIDATE_name, ne_s_RESULTS_name_s_VALIDATE_name, S_DEFAULTCAPACITY_EMPTY_ELEMENTDATA, E_s_DEFAULTCAPACITY_EMPTY_ELEMENTDATA, S_COMPACT_STRINGS, hne_s_COMPACT_STRINGS_0, V_s__VALUES, V_s_HITS_name_value, V_s_RESULTS_name_value, V_s_VALIDATE_name_value, V_s_DEFAULTCAPACITY_EMPTY_ELEMENTDATA⟩ := id G
  have N0 := Fr.nil Z.heap.size
  have K0 : Keep h0 h0 [] := Keep.refl _ _
  refine Go.of (T' := T0) (f' := (mkF m 1 #[.val (.ref s_HITS_name), .val (.ref s_RESULTS_name), .unset] [(.ref s_HITS_name)])) (fun _ k => XS.aloadN X0.here hx rfl (hb hby d_jdk_42_method_66_code_0) rfl rfl k) ?_
  refine Go.of (T' := T0) (f' := (mkF m 2 #[.val (.ref s_HITS_name), .val (.ref s_RESULTS_name), .unset] [(.ref s_RESULTS_name), (.ref s_HITS_name)])) (fun _ k => XS.aloadN X0.here hx rfl (hb hby d_jdk_42_method_66_code_1) rfl rfl k) ?_
  have hc390 : ¬ (s_HITS_name = s_RESULTS_name) := ne_s_HITS_name_s_RESULTS_name
  refine Go.of (T' := T0) (f' := (mkF m 7 #[.val (.ref s_HITS_name), .val (.ref s_RESULTS_name), .unset] [])) (fun _ k => Jvm.RoadKit.acmp (g := (mkF m 2 #[.val (.ref s_HITS_name), .val (.ref s_RESULTS_name), .unset] [(.ref s_RESULTS_name), (.ref s_HITS_name)])) X0 hx rfl rfl rfl (pc0 := 2) (pc' := 7) (same := false) rfl (hb hby d_jdk_42_method_66_code_2) rfl (decide_eq_false fun q => hc390 (Value.ref.inj q)) (by decide) (by decide) k) ?_
  refine Go.of (T' := T0) (f' := (mkF m 8 #[.val (.ref s_HITS_name), .val (.ref s_RESULTS_name), .unset] [(.ref s_RESULTS_name)])) (fun _ k => XS.aloadN X0.here hx rfl (hb hby d_jdk_42_method_66_code_7) rfl rfl k) ?_
  obtain ⟨T391, X391, e391, st391⟩ := instY X0 hx hZ hown (hw _ (List.mem_of_getElem? (i := 102) rfl)) e0 (Ins.self (Exa.ext O0 E_s_RESULTS_name)) (g := (mkF m 8 #[.val (.ref s_HITS_name), .val (.ref s_RESULTS_name), .unset] [(.ref s_RESULTS_name)])) rfl rfl (hb hby d_jdk_42_method_66_code_8)
  refine Go.of (T' := T391) (f' := (mkF m 11 #[.val (.ref s_HITS_name), .val (.ref s_RESULTS_name), .unset] [(.int (1 : Int32))])) (fun _ k => st391 _ k) ?_
  refine Go.of (T' := T391) (f' := (mkF m 14 #[.val (.ref s_HITS_name), .val (.ref s_RESULTS_name), .unset] [])) (fun _ k => XS.ifNo X391.here hx rfl (hb hby d_jdk_42_method_66_code_11) rfl ((if0 _ _).trans (feq (by decide : ¬ ((1 : Int32) = (0 : Int32)))).1) k) ?_
  refine Go.of (T' := T391) (f' := (mkF m 15 #[.val (.ref s_HITS_name), .val (.ref s_RESULTS_name), .unset] [(.ref s_RESULTS_name)])) (fun _ k => XS.aloadN X391.here hx rfl (hb hby d_jdk_42_method_66_code_14) rfl rfl k) ?_
  obtain ⟨T393, X393, e393, st393⟩ := castY X391 hx hZ hown (hw _ (List.mem_of_getElem? (i := 102) rfl)) e391 (Ins.self (Exa.ext O0 E_s_RESULTS_name)) (g := (mkF m 15 #[.val (.ref s_HITS_name), .val (.ref s_RESULTS_name), .unset] [(.ref s_RESULTS_name)])) rfl rfl (hb hby d_jdk_42_method_66_code_15)
  refine Go.of (T' := T393) (f' := (mkF m 18 #[.val (.ref s_HITS_name), .val (.ref s_RESULTS_name), .unset] [(.ref s_RESULTS_name)])) (fun _ k => st393 _ k) ?_
  refine Go.of (T' := T393) (f' := (mkF m 19 #[.val (.ref s_HITS_name), .val (.ref s_RESULTS_name), .val (.ref s_RESULTS_name)] [])) (fun _ k => XS.astoreN X393.here hx rfl (hb hby d_jdk_42_method_66_code_18) rfl rfl (l' := #[.val (.ref s_HITS_name), .val (.ref s_RESULTS_name), .val (.ref s_RESULTS_name)]) rfl k) ?_
  obtain ⟨T394, X394, e394, st394⟩ := getS2 X393 hx hZ hown (host := "") (Or.inl (hw _ (List.mem_of_getElem? (i := 97) rfl))) Via.refl e393 (Sta.ext O0 S_COMPACT_STRINGS) (g := (mkF m 19 #[.val (.ref s_HITS_name), .val (.ref s_RESULTS_name), .val (.ref s_RESULTS_name)] [])) rfl (hb hby d_jdk_42_method_66_code_19)
  refine Go.of (T' := T394) (f' := (mkF m 22 #[.val (.ref s_HITS_name), .val (.ref s_RESULTS_name), .val (.ref s_RESULTS_name)] [(.int s_COMPACT_STRINGS)])) (fun _ k => st394 _ k) ?_
  have hc395 : ¬ (s_COMPACT_STRINGS = (0 : Int32)) := hne_s_COMPACT_STRINGS_0
  refine Go.of (T' := T394) (f' := (mkF m 25 #[.val (.ref s_HITS_name), .val (.ref s_RESULTS_name), .val (.ref s_RESULTS_name)] [])) (fun _ k => XS.ifNo X394.here hx rfl (hb hby d_jdk_42_method_66_code_22) rfl ((if0 _ _).trans (feq hc395).1) k) ?_
  refine Go.of (T' := T394) (f' := (mkF m 26 #[.val (.ref s_HITS_name), .val (.ref s_RESULTS_name), .val (.ref s_RESULTS_name)] [(.ref s_HITS_name)])) (fun _ k => XS.aloadN X394.here hx rfl (hb hby d_jdk_42_method_66_code_25) rfl rfl k) ?_
  obtain ⟨T396, X396, e396, st396⟩ := getF X394 hx hZ hown (host := "") (Or.inl (hw _ (List.mem_of_getElem? (i := 115) rfl))) Via.refl e394 (Fld.ext O0 F_s_HITS_name_coder) (g := (mkF m 26 #[.val (.ref s_HITS_name), .val (.ref s_RESULTS_name), .val (.ref s_RESULTS_name)] [(.ref s_HITS_name)])) rfl rfl (hb hby d_jdk_42_method_66_code_26)
  refine Go.of (T' := T396) (f' := (mkF m 29 #[.val (.ref s_HITS_name), .val (.ref s_RESULTS_name), .val (.ref s_RESULTS_name)] [(.int (0 : Int32))])) (fun _ k => st396 _ k) ?_
  refine Go.of (T' := T396) (f' := (mkF m 30 #[.val (.ref s_HITS_name), .val (.ref s_RESULTS_name), .val (.ref s_RESULTS_name)] [(.ref s_RESULTS_name), (.int (0 : Int32))])) (fun _ k => XS.aloadN X396.here hx rfl (hb hby d_jdk_42_method_66_code_29) rfl rfl k) ?_
  obtain ⟨T397, X397, e397, st397⟩ := getF X396 hx hZ hown (host := "") (Or.inl (hw _ (List.mem_of_getElem? (i := 115) rfl))) Via.refl e396 (Fld.ext O0 F_s_RESULTS_name_coder) (g := (mkF m 30 #[.val (.ref s_HITS_name), .val (.ref s_RESULTS_name), .val (.ref s_RESULTS_name)] [(.ref s_RESULTS_name), (.int (0 : Int32))])) rfl rfl (hb hby d_jdk_42_method_66_code_30)
  refine Go.of (T' := T397) (f' := (mkF m 33 #[.val (.ref s_HITS_name), .val (.ref s_RESULTS_name), .val (.ref s_RESULTS_name)] [(.int (0 : Int32)), (.int (0 : Int32))])) (fun _ k => st397 _ k) ?_
  refine Go.of (T' := T397) (f' := (mkF m 36 #[.val (.ref s_HITS_name), .val (.ref s_RESULTS_name), .val (.ref s_RESULTS_name)] [])) (fun _ k => XS.icmpNo X397.here hx rfl (hb hby d_jdk_42_method_66_code_33) rfl (teq (by decide : (0 : Int32) = (0 : Int32))).2 k) ?_
  refine Go.of (T' := T397) (f' := (mkF m 37 #[.val (.ref s_HITS_name), .val (.ref s_RESULTS_name), .val (.ref s_RESULTS_name)] [(.ref s_HITS_name)])) (fun _ k => XS.aloadN X397.here hx rfl (hb hby d_jdk_42_method_66_code_36) rfl rfl k) ?_
  obtain ⟨T399, X399, e399, st399⟩ := getF X397 hx hZ hown (host := "") (Or.inl (hw _ (List.mem_of_getElem? (i := 113) rfl))) Via.refl e397 (Fld.ext O0 F_s_HITS_name_value) (g := (mkF m 37 #[.val (.ref s_HITS_name), .val (.ref s_RESULTS_name), .val (.ref s_RESULTS_name)] [(.ref s_HITS_name)])) rfl rfl (hb hby d_jdk_42_method_66_code_37)
  refine Go.of (T' := T399) (f' := (mkF m 40 #[.val (.ref s_HITS_name), .val (.ref s_RESULTS_name), .val (.ref s_RESULTS_name)] [(.ref s_HITS_name_value)])) (fun _ k => st399 _ k) ?_
  refine Go.of (T' := T399) (f' := (mkF m 41 #[.val (.ref s_HITS_name), .val (.ref s_RESULTS_name), .val (.ref s_RESULTS_name)] [(.ref s_RESULTS_name), (.ref s_HITS_name_value)])) (fun _ k => XS.aloadN X399.here hx rfl (hb hby d_jdk_42_method_66_code_40) rfl rfl k) ?_
  obtain ⟨T400, X400, e400, st400⟩ := getF X399 hx hZ hown (host := "") (Or.inl (hw _ (List.mem_of_getElem? (i := 113) rfl))) Via.refl e399 (Fld.ext O0 F_s_RESULTS_name_value) (g := (mkF m 41 #[.val (.ref s_HITS_name), .val (.ref s_RESULTS_name), .val (.ref s_RESULTS_name)] [(.ref s_RESULTS_name), (.ref s_HITS_name_value)])) rfl rfl (hb hby d_jdk_42_method_66_code_41)
  refine Go.of (T' := T400) (f' := (mkF m 44 #[.val (.ref s_HITS_name), .val (.ref s_RESULTS_name), .val (.ref s_RESULTS_name)] [(.ref s_RESULTS_name_value), (.ref s_HITS_name_value)])) (fun _ k => st400 _ k) ?_
  obtain ⟨T401, v401, L401, X401, q401, st401⟩ := callSt X400 hx hZ (y := (⟨"java/lang/StringLatin1", "equals", "([B[B)Z"⟩ : MethodName)) hown (hw _ (List.mem_of_getElem? (i := 148) rfl)) (hw _ (List.mem_of_getElem? (i := 149) rfl)) (hw _ (List.mem_of_getElem? (i := 100) rfl)) (hw _ (List.mem_of_getElem? (i := 150) rfl)) (by decide) (rm_l1ne01 hw G s_HITS_name_value s_RESULTS_name_value cl_s_HITS_name_value.cls cl_s_RESULTS_name_value.cls ([(.int (104 : Int32)), (.int (105 : Int32)), (.int (116 : Int32)), (.int (115 : Int32))]) ([(.int (114 : Int32)), (.int (101 : Int32)), (.int (115 : Int32)), (.int (117 : Int32)), (.int (108 : Int32)), (.int (116 : Int32)), (.int (115 : Int32))]) h0 O0 (Arv.ext V_s_HITS_name_value O0) (Arv.ext V_s_RESULTS_name_value O0)) e400 (W := 0) (by decide) (by decide) (by decide) (by decide) (g := (mkF m 44 #[.val (.ref s_HITS_name), .val (.ref s_RESULTS_name), .val (.ref s_RESULTS_name)] [(.ref s_RESULTS_name_value), (.ref s_HITS_name_value)])) rfl (by rw [hml]; rfl) (argsL := [(.ref s_HITS_name_value), (.ref s_RESULTS_name_value)]) (rest := []) (lenOf pd___B_B_Z rfl) rfl rfl (by show 2 * 0 + _ ≤ _; exact Nat.le_of_eq rfl) (hb hby d_jdk_42_method_66_code_44)
  obtain ⟨rfl, e401, rfl⟩ := q401
  have N401 := Fr.app N0 (Fr.nil _)
  refine Go.of (T' := T401) (f' := (mkF m 47 #[.val (.ref s_HITS_name), .val (.ref s_RESULTS_name), .val (.ref s_RESULTS_name)] [(.int (0 : Int32))])) (fun _ k => st401 _ k) ?_
  refine Go.of (T' := T401) (f' := (mkF m 54 #[.val (.ref s_HITS_name), .val (.ref s_RESULTS_name), .val (.ref s_RESULTS_name)] [])) (fun _ k => XS.ifYes X401.here hx rfl (pc0 := 47) (pc' := 54) rfl (hb hby d_jdk_42_method_66_code_47) rfl ((if0 _ _).trans (teq (by decide : (0 : Int32) = (0 : Int32))).1) (by decide) (by decide) k) ?_
  refine Go.of (T' := T401) (f' := (mkF m 55 #[.val (.ref s_HITS_name), .val (.ref s_RESULTS_name), .val (.ref s_RESULTS_name)] [(.int (0 : Int32))])) (fun _ k => XS.iconst X401.here hx rfl (hb hby d_jdk_42_method_66_code_54) k) ?_
  exact Go.retB X401 hx hlk hret (by simp) (hb hby d_jdk_42_method_66_code_55) (by decide) (by decide) (z' := (0 : Int32)) rfl (by rw [e401]; exact ⟨rfl, rfl, by simp⟩)
theorem ef_rm_l1ne02 (m : MethodId) (xa : Addr) (xb : Addr) : entryFrame m #[(.ref xa), (.ref xb)] 3 = mkF m 0 #[.val (.ref xa), .val (.ref xb), .unset] [] := by first | (simp [entryFrame, mkF, argsToLocals, Value.category]; done) | rfl
set_option maxRecDepth 65536 in
set_option maxHeartbeats 40000000 in
theorem rm_l1ne02 {l : Launch} {Z : State} {a0 : Array Value} {s__VALUES : Addr} {s_HITS : Addr} {s_RESULTS : Addr} {s_VALIDATE : Addr} {s_HITS_name : Addr} {s_RESULTS_name : Addr} {s_VALIDATE_name : Addr} {s_HITS_name_value : Addr} {s_RESULTS_name_value : Addr} {s_VALIDATE_name_value : Addr} {s_DEFAULTCAPACITY_EMPTY_ELEMENTDATA : Addr} {s_COMPACT_STRINGS : Int32} {cl_s__VALUES : Cell} {cl_s_HITS_name_value : Cell} {cl_s_RESULTS_name_value : Cell} {cl_s_VALIDATE_name_value : Cell} {cl_s_DEFAULTCAPACITY_EMPTY_ELEMENTDATA : Cell} (hw : ∀ d ∈ tables_1, d.before a0 Z = true) (G : own_Ctx Z s__VALUES s_HITS s_RESULTS s_VALIDATE s_HITS_name s_RESULTS_name s_VALIDATE_name s_HITS_name_value s_RESULTS_name_value s_VALIDATE_name_value s_DEFAULTCAPACITY_EMPTY_ELEMENTDATA s_COMPACT_STRINGS cl_s__VALUES cl_s_HITS_name_value cl_s_RESULTS_name_value cl_s_VALIDATE_name_value cl_s_DEFAULTCAPACITY_EMPTY_ELEMENTDATA) (xa : Addr) (xb : Addr) (ka : ClassId) (kb : ClassId) (va : List Value) (vb : List Value) (h0 : Heap) (O0 : Ext Z.heap h0) (prem0 : Arv Z h0 xa ka .byte (4 : Int32) va (.int (0 : Int32))) (prem1 : Arv Z h0 xb kb .byte (8 : Int32) vb (.int (0 : Int32))) :
    Ok l Z (⟨"java/lang/StringLatin1", "equals", "([B[B)Z"⟩ : MethodName) jdk_43_method_13_code 3 (some .boolean) ({ frames := 0, cells := 0, slots := 0, locals := 0 } : Room) #[(.ref xa), (.ref xb)] h0
      (fun v h L => v = some (.int (0 : Int32)) ∧ (h = h0) ∧ (L = [])) := by
  refine Ok.mk pn_java_lang_StringLatin1_equals___B_B_Z ?_
  intro p e s m below meth c T0 hx hby hml hown hnm hret hlk hZ e0 X0
  refine Go.cast (ef_rm_l1ne02 m xa xb) ?_
  obtain ⟨S__VALUES, E_s__VALUES, S_HITS, E_s_HITS, S_RESULTS, E_s_RESULTS, S_VALIDATE, E_s_VALIDATE, F_s_HITS_name, E_s_HITS_name, F_s_RESULTS_name, E_s_RESULTS_name, F_s_VALIDATE_name, E_s_VALIDATE_name, F_s_HITS_name_coder, F_s_HITS_name_value, F_s_RESULTS_name_coder, F_s_RESULTS_name_value, F_s_VALIDATE_name_coder, F_s_VALIDATE_name_value, ne_s_HITS_name_s_RESULTS_name, ne_s_HITS_name_s_VALIDATE_name, ne_s_RESULTS_name_s_VALIDATE_name, S_DEFAULTCAPACITY_EMPTY_ELEMENTDATA, E_s_DEFAULTCAPACITY_EMPTY_ELEMENTDATA, S_COMPACT_STRINGS, hne_s_COMPACT_STRINGS_0, V_s__VALUES, V_s_HITS_name_value, V_s_RESULTS_name_value, V_s_VALIDATE_name_value, V_s_DEFAULTCAPACITY_EMPTY_ELEMENTDATA⟩ := id G
  have N0 := Fr.nil Z.heap.size
  have K0 : Keep h0 h0 [] := Keep.refl _ _
  refine Go.of (T' := T0) (f' := (mkF m 1 #[.val (.ref xa), .val (.ref xb), .unset] [(.ref xa)])) (fun _ k => XS.aloadN X0.here hx rfl (hb hby d_jdk_43_method_13_code_0) rfl rfl k) ?_
  obtain ⟨cl403, Ar403, qk403, S403, Ng403, H403, G403⟩ := id prem0
  refine Go.of (T' := T0) (f' := (mkF m 2 #[.val (.ref xa), .val (.ref xb), .unset] [(.int (4 : Int32))])) (fun _ k => X0.arraylength hx (by rw [e0]; exact Ar403.1) (State.isArrayOf_alike hZ.alike Ar403.2.1) (g := (mkF m 1 #[.val (.ref xa), .val (.ref xb), .unset] [(.ref xa)])) rfl rfl (hb hby d_jdk_43_method_13_code_1) _ (by rw [len_of S403 Ng403]; exact k)) ?_
  refine Go.of (T' := T0) (f' := (mkF m 3 #[.val (.ref xa), .val (.ref xb), .unset] [(.ref xb), (.int (4 : Int32))])) (fun _ k => XS.aloadN X0.here hx rfl (hb hby d_jdk_43_method_13_code_2) rfl rfl k) ?_
  obtain ⟨cl404, Ar404, qk404, S404, Ng404, H404, G404⟩ := id prem1
  refine Go.of (T' := T0) (f' := (mkF m 4 #[.val (.ref xa), .val (.ref xb), .unset] [(.int (8 : Int32)), (.int (4 : Int32))])) (fun _ k => X0.arraylength hx (by rw [e0]; exact Ar404.1) (State.isArrayOf_alike hZ.alike Ar404.2.1) (g := (mkF m 3 #[.val (.ref xa), .val (.ref xb), .unset] [(.ref xb), (.int (4 : Int32))])) rfl rfl (hb hby d_jdk_43_method_13_code_3) _ (by rw [len_of S404 Ng404]; exact k)) ?_
  refine Go.of (T' := T0) (f' := (mkF m 34 #[.val (.ref xa), .val (.ref xb), .unset] [])) (fun _ k => XS.icmpYes X0.here hx rfl (pc0 := 4) (pc' := 34) rfl (hb hby d_jdk_43_method_13_code_4) rfl (feq (by decide : ¬ ((4 : Int32) = (8 : Int32)))).2 (by decide) (by decide) k) ?_
  refine Go.of (T' := T0) (f' := (mkF m 35 #[.val (.ref xa), .val (.ref xb), .unset] [(.int (0 : Int32))])) (fun _ k => XS.iconst X0.here hx rfl (hb hby d_jdk_43_method_13_code_34) k) ?_
  exact Go.retB X0 hx hlk hret (by simp) (hb hby d_jdk_43_method_13_code_35) (by decide) (by decide) (z' := (0 : Int32)) rfl (by rw [e0]; exact ⟨rfl, rfl, by simp⟩)
theorem ef_rm_eqn02 (m : MethodId) (s_HITS_name : Addr) (s_VALIDATE_name : Addr) : entryFrame m #[(.ref s_HITS_name), (.ref s_VALIDATE_name)] 3 = mkF m 0 #[.val (.ref s_HITS_name), .val (.ref s_VALIDATE_name), .unset] [] := by first | (simp [entryFrame, mkF, argsToLocals, Value.category]; done) | rfl
set_option maxRecDepth 65536 in
set_option maxHeartbeats 40000000 in
theorem rm_eqn02 {l : Launch} {Z : State} {a0 : Array Value} {s__VALUES : Addr} {s_HITS : Addr} {s_RESULTS : Addr} {s_VALIDATE : Addr} {s_HITS_name : Addr} {s_RESULTS_name : Addr} {s_VALIDATE_name : Addr} {s_HITS_name_value : Addr} {s_RESULTS_name_value : Addr} {s_VALIDATE_name_value : Addr} {s_DEFAULTCAPACITY_EMPTY_ELEMENTDATA : Addr} {s_COMPACT_STRINGS : Int32} {cl_s__VALUES : Cell} {cl_s_HITS_name_value : Cell} {cl_s_RESULTS_name_value : Cell} {cl_s_VALIDATE_name_value : Cell} {cl_s_DEFAULTCAPACITY_EMPTY_ELEMENTDATA : Cell} (hw : ∀ d ∈ tables_1, d.before a0 Z = true) (G : own_Ctx Z s__VALUES s_HITS s_RESULTS s_VALIDATE s_HITS_name s_RESULTS_name s_VALIDATE_name s_HITS_name_value s_RESULTS_name_value s_VALIDATE_name_value s_DEFAULTCAPACITY_EMPTY_ELEMENTDATA s_COMPACT_STRINGS cl_s__VALUES cl_s_HITS_name_value cl_s_RESULTS_name_value cl_s_VALIDATE_name_value cl_s_DEFAULTCAPACITY_EMPTY_ELEMENTDATA)   (h0 : Heap) (O0 : Ext Z.heap h0)  :
    Ok l Z (⟨"java/lang/String", "equals", "(Ljava/lang/Object;)Z"⟩ : MethodName) jdk_42_method_66_code 3 (some .boolean) ({ frames := 1, cells := 0, slots := 0, locals := 14 } : Room) #[(.ref s_HITS_name), (.ref s_VALIDATE_name)] h0
      (fun v h L => v = some (.int (0 : Int32)) ∧ (h = h0) ∧ (L = [])) := by
  refine Ok.mk pn_java_lang_String_equals__Ljava_lang_Object__Z ?_
  intro p e s m below meth c T0 hx hby hml hown hnm hret hlk hZ e0 X0
  refine Go.cast (ef_rm_eqn02 m s_HITS_name s_VALIDATE_name) ?_
  obtain ⟨S__VALUES, E_s__VALUES, S_HITS, E_s_HITS, S_RESULTS, E_s_RESULTS, S_VALIDATE, E_s_VALIDATE, F_s_HITS_name, E_s_HITS_name, F_s_RESULTS_name, E_s_RESULTS_name, F_s_VALIDATE_name, E_s_VALIDATE_name, F_s_HITS_name_coder, F_s_HITS_name_value, F_s_RESULTS_name_coder, F_s_RESULTS_name_value, F_s_VALIDATE_name_coder, F_s_VALIDATE_name_value, ne_s_HITS_name_s_RESULTS_name, ne_s_HITS_name_s_VALIDATE_name, ne_s_RESULTS_name_s_VALIDATE_name, S_DEFAULTCAPACITY_EMPTY_ELEMENTDATA, E_s_DEFAULTCAPACITY_EMPTY_ELEMENTDATA, S_COMPACT_STRINGS, hne_s_COMPACT_STRINGS_0, V_s__VALUES, V_s_HITS_name_value, V_s_RESULTS_name_value, V_s_VALIDATE_name_value, V_s_DEFAULTCAPACITY_EMPTY_ELEMENTDATA⟩ := id G
  have N0 := Fr.nil Z.heap.size
  have K0 : Keep h0 h0 [] := Keep.refl _ _
  refine Go.of (T' := T0) (f' := (mkF m 1 #[.val (.ref s_HITS_name), .val (.ref s_VALIDATE_name), .unset] [(.ref s_HITS_name)])) (fun _ k => XS.aloadN X0.here hx rfl (hb hby d_jdk_42_method_66_code_0) rfl rfl k) ?_
  refine Go.of (T' := T0) (f' := (mkF m 2 #[.val (.ref s_HITS_name), .val (.ref s_VALIDATE_name), .unset] [(.ref s_VALIDATE_name), (.ref s_HITS_name)])) (fun _ k => XS.aloadN X0.here hx rfl (hb hby d_jdk_42_method_66_code_1) rfl rfl k) ?_
  have hc406 : ¬ (s_HITS_name = s_VALIDATE_name) := ne_s_HITS_name_s_VALIDATE_name
  refine Go.of (T' := T0) (f' := (mkF m 7 #[.val (.ref s_HITS_name), .val (.ref s_VALIDATE_name), .unset] [])) (fun _ k => Jvm.RoadKit.acmp (g := (mkF m 2 #[.val (.ref s_HITS_name), .val (.ref s_VALIDATE_name), .unset] [(.ref s_VALIDATE_name), (.ref s_HITS_name)])) X0 hx rfl rfl rfl (pc0 := 2) (pc' := 7) (same := false) rfl (hb hby d_jdk_42_method_66_code_2) rfl (decide_eq_false fun q => hc406 (Value.ref.inj q)) (by decide) (by decide) k) ?_
  refine Go.of (T' := T0) (f' := (mkF m 8 #[.val (.ref s_HITS_name), .val (.ref s_VALIDATE_name), .unset] [(.ref s_VALIDATE_name)])) (fun _ k => XS.aloadN X0.here hx rfl (hb hby d_jdk_42_method_66_code_7) rfl rfl k) ?_
  obtain ⟨T407, X407, e407, st407⟩ := instY X0 hx hZ hown (hw _ (List.mem_of_getElem? (i := 102) rfl)) e0 (Ins.self (Exa.ext O0 E_s_VALIDATE_name)) (g := (mkF m 8 #[.val (.ref s_HITS_name), .val (.ref s_VALIDATE_name), .unset] [(.ref s_VALIDATE_name)])) rfl rfl (hb hby d_jdk_42_method_66_code_8)
  refine Go.of (T' := T407) (f' := (mkF m 11 #[.val (.ref s_HITS_name), .val (.ref s_VALIDATE_name), .unset] [(.int (1 : Int32))])) (fun _ k => st407 _ k) ?_
  refine Go.of (T' := T407) (f' := (mkF m 14 #[.val (.ref s_HITS_name), .val (.ref s_VALIDATE_name), .unset] [])) (fun _ k => XS.ifNo X407.here hx rfl (hb hby d_jdk_42_method_66_code_11) rfl ((if0 _ _).trans (feq (by decide : ¬ ((1 : Int32) = (0 : Int32)))).1) k) ?_
  refine Go.of (T' := T407) (f' := (mkF m 15 #[.val (.ref s_HITS_name), .val (.ref s_VALIDATE_name), .unset] [(.ref s_VALIDATE_name)])) (fun _ k => XS.aloadN X407.here hx rfl (hb hby d_jdk_42_method_66_code_14) rfl rfl k) ?_
  obtain ⟨T409, X409, e409, st409⟩ := castY X407 hx hZ hown (hw _ (List.mem_of_getElem? (i := 102) rfl)) e407 (Ins.self (Exa.ext O0 E_s_VALIDATE_name)) (g := (mkF m 15 #[.val (.ref s_HITS_name), .val (.ref s_VALIDATE_name), .unset] [(.ref s_VALIDATE_name)])) rfl rfl (hb hby d_jdk_42_method_66_code_15)
  refine Go.of (T' := T409) (f' := (mkF m 18 #[.val (.ref s_HITS_name), .val (.ref s_VALIDATE_name), .unset] [(.ref s_VALIDATE_name)])) (fun _ k => st409 _ k) ?_
  refine Go.of (T' := T409) (f' := (mkF m 19 #[.val (.ref s_HITS_name), .val (.ref s_VALIDATE_name), .val (.ref s_VALIDATE_name)] [])) (fun _ k => XS.astoreN X409.here hx rfl (hb hby d_jdk_42_method_66_code_18) rfl rfl (l' := #[.val (.ref s_HITS_name), .val (.ref s_VALIDATE_name), .val (.ref s_VALIDATE_name)]) rfl k) ?_
  obtain ⟨T410, X410, e410, st410⟩ := getS2 X409 hx hZ hown (host := "") (Or.inl (hw _ (List.mem_of_getElem? (i := 97) rfl))) Via.refl e409 (Sta.ext O0 S_COMPACT_STRINGS) (g := (mkF m 19 #[.val (.ref s_HITS_name), .val (.ref s_VALIDATE_name), .val (.ref s_VALIDATE_name)] [])) rfl (hb hby d_jdk_42_method_66_code_19)
  refine Go.of (T' := T410) (f' := (mkF m 22 #[.val (.ref s_HITS_name), .val (.ref s_VALIDATE_name), .val (.ref s_VALIDATE_name)] [(.int s_COMPACT_STRINGS)])) (fun _ k => st410 _ k) ?_
  have hc411 : ¬ (s_COMPACT_STRINGS = (0 : Int32)) := hne_s_COMPACT_STRINGS_0
  refine Go.of (T' := T410) (f' := (mkF m 25 #[.val (.ref s_HITS_name), .val (.ref s_VALIDATE_name), .val (.ref s_VALIDATE_name)] [])) (fun _ k => XS.ifNo X410.here hx rfl (hb hby d_jdk_42_method_66_code_22) rfl ((if0 _ _).trans (feq hc411).1) k) ?_
  refine Go.of (T' := T410) (f' := (mkF m 26 #[.val (.ref s_HITS_name), .val (.ref s_VALIDATE_name), .val (.ref s_VALIDATE_name)] [(.ref s_HITS_name)])) (fun _ k => XS.aloadN X410.here hx rfl (hb hby d_jdk_42_method_66_code_25) rfl rfl k) ?_
  obtain ⟨T412, X412, e412, st412⟩ := getF X410 hx hZ hown (host := "") (Or.inl (hw _ (List.mem_of_getElem? (i := 115) rfl))) Via.refl e410 (Fld.ext O0 F_s_HITS_name_coder) (g := (mkF m 26 #[.val (.ref s_HITS_name), .val (.ref s_VALIDATE_name), .val (.ref s_VALIDATE_name)] [(.ref s_HITS_name)])) rfl rfl (hb hby d_jdk_42_method_66_code_26)
  refine Go.of (T' := T412) (f' := (mkF m 29 #[.val (.ref s_HITS_name), .val (.ref s_VALIDATE_name), .val (.ref s_VALIDATE_name)] [(.int (0 : Int32))])) (fun _ k => st412 _ k) ?_
  refine Go.of (T' := T412) (f' := (mkF m 30 #[.val (.ref s_HITS_name), .val (.ref s_VALIDATE_name), .val (.ref s_VALIDATE_name)] [(.ref s_VALIDATE_name), (.int (0 : Int32))])) (fun _ k => XS.aloadN X412.here hx rfl (hb hby d_jdk_42_method_66_code_29) rfl rfl k) ?_
  obtain ⟨T413, X413, e413, st413⟩ := getF X412 hx hZ hown (host := "") (Or.inl (hw _ (List.mem_of_getElem? (i := 115) rfl))) Via.refl e412 (Fld.ext O0 F_s_VALIDATE_name_coder) (g := (mkF m 30 #[.val (.ref s_HITS_name), .val (.ref s_VALIDATE_name), .val (.ref s_VALIDATE_name)] [(.ref s_VALIDATE_name), (.int (0 : Int32))])) rfl rfl (hb hby d_jdk_42_method_66_code_30)
  refine Go.of (T' := T413) (f' := (mkF m 33 #[.val (.ref s_HITS_name), .val (.ref s_VALIDATE_name), .val (.ref s_VALIDATE_name)] [(.int (0 : Int32)), (.int (0 : Int32))])) (fun _ k => st413 _ k) ?_
  refine Go.of (T' := T413) (f' := (mkF m 36 #[.val (.ref s_HITS_name), .val (.ref s_VALIDATE_name), .val (.ref s_VALIDATE_name)] [])) (fun _ k => XS.icmpNo X413.here hx rfl (hb hby d_jdk_42_method_66_code_33) rfl (teq (by decide : (0 : Int32) = (0 : Int32))).2 k) ?_
  refine Go.of (T' := T413) (f' := (mkF m 37 #[.val (.ref s_HITS_name), .val (.ref s_VALIDATE_name), .val (.ref s_VALIDATE_name)] [(.ref s_HITS_name)])) (fun _ k => XS.aloadN X413.here hx rfl (hb hby d_jdk_42_method_66_code_36) rfl rfl k) ?_
  obtain ⟨T415, X415, e415, st415⟩ := getF X413 hx hZ hown (host := "") (Or.inl (hw _ (List.mem_of_getElem? (i := 113) rfl))) Via.refl e413 (Fld.ext O0 F_s_HITS_name_value) (g := (mkF m 37 #[.val (.ref s_HITS_name), .val (.ref s_VALIDATE_name), .val (.ref s_VALIDATE_name)] [(.ref s_HITS_name)])) rfl rfl (hb hby d_jdk_42_method_66_code_37)
  refine Go.of (T' := T415) (f' := (mkF m 40 #[.val (.ref s_HITS_name), .val (.ref s_VALIDATE_name), .val (.ref s_VALIDATE_name)] [(.ref s_HITS_name_value)])) (fun _ k => st415 _ k) ?_
  refine Go.of (T' := T415) (f' := (mkF m 41 #[.val (.ref s_HITS_name), .val (.ref s_VALIDATE_name), .val (.ref s_VALIDATE_name)] [(.ref s_VALIDATE_name), (.ref s_HITS_name_value)])) (fun _ k => XS.aloadN X415.here hx rfl (hb hby d_jdk_42_method_66_code_40) rfl rfl k) ?_
  obtain ⟨T416, X416, e416, st416⟩ := getF X415 hx hZ hown (host := "") (Or.inl (hw _ (List.mem_of_getElem? (i := 113) rfl))) Via.refl e415 (Fld.ext O0 F_s_VALIDATE_name_value) (g := (mkF m 41 #[.val (.ref s_HITS_name), .val (.ref s_VALIDATE_name), .val (.ref s_VALIDATE_name)] [(.ref s_VALIDATE_name), (.ref s_HITS_name_value)])) rfl rfl (hb hby d_jdk_42_method_66_code_41)
  refine Go.of (T' := T416) (f' := (mkF m 44 #[.val (.ref s_HITS_name), .val (.ref s_VALIDATE_name), .val (.ref s_VALIDATE_name)] [(.ref s_VALIDATE_name_value), (.ref s_HITS_name_value)])) (fun _ k => st416 _ k) ?_
  obtain ⟨T417, v417, L417, X417, q417, st417⟩ := callSt X416 hx hZ (y := (⟨"java/lang/StringLatin1", "equals", "([B[B)Z"⟩ : MethodName)) hown (hw _ (List.mem_of_getElem? (i := 148) rfl)) (hw _ (List.mem_of_getElem? (i := 149) rfl)) (hw _ (List.mem_of_getElem? (i := 100) rfl)) (hw _ (List.mem_of_getElem? (i := 150) rfl)) (by decide) (rm_l1ne02 hw G s_HITS_name_value s_VALIDATE_name_value cl_s_HITS_name_value.cls cl_s_VALIDATE_name_value.cls ([(.int (104 : Int32)), (.int (105 : Int32)), (.int (116 : Int32)), (.int (115 : Int32))]) ([(.int (118 : Int32)), (.int (97 : Int32)), (.int (108 : Int32)), (.int (105 : Int32)), (.int (100 : Int32)), (.int (97 : Int32)), (.int (116 : Int32)), (.int (101 : Int32))]) h0 O0 (Arv.ext V_s_HITS_name_value O0) (Arv.ext V_s_VALIDATE_name_value O0)) e416 (W := 0) (by decide) (by decide) (by decide) (by decide) (g := (mkF m 44 #[.val (.ref s_HITS_name), .val (.ref s_VALIDATE_name), .val (.ref s_VALIDATE_name)] [(.ref s_VALIDATE_name_value), (.ref s_HITS_name_value)])) rfl (by rw [hml]; rfl) (argsL := [(.ref s_HITS_name_value), (.ref s_VALIDATE_name_value)]) (rest := []) (lenOf pd___B_B_Z rfl) rfl rfl (by show 2 * 0 + _ ≤ _; exact Nat.le_of_eq rfl) (hb hby d_jdk_42_method_66_code_44)
  obtain ⟨rfl, e417, rfl⟩ := q417
  have N417 := Fr.app N0 (Fr.nil _)
  refine Go.of (T' := T417) (f' := (mkF m 47 #[.val (.ref s_HITS_name), .val (.ref s_VALIDATE_name), .val (.ref s_VALIDATE_name)] [(.int (0 : Int32))])) (fun _ k => st417 _ k) ?_
  refine Go.of (T' := T417) (f' := (mkF m 54 #[.val (.ref s_HITS_name), .val (.ref s_VALIDATE_name), .val (.ref s_VALIDATE_name)] [])) (fun _ k => XS.ifYes X417.here hx rfl (pc0 := 47) (pc' := 54) rfl (hb hby d_jdk_42_method_66_code_47) rfl ((if0 _ _).trans (teq (by decide : (0 : Int32) = (0 : Int32))).1) (by decide) (by decide) k) ?_
  refine Go.of (T' := T417) (f' := (mkF m 55 #[.val (.ref s_HITS_name), .val (.ref s_VALIDATE_name), .val (.ref s_VALIDATE_name)] [(.int (0 : Int32))])) (fun _ k => XS.iconst X417.here hx rfl (hb hby d_jdk_42_method_66_code_54) k) ?_
  exact Go.retB X417 hx hlk hret (by simp) (hb hby d_jdk_42_method_66_code_55) (by decide) (by decide) (z' := (0 : Int32)) rfl (by rw [e417]; exact ⟨rfl, rfl, by simp⟩)
theorem ef_rm_l1ne12 (m : MethodId) (xa : Addr) (xb : Addr) : entryFrame m #[(.ref xa), (.ref xb)] 3 = mkF m 0 #[.val (.ref xa), .val (.ref xb), .unset] [] := by first | (simp [entryFrame, mkF, argsToLocals, Value.category]; done) | rfl
set_option maxRecDepth 65536 in
set_option maxHeartbeats 40000000 in
theorem rm_l1ne12 {l : Launch} {Z : State} {a0 : Array Value} {s__VALUES : Addr} {s_HITS : Addr} {s_RESULTS : Addr} {s_VALIDATE : Addr} {s_HITS_name : Addr} {s_RESULTS_name : Addr} {s_VALIDATE_name : Addr} {s_HITS_name_value : Addr} {s_RESULTS_name_value : Addr} {s_VALIDATE_name_value : Addr} {s_DEFAULTCAPACITY_EMPTY_ELEMENTDATA : Addr} {s_COMPACT_STRINGS : Int32} {cl_s__VALUES : Cell} {cl_s_HITS_name_value : Cell} {cl_s_RESULTS_name_value : Cell} {cl_s_VALIDATE_name_value : Cell} {cl_s_DEFAULTCAPACITY_EMPTY_ELEMENTDATA : Cell} (hw : ∀ d ∈ tables_1, d.before a0 Z = true) (G : own_Ctx Z s__VALUES s_HITS s_RESULTS s_VALIDATE s_HITS_name s_RESULTS_name s_VALIDATE_name s_HITS_name_value s_RESULTS_name_value s_VALIDATE_name_value s_DEFAULTCAPACITY_EMPTY_ELEMENTDATA s_COMPACT_STRINGS cl_s__VALUES cl_s_HITS_name_value cl_s_RESULTS_name_value cl_s_VALIDATE_name_value cl_s_DEFAULTCAPACITY_EMPTY_ELEMENTDATA) (xa : Addr) (xb : Addr) (ka : ClassId) (kb : ClassId) (va : List Value) (vb : List Value) (h0 : Heap) (O0 : Ext Z.heap h0) (prem0 : Arv Z h0 xa ka .byte (7 : Int32) va (.int (0 : Int32))) (prem1 : Arv Z h0 xb kb .byte (8 : Int32) vb (.int (0 : Int32))) :
    Ok l Z (⟨"java/lang/StringLatin1", "equals", "([B[B)Z"⟩ : MethodName) jdk_43_method_13_code 3 (some .boolean) ({ frames := 0, cells := 0, slots := 0, locals := 0 } : Room) #[(.ref xa), (.ref xb)] h0
      (fun v h L => v = some (.int (0 : Int32)) ∧ (h = h0) ∧ (L = [])) := by
  refine Ok.mk pn_java_lang_StringLatin1_equals___B_B_Z ?_
  intro p e s m below meth c T0 hx hby hml hown hnm hret hlk hZ e0 X0
  refine Go.cast (ef_rm_l1ne12 m xa xb) ?_
  obtain ⟨S__VALUES, E_s__VALUES, S_HITS, E_s_HITS, S_RESULTS, E_s_RESULTS, S_VALIDATE, E_s_VALIDATE, F_s_HITS_name, E_s_HITS_name, F_s_RESULTS_name, E_s_RESULTS_name, F_s_VALIDATE_name, E_s_VALIDATE_name, F_s_HITS_name_coder, F_s_HITS_name_value, F_s_RESULTS_name_coder, F_s_RESULTS_name_value, F_s_VALIDATE_name_coder, F_s_VALIDATE_name_value, ne_s_HITS_name_s_RESULTS_name, ne_s_HITS_name_s_VALIDATE_name, ne_s_RESULTS_name_s_VALIDATE_name, S_DEFAULTCAPACITY_EMPTY_ELEMENTDATA, E_s_DEFAULTCAPACITY_EMPTY_ELEMENTDATA, S_COMPACT_STRINGS, hne_s_COMPACT_STRINGS_0, V_s__VALUES, V_s_HITS_name_value, V_s_RESULTS_name_value, V_s_VALIDATE_name_value, V_s_DEFAULTCAPACITY_EMPTY_ELEMENTDATA⟩ := id G
  have N0 := Fr.nil Z.heap.size
  have K0 : Keep h0 h0 [] := Keep.refl _ _
  refine Go.of (T' := T0) (f' := (mkF m 1 #[.val (.ref xa), .val (.ref xb), .unset] [(.ref xa)])) (fun _ k => XS.aloadN X0.here hx rfl (hb hby d_jdk_43_method_13_code_0) rfl rfl k) ?_
  obtain ⟨cl419, Ar419, qk419, S419, Ng419, H419, G419⟩ := id prem0
  refine Go.of (T' := T0) (f' := (mkF m 2 #[.val (.ref xa), .val (.ref xb), .unset] [(.int (7 : Int32))])) (fun _ k => X0.arraylength hx (by rw [e0]; exact Ar419.1) (State.isArrayOf_alike hZ.alike Ar419.2.1) (g := (mkF m 1 #[.val (.ref xa), .val (.ref xb), .unset] [(.ref xa)])) rfl rfl (hb hby d_jdk_43_method_13_code_1) _ (by rw [len_of S419 Ng419]; exact k)) ?_
  refine Go.of (T' := T0) (f' := (mkF m 3 #[.val (.ref xa), .val (.ref xb), .unset] [(.ref xb), (.int (7 : Int32))])) (fun _ k => XS.aloadN X0.here hx rfl (hb hby d_jdk_43_method_13_code_2) rfl rfl k) ?_
  obtain ⟨cl420, Ar420, qk420, S420, Ng420, H420, G420⟩ := id prem1
  refine Go.of (T' := T0) (f' := (mkF m 4 #[.val (.ref xa), .val (.ref xb), .unset] [(.int (8 : Int32)), (.int (7 : Int32))])) (fun _ k => X0.arraylength hx (by rw [e0]; exact Ar420.1) (State.isArrayOf_alike hZ.alike Ar420.2.1) (g := (mkF m 3 #[.val (.ref xa), .val (.ref xb), .unset] [(.ref xb), (.int (7 : Int32))])) rfl rfl (hb hby d_jdk_43_method_13_code_3) _ (by rw [len_of S420 Ng420]; exact k)) ?_
  refine Go.of (T' := T0) (f' := (mkF m 34 #[.val (.ref xa), .val (.ref xb), .unset] [])) (fun _ k => XS.icmpYes X0.here hx rfl (pc0 := 4) (pc' := 34) rfl (hb hby d_jdk_43_method_13_code_4) rfl (feq (by decide : ¬ ((7 : Int32) = (8 : Int32)))).2 (by decide) (by decide) k) ?_
  refine Go.of (T' := T0) (f' := (mkF m 35 #[.val (.ref xa), .val (.ref xb), .unset] [(.int (0 : Int32))])) (fun _ k => XS.iconst X0.here hx rfl (hb hby d_jdk_43_method_13_code_34) k) ?_
  exact Go.retB X0 hx hlk hret (by simp) (hb hby d_jdk_43_method_13_code_35) (by decide) (by decide) (z' := (0 : Int32)) rfl (by rw [e0]; exact ⟨rfl, rfl, by simp⟩)
theorem ef_rm_eqn12 (m : MethodId) (s_RESULTS_name : Addr) (s_VALIDATE_name : Addr) : entryFrame m #[(.ref s_RESULTS_name), (.ref s_VALIDATE_name)] 3 = mkF m 0 #[.val (.ref s_RESULTS_name), .val (.ref s_VALIDATE_name), .unset] [] := by first | (simp [entryFrame, mkF, argsToLocals, Value.category]; done) | rfl
set_option maxRecDepth 65536 in
set_option maxHeartbeats 40000000 in
theorem rm_eqn12 {l : Launch} {Z : State} {a0 : Array Value} {s__VALUES : Addr} {s_HITS : Addr} {s_RESULTS : Addr} {s_VALIDATE : Addr} {s_HITS_name : Addr} {s_RESULTS_name : Addr} {s_VALIDATE_name : Addr} {s_HITS_name_value : Addr} {s_RESULTS_name_value : Addr} {s_VALIDATE_name_value : Addr} {s_DEFAULTCAPACITY_EMPTY_ELEMENTDATA : Addr} {s_COMPACT_STRINGS : Int32} {cl_s__VALUES : Cell} {cl_s_HITS_name_value : Cell} {cl_s_RESULTS_name_value : Cell} {cl_s_VALIDATE_name_value : Cell} {cl_s_DEFAULTCAPACITY_EMPTY_ELEMENTDATA : Cell} (hw : ∀ d ∈ tables_1, d.before a0 Z = true) (G : own_Ctx Z s__VALUES s_HITS s_RESULTS s_VALIDATE s_HITS_name s_RESULTS_name s_VALIDATE_name s_HITS_name_value s_RESULTS_name_value s_VALIDATE_name_value s_DEFAULTCAPACITY_EMPTY_ELEMENTDATA s_COMPACT_STRINGS cl_s__VALUES cl_s_HITS_name_value cl_s_RESULTS_name_value cl_s_VALIDATE_name_value cl_s_DEFAULTCAPACITY_EMPTY_ELEMENTDATA)   (h0 : Heap) (O0 : Ext Z.heap h0)  :
    Ok l Z (⟨"java/lang/String", "equals", "(Ljava/lang/Object;)Z"⟩ : MethodName) jdk_42_method_66_code 3 (some .boolean) ({ frames := 1, cells := 0, slots := 0, locals := 14 } : Room) #[(.ref s_RESULTS_name), (.ref s_VALIDATE_name)] h0
      (fun v h L => v = some (.int (0 : Int32)) ∧ (h = h0) ∧ (L = [])) := by
  refine Ok.mk pn_java_lang_String_equals__Ljava_lang_Object__Z ?_
  intro p e s m below meth c T0 hx hby hml hown hnm hret hlk hZ e0 X0
  refine Go.cast (ef_rm_eqn12 m s_RESULTS_name s_VALIDATE_name) ?_
  obtain ⟨S__VALUES, E_s__VALUES, S_HITS, E_s_HITS, S_RESULTS, E_s_RESULTS, S_VALIDATE, E_s_VALIDATE, F_s_HITS_name, E_s_HITS_name, F_s_RESULTS_name, E_s_RESULTS_name, F_s_VALIDATE_name, E_s_VALIDATE_name, F_s_HITS_name_coder, F_s_HITS_name_value, F_s_RESULTS_name_coder, F_s_RESULTS_name_value, F_s_VALIDATE_name_coder, F_s_VALIDATE_name_value, ne_s_HITS_name_s_RESULTS_name, ne_s_HITS_name_s_VALIDATE_name, ne_s_RESULTS_name_s_VALIDATE_name, S_DEFAULTCAPACITY_EMPTY_ELEMENTDATA, E_s_DEFAULTCAPACITY_EMPTY_ELEMENTDATA, S_COMPACT_STRINGS, hne_s_COMPACT_STRINGS_0, V_s__VALUES, V_s_HITS_name_value, V_s_RESULTS_name_value, V_s_VALIDATE_name_value, V_s_DEFAULTCAPACITY_EMPTY_ELEMENTDATA⟩ := id G
  have N0 := Fr.nil Z.heap.size
  have K0 : Keep h0 h0 [] := Keep.refl _ _
  refine Go.of (T' := T0) (f' := (mkF m 1 #[.val (.ref s_RESULTS_name), .val (.ref s_VALIDATE_name), .unset] [(.ref s_RESULTS_name)])) (fun _ k => XS.aloadN X0.here hx rfl (hb hby d_jdk_42_method_66_code_0) rfl rfl k) ?_
  refine Go.of (T' := T0) (f' := (mkF m 2 #[.val (.ref s_RESULTS_name), .val (.ref s_VALIDATE_name), .unset] [(.ref s_VALIDATE_name), (.ref s_RESULTS_name)])) (fun _ k => XS.aloadN X0.here hx rfl (hb hby d_jdk_42_method_66_code_1) rfl rfl k) ?_
  have hc422 : ¬ (s_RESULTS_name = s_VALIDATE_name) := ne_s_RESULTS_name_s_VALIDATE_name
  refine Go.of (T' := T0) (f' := (mkF m 7 #[.val (.ref s_RESULTS_name), .val (.ref s_VALIDATE_name), .unset] [])) (fun _ k => Jvm.RoadKit.acmp (g := (mkF m 2 #[.val (.ref s_RESULTS_name), .val (.ref s_VALIDATE_name), .unset] [(.ref s_VALIDATE_name), (.ref s_RESULTS_name)])) X0 hx rfl rfl rfl (pc0 := 2) (pc' := 7) (same := false) rfl (hb hby d_jdk_42_method_66_code_2) rfl (decide_eq_false fun q => hc422 (Value.ref.inj q)) (by decide) (by decide) k) ?_
  refine Go.of (T' := T0) (f' := (mkF m 8 #[.val (.ref s_RESULTS_name), .val (.ref s_VALIDATE_name), .unset] [(.ref s_VALIDATE_name)])) (fun _ k => XS.aloadN X0.here hx rfl (hb hby d_jdk_42_method_66_code_7) rfl rfl k) ?_
  obtain ⟨T423, X423, e423, st423⟩ := instY X0 hx hZ hown (hw _ (List.mem_of_getElem? (i := 102) rfl)) e0 (Ins.self (Exa.ext O0 E_s_VALIDATE_name)) (g := (mkF m 8 #[.val (.ref s_RESULTS_name), .val (.ref s_VALIDATE_name), .unset] [(.ref s_VALIDATE_name)])) rfl rfl (hb hby d_jdk_42_method_66_code_8)
  refine Go.of (T' := T423) (f' := (mkF m 11 #[.val (.ref s_RESULTS_name), .val (.ref s_VALIDATE_name), .unset] [(.int (1 : Int32))])) (fun _ k => st423 _ k) ?_
  refine Go.of (T' := T423) (f' := (mkF m 14 #[.val (.ref s_RESULTS_name), .val (.ref s_VALIDATE_name), .unset] [])) (fun _ k => XS.ifNo X423.here hx rfl (hb hby d_jdk_42_method_66_code_11) rfl ((if0 _ _).trans (feq (by decide : ¬ ((1 : Int32) = (0 : Int32)))).1) k) ?_
  refine Go.of (T' := T423) (f' := (mkF m 15 #[.val (.ref s_RESULTS_name), .val (.ref s_VALIDATE_name), .unset] [(.ref s_VALIDATE_name)])) (fun _ k => XS.aloadN X423.here hx rfl (hb hby d_jdk_42_method_66_code_14) rfl rfl k) ?_
  obtain ⟨T425, X425, e425, st425⟩ := castY X423 hx hZ hown (hw _ (List.mem_of_getElem? (i := 102) rfl)) e423 (Ins.self (Exa.ext O0 E_s_VALIDATE_name)) (g := (mkF m 15 #[.val (.ref s_RESULTS_name), .val (.ref s_VALIDATE_name), .unset] [(.ref s_VALIDATE_name)])) rfl rfl (hb hby d_jdk_42_method_66_code_15)
  refine Go.of (T' := T425) (f' := (mkF m 18 #[.val (.ref s_RESULTS_name), .val (.ref s_VALIDATE_name), .unset] [(.ref s_VALIDATE_name)])) (fun _ k => st425 _ k) ?_
  refine Go.of (T' := T425) (f' := (mkF m 19 #[.val (.ref s_RESULTS_name), .val (.ref s_VALIDATE_name), .val (.ref s_VALIDATE_name)] [])) (fun _ k => XS.astoreN X425.here hx rfl (hb hby d_jdk_42_method_66_code_18) rfl rfl (l' := #[.val (.ref s_RESULTS_name), .val (.ref s_VALIDATE_name), .val (.ref s_VALIDATE_name)]) rfl k) ?_
  obtain ⟨T426, X426, e426, st426⟩ := getS2 X425 hx hZ hown (host := "") (Or.inl (hw _ (List.mem_of_getElem? (i := 97) rfl))) Via.refl e425 (Sta.ext O0 S_COMPACT_STRINGS) (g := (mkF m 19 #[.val (.ref s_RESULTS_name), .val (.ref s_VALIDATE_name), .val (.ref s_VALIDATE_name)] [])) rfl (hb hby d_jdk_42_method_66_code_19)
  refine Go.of (T' := T426) (f' := (mkF m 22 #[.val (.ref s_RESULTS_name), .val (.ref s_VALIDATE_name), .val (.ref s_VALIDATE_name)] [(.int s_COMPACT_STRINGS)])) (fun _ k => st426 _ k) ?_
  have hc427 : ¬ (s_COMPACT_STRINGS = (0 : Int32)) := hne_s_COMPACT_STRINGS_0
  refine Go.of (T' := T426) (f' := (mkF m 25 #[.val (.ref s_RESULTS_name), .val (.ref s_VALIDATE_name), .val (.ref s_VALIDATE_name)] [])) (fun _ k => XS.ifNo X426.here hx rfl (hb hby d_jdk_42_method_66_code_22) rfl ((if0 _ _).trans (feq hc427).1) k) ?_
  refine Go.of (T' := T426) (f' := (mkF m 26 #[.val (.ref s_RESULTS_name), .val (.ref s_VALIDATE_name), .val (.ref s_VALIDATE_name)] [(.ref s_RESULTS_name)])) (fun _ k => XS.aloadN X426.here hx rfl (hb hby d_jdk_42_method_66_code_25) rfl rfl k) ?_
  obtain ⟨T428, X428, e428, st428⟩ := getF X426 hx hZ hown (host := "") (Or.inl (hw _ (List.mem_of_getElem? (i := 115) rfl))) Via.refl e426 (Fld.ext O0 F_s_RESULTS_name_coder) (g := (mkF m 26 #[.val (.ref s_RESULTS_name), .val (.ref s_VALIDATE_name), .val (.ref s_VALIDATE_name)] [(.ref s_RESULTS_name)])) rfl rfl (hb hby d_jdk_42_method_66_code_26)
  refine Go.of (T' := T428) (f' := (mkF m 29 #[.val (.ref s_RESULTS_name), .val (.ref s_VALIDATE_name), .val (.ref s_VALIDATE_name)] [(.int (0 : Int32))])) (fun _ k => st428 _ k) ?_
  refine Go.of (T' := T428) (f' := (mkF m 30 #[.val (.ref s_RESULTS_name), .val (.ref s_VALIDATE_name), .val (.ref s_VALIDATE_name)] [(.ref s_VALIDATE_name), (.int (0 : Int32))])) (fun _ k => XS.aloadN X428.here hx rfl (hb hby d_jdk_42_method_66_code_29) rfl rfl k) ?_
  obtain ⟨T429, X429, e429, st429⟩ := getF X428 hx hZ hown (host := "") (Or.inl (hw _ (List.mem_of_getElem? (i := 115) rfl))) Via.refl e428 (Fld.ext O0 F_s_VALIDATE_name_coder) (g := (mkF m 30 #[.val (.ref s_RESULTS_name), .val (.ref s_VALIDATE_name), .val (.ref s_VALIDATE_name)] [(.ref s_VALIDATE_name), (.int (0 : Int32))])) rfl rfl (hb hby d_jdk_42_method_66_code_30)
  refine Go.of (T' := T429) (f' := (mkF m 33 #[.val (.ref s_RESULTS_name), .val (.ref s_VALIDATE_name), .val (.ref s_VALIDATE_name)] [(.int (0 : Int32)), (.int (0 : Int32))])) (fun _ k => st429 _ k) ?_
  refine Go.of (T' := T429) (f' := (mkF m 36 #[.val (.ref s_RESULTS_name), .val (.ref s_VALIDATE_name), .val (.ref s_VALIDATE_name)] [])) (fun _ k => XS.icmpNo X429.here hx rfl (hb hby d_jdk_42_method_66_code_33) rfl (teq (by decide : (0 : Int32) = (0 : Int32))).2 k) ?_
  refine Go.of (T' := T429) (f' := (mkF m 37 #[.val (.ref s_RESULTS_name), .val (.ref s_VALIDATE_name), .val (.ref s_VALIDATE_name)] [(.ref s_RESULTS_name)])) (fun _ k => XS.aloadN X429.here hx rfl (hb hby d_jdk_42_method_66_code_36) rfl rfl k) ?_
  obtain ⟨T431, X431, e431, st431⟩ := getF X429 hx hZ hown (host := "") (Or.inl (hw _ (List.mem_of_getElem? (i := 113) rfl))) Via.refl e429 (Fld.ext O0 F_s_RESULTS_name_value) (g := (mkF m 37 #[.val (.ref s_RESULTS_name), .val (.ref s_VALIDATE_name), .val (.ref s_VALIDATE_name)] [(.ref s_RESULTS_name)])) rfl rfl (hb hby d_jdk_42_method_66_code_37)
  refine Go.of (T' := T431) (f' := (mkF m 40 #[.val (.ref s_RESULTS_name), .val (.ref s_VALIDATE_name), .val (.ref s_VALIDATE_name)] [(.ref s_RESULTS_name_value)])) (fun _ k => st431 _ k) ?_
  refine Go.of (T' := T431) (f' := (mkF m 41 #[.val (.ref s_RESULTS_name), .val (.ref s_VALIDATE_name), .val (.ref s_VALIDATE_name)] [(.ref s_VALIDATE_name), (.ref s_RESULTS_name_value)])) (fun _ k => XS.aloadN X431.here hx rfl (hb hby d_jdk_42_method_66_code_40) rfl rfl k) ?_
  obtain ⟨T432, X432, e432, st432⟩ := getF X431 hx hZ hown (host := "") (Or.inl (hw _ (List.mem_of_getElem? (i := 113) rfl))) Via.refl e431 (Fld.ext O0 F_s_VALIDATE_name_value) (g := (mkF m 41 #[.val (.ref s_RESULTS_name), .val (.ref s_VALIDATE_name), .val (.ref s_VALIDATE_name)] [(.ref s_VALIDATE_name), (.ref s_RESULTS_name_value)])) rfl rfl (hb hby d_jdk_42_method_66_code_41)
  refine Go.of (T' := T432) (f' := (mkF m 44 #[.val (.ref s_RESULTS_name), .val (.ref s_VALIDATE_name), .val (.ref s_VALIDATE_name)] [(.ref s_VALIDATE_name_value), (.ref s_RESULTS_name_value)])) (fun _ k => st432 _ k) ?_
  obtain ⟨T433, v433, L433, X433, q433, st433⟩ := callSt X432 hx hZ (y := (⟨"java/lang/StringLatin1", "equals", "([B[B)Z"⟩ : MethodName)) hown (hw _ (List.mem_of_getElem? (i := 148) rfl)) (hw _ (List.mem_of_getElem? (i := 149) rfl)) (hw _ (List.mem_of_getElem? (i := 100) rfl)) (hw _ (List.mem_of_getElem? (i := 150) rfl)) (by decide) (rm_l1ne12 hw G s_RESULTS_name_value s_VALIDATE_name_value cl_s_RESULTS_name_value.cls cl_s_VALIDATE_name_value.cls ([(.int (114 : Int32)), (.int (101 : Int32)), (.int (115 : Int32)), (.int (117 : Int32)), (.int (108 : Int32)), (.int (116 : Int32)), (.int (115 : Int32))]) ([(.int (118 : Int32)), (.int (97 : Int32)), (.int (108 : Int32)), (.int (105 : Int32)), (.int (100 : Int32)), (.int (97 : Int32)), (.int (116 : Int32)), (.int (101 : Int32))]) h0 O0 (Arv.ext V_s_RESULTS_name_value O0) (Arv.ext V_s_VALIDATE_name_value O0)) e432 (W := 0) (by decide) (by decide) (by decide) (by decide) (g := (mkF m 44 #[.val (.ref s_RESULTS_name), .val (.ref s_VALIDATE_name), .val (.ref s_VALIDATE_name)] [(.ref s_VALIDATE_name_value), (.ref s_RESULTS_name_value)])) rfl (by rw [hml]; rfl) (argsL := [(.ref s_RESULTS_name_value), (.ref s_VALIDATE_name_value)]) (rest := []) (lenOf pd___B_B_Z rfl) rfl rfl (by show 2 * 0 + _ ≤ _; exact Nat.le_of_eq rfl) (hb hby d_jdk_42_method_66_code_44)
  obtain ⟨rfl, e433, rfl⟩ := q433
  have N433 := Fr.app N0 (Fr.nil _)
  refine Go.of (T' := T433) (f' := (mkF m 47 #[.val (.ref s_RESULTS_name), .val (.ref s_VALIDATE_name), .val (.ref s_VALIDATE_name)] [(.int (0 : Int32))])) (fun _ k => st433 _ k) ?_
  refine Go.of (T' := T433) (f' := (mkF m 54 #[.val (.ref s_RESULTS_name), .val (.ref s_VALIDATE_name), .val (.ref s_VALIDATE_name)] [])) (fun _ k => XS.ifYes X433.here hx rfl (pc0 := 47) (pc' := 54) rfl (hb hby d_jdk_42_method_66_code_47) rfl ((if0 _ _).trans (teq (by decide : (0 : Int32) = (0 : Int32))).1) (by decide) (by decide) k) ?_
  refine Go.of (T' := T433) (f' := (mkF m 55 #[.val (.ref s_RESULTS_name), .val (.ref s_VALIDATE_name), .val (.ref s_VALIDATE_name)] [(.int (0 : Int32))])) (fun _ k => XS.iconst X433.here hx rfl (hb hby d_jdk_42_method_66_code_54) k) ?_
  exact Go.retB X433 hx hlk hret (by simp) (hb hby d_jdk_42_method_66_code_55) (by decide) (by decide) (z' := (0 : Int32)) rfl (by rw [e433]; exact ⟨rfl, rfl, by simp⟩)
theorem d_prog_4_method_4_code_0 : decode prog_4_method_4_code 0 = .ok (.invokestatic 36, 3) := by decide +kernel
theorem d_prog_4_method_4_code_3 : decode prog_4_method_4_code 3 = .ok (.astore_n 1, 1) := by decide +kernel
theorem d_prog_4_method_4_code_4 : decode prog_4_method_4_code 4 = .ok (.aload_n 1, 1) := by decide +kernel
theorem d_prog_4_method_4_code_5 : decode prog_4_method_4_code 5 = .ok (.arraylength, 1) := by decide +kernel
theorem d_prog_4_method_4_code_6 : decode prog_4_method_4_code 6 = .ok (.istore_n 2, 1) := by decide +kernel
theorem d_prog_4_method_4_code_7 : decode prog_4_method_4_code 7 = .ok (.iconst 0, 1) := by decide +kernel
theorem d_prog_4_method_4_code_8 : decode prog_4_method_4_code 8 = .ok (.istore_n 3, 1) := by decide +kernel
theorem d_prog_4_method_4_code_9 : decode prog_4_method_4_code 9 = .ok (.iload_n 3, 1) := by decide +kernel
theorem d_prog_4_method_4_code_10 : decode prog_4_method_4_code 10 = .ok (.iload_n 2, 1) := by decide +kernel
theorem d_prog_4_method_4_code_11 : decode prog_4_method_4_code 11 = .ok (.if_icmp .ge 29, 3) := by decide +kernel
theorem d_prog_4_method_4_code_14 : decode prog_4_method_4_code 14 = .ok (.aload_n 1, 1) := by decide +kernel
theorem d_prog_4_method_4_code_15 : decode prog_4_method_4_code 15 = .ok (.iload_n 3, 1) := by decide +kernel
theorem d_prog_4_method_4_code_16 : decode prog_4_method_4_code 16 = .ok (.aaload, 1) := by decide +kernel
theorem d_prog_4_method_4_code_17 : decode prog_4_method_4_code 17 = .ok (.astore 4, 2) := by decide +kernel
theorem d_prog_4_method_4_code_19 : decode prog_4_method_4_code 19 = .ok (.aload 4, 2) := by decide +kernel
theorem d_prog_4_method_4_code_21 : decode prog_4_method_4_code 21 = .ok (.getfield 32, 3) := by decide +kernel
theorem d_prog_4_method_4_code_24 : decode prog_4_method_4_code 24 = .ok (.aload_n 0, 1) := by decide +kernel
theorem d_prog_4_method_4_code_25 : decode prog_4_method_4_code 25 = .ok (.invokevirtual 40, 3) := by decide +kernel
theorem d_prog_4_method_4_code_28 : decode prog_4_method_4_code 28 = .ok (.ifCond .eq 6, 3) := by decide +kernel
theorem d_prog_4_method_4_code_31 : decode prog_4_method_4_code 31 = .ok (.aload 4, 2) := by decide +kernel
theorem d_prog_4_method_4_code_33 : decode prog_4_method_4_code 33 = .ok (.areturn, 1) := by decide +kernel
theorem ef_rm_named0 (m : MethodId) (s_HITS_name : Addr) : entryFrame m #[(.ref s_HITS_name)] 5 = mkF m 0 #[.val (.ref s_HITS_name), .unset, .unset, .unset, .unset] [] := by first | (simp [entryFrame, mkF, argsToLocals, Value.category]; done) | rfl
theorem pn_com_example_fair_index_fairindex_csw_ResultType_named__Ljava_lang_String__Lcom_example_fair_index_fairindex_csw_ResultType_ : plainFor (⟨"com/example/fair_index/fairindex/csw/ResultType", "named", "(Ljava/lang/String;)Lcom/example/fair_index/fairindex/csw/ResultType;"⟩ : MethodName) = true := by first | exact plainFor_of_name (by first | (simp [plainName, overriddenIn]; done) | decide +kernel) | decide +kernel
set_option maxRecDepth 65536 in
set_option maxHeartbeats 40000000 in
theorem rm_named0 {l : Launch} {Z : State} {a0 : Array Value} {s__VALUES : Addr} {s_HITS : Addr} {s_RESULTS : Addr} {s_VALIDATE : Addr} {s_HITS_name : Addr} {s_RESULTS_name : Addr} {s_VALIDATE_name : Addr} {s_HITS_name_value : Addr} {s_RESULTS_name_value : Addr} {s_VALIDATE_name_value : Addr} {s_DEFAULTCAPACITY_EMPTY_ELEMENTDATA : Addr} {s_COMPACT_STRINGS : Int32} {cl_s__VALUES : Cell} {cl_s_HITS_name_value : Cell} {cl_s_RESULTS_name_value : Cell} {cl_s_VALIDATE_name_value : Cell} {cl_s_DEFAULTCAPACITY_EMPTY_ELEMENTDATA : Cell} (hw : ∀ d ∈ tables_1, d.before a0 Z = true) (G : own_Ctx Z s__VALUES s_HITS s_RESULTS s_VALIDATE s_HITS_name s_RESULTS_name s_VALIDATE_name s_HITS_name_value s_RESULTS_name_value s_VALIDATE_name_value s_DEFAULTCAPACITY_EMPTY_ELEMENTDATA s_COMPACT_STRINGS cl_s__VALUES cl_s_HITS_name_value cl_s_RESULTS_name_value cl_s_VALIDATE_name_value cl_s_DEFAULTCAPACITY_EMPTY_ELEMENTDATA)   (h0 : Heap) (O0 : Ext Z.heap h0)  :
    Ok l Z (⟨"com/example/fair_index/fairindex/csw/ResultType", "named", "(Ljava/lang/String;)Lcom/example/fair_index/fairindex/csw/ResultType;"⟩ : MethodName) prog_4_method_4_code 5 (some (.object "com/example/fair_index/fairindex/csw/ResultType")) ({ frames := 2, cells := 1, slots := 3, locals := 25 } : Room) #[(.ref s_HITS_name)] h0
      (fun v h L => v = some (.ref s_HITS) ∧ (Fr Z.heap.size L) ∧ (Keep h0 h [])) := by
  refine Ok.mk pn_com_example_fair_index_fairindex_csw_ResultType_named__Ljava_lang_String__Lcom_example_fair_index_fairindex_csw_ResultType_ ?_
  intro p e s m below meth c T0 hx hby hml hown hnm hret hlk hZ e0 X0
  refine Go.cast (ef_rm_named0 m s_HITS_name) ?_
  obtain ⟨S__VALUES, E_s__VALUES, S_HITS, E_s_HITS, S_RESULTS, E_s_RESULTS, S_VALIDATE, E_s_VALIDATE, F_s_HITS_name, E_s_HITS_name, F_s_RESULTS_name, E_s_RESULTS_name, F_s_VALIDATE_name, E_s_VALIDATE_name, F_s_HITS_name_coder, F_s_HITS_name_value, F_s_RESULTS_name_coder, F_s_RESULTS_name_value, F_s_VALIDATE_name_coder, F_s_VALIDATE_name_value, ne_s_HITS_name_s_RESULTS_name, ne_s_HITS_name_s_VALIDATE_name, ne_s_RESULTS_name_s_VALIDATE_name, S_DEFAULTCAPACITY_EMPTY_ELEMENTDATA, E_s_DEFAULTCAPACITY_EMPTY_ELEMENTDATA, S_COMPACT_STRINGS, hne_s_COMPACT_STRINGS_0, V_s__VALUES, V_s_HITS_name_value, V_s_RESULTS_name_value, V_s_VALIDATE_name_value, V_s_DEFAULTCAPACITY_EMPTY_ELEMENTDATA⟩ := id G
  have N0 := Fr.nil Z.heap.size
  have K0 : Keep h0 h0 [] := Keep.refl _ _
  obtain ⟨T435, v435, L435, X435, q435, st435⟩ := callSt X0 hx hZ (y := (⟨"com/example/fair_index/fairindex/csw/ResultType", "values", "()[Lcom/example/fair_index/fairindex/csw/ResultType;"⟩ : MethodName)) hown (hw _ (List.mem_of_getElem? (i := 30) rfl)) (hw _ (List.mem_of_getElem? (i := 31) rfl)) (hw _ (List.mem_of_getElem? (i := 2) rfl)) (hw _ (List.mem_of_getElem? (i := 32) rfl)) (by decide) (rm_values hw G   h0 O0 ) e0 (W := 0) (by decide) (by decide) (by decide) (by decide) (g := (mkF m 0 #[.val (.ref s_HITS_name), .unset, .unset, .unset, .unset] [])) rfl (by rw [hml]; rfl) (argsL := []) (rest := []) (lenOf pd____Lcom_example_fair_index_fairindex_csw_ResultType_ rfl) rfl rfl (by show 2 * 0 + _ ≤ _; exact Nat.le_of_eq rfl) (hb hby d_prog_4_method_4_code_0)
  obtain ⟨r_435, rfl, N435q, K435q, p435_0, p435_1, p435_2⟩ := q435
  have N435 := Fr.app N0 N435q
  have O436 := Old0.keep O0 K435q all0
  have K436 := Keep.trans K0 K435q all0
  have z_r_435 : h0.size ≤ r_435 := Nat.le_trans K0.1 p435_0
  have g_r_435 : Z.heap.size ≤ r_435 := Nat.le_trans O0.1 p435_0
  refine Go.of (T' := T435) (f' := (mkF m 3 #[.val (.ref s_HITS_name), .unset, .unset, .unset, .unset] [(.ref r_435)])) (fun _ k => st435 _ k) ?_
  refine Go.of (T' := T435) (f' := (mkF m 4 #[.val (.ref s_HITS_name), .val (.ref r_435), .unset, .unset, .unset] [])) (fun _ k => XS.astoreN X435.here hx rfl (hb hby d_prog_4_method_4_code_3) rfl rfl (l' := #[.val (.ref s_HITS_name), .val (.ref r_435), .unset, .unset, .unset]) rfl k) ?_
  refine Go.of (T' := T435) (f' := (mkF m 5 #[.val (.ref s_HITS_name), .val (.ref r_435), .unset, .unset, .unset] [(.ref r_435)])) (fun _ k => XS.aloadN X435.here hx rfl (hb hby d_prog_4_method_4_code_4) rfl rfl k) ?_
  obtain ⟨cl437, Ar437, qk437, S437, Ng437, H437, G437⟩ := id p435_1
  refine Go.of (T' := T435) (f' := (mkF m 6 #[.val (.ref s_HITS_name), .val (.ref r_435), .unset, .unset, .unset] [(.int (3 : Int32))])) (fun _ k => X435.arraylength hx Ar437.1 (State.isArrayOf_alike hZ.alike Ar437.2.1) (g := (mkF m 5 #[.val (.ref s_HITS_name), .val (.ref r_435), .unset, .unset, .unset] [(.ref r_435)])) rfl rfl (hb hby d_prog_4_method_4_code_5) _ (by rw [len_of S437 Ng437]; exact k)) ?_
  refine Go.of (T' := T435) (f' := (mkF m 7 #[.val (.ref s_HITS_name), .val (.ref r_435), .val (.int (3 : Int32)), .unset, .unset] [])) (fun _ k => XS.istoreN X435.here hx rfl (hb hby d_prog_4_method_4_code_6) rfl (l' := #[.val (.ref s_HITS_name), .val (.ref r_435), .val (.int (3 : Int32)), .unset, .unset]) rfl k) ?_
  refine Go.of (T' := T435) (f' := (mkF m 8 #[.val (.ref s_HITS_name), .val (.ref r_435), .val (.int (3 : Int32)), .unset, .unset] [(.int (0 : Int32))])) (fun _ k => XS.iconst X435.here hx rfl (hb hby d_prog_4_method_4_code_7) k) ?_
  refine Go.of (T' := T435) (f' := (mkF m 9 #[.val (.ref s_HITS_name), .val (.ref r_435), .val (.int (3 : Int32)), .val (.int (0 : Int32)), .unset] [])) (fun _ k => XS.istoreN X435.here hx rfl (hb hby d_prog_4_method_4_code_8) rfl (l' := #[.val (.ref s_HITS_name), .val (.ref r_435), .val (.int (3 : Int32)), .val (.int (0 : Int32)), .unset]) rfl k) ?_
  refine Go.of (T' := T435) (f' := (mkF m 10 #[.val (.ref s_HITS_name), .val (.ref r_435), .val (.int (3 : Int32)), .val (.int (0 : Int32)), .unset] [(.int (0 : Int32))])) (fun _ k => XS.iloadN X435.here hx rfl (hb hby d_prog_4_method_4_code_9) rfl k) ?_
  refine Go.of (T' := T435) (f' := (mkF m 11 #[.val (.ref s_HITS_name), .val (.ref r_435), .val (.int (3 : Int32)), .val (.int (0 : Int32)), .unset] [(.int (3 : Int32)), (.int (0 : Int32))])) (fun _ k => XS.iloadN X435.here hx rfl (hb hby d_prog_4_method_4_code_10) rfl k) ?_
  refine Go.of (T' := T435) (f' := (mkF m 14 #[.val (.ref s_HITS_name), .val (.ref r_435), .val (.int (3 : Int32)), .val (.int (0 : Int32)), .unset] [])) (fun _ k => XS.icmpNo X435.here hx rfl (hb hby d_prog_4_method_4_code_11) rfl (tlt (by decide : (0 : Int32) < (3 : Int32))).2.1 k) ?_
  refine Go.of (T' := T435) (f' := (mkF m 15 #[.val (.ref s_HITS_name), .val (.ref r_435), .val (.int (3 : Int32)), .val (.int (0 : Int32)), .unset] [(.ref r_435)])) (fun _ k => XS.aloadN X435.here hx rfl (hb hby d_prog_4_method_4_code_14) rfl rfl k) ?_
  refine Go.of (T' := T435) (f' := (mkF m 16 #[.val (.ref s_HITS_name), .val (.ref r_435), .val (.int (3 : Int32)), .val (.int (0 : Int32)), .unset] [(.int (0 : Int32)), (.ref r_435)])) (fun _ k => XS.iloadN X435.here hx rfl (hb hby d_prog_4_method_4_code_15) rfl k) ?_
  obtain ⟨cl439, Ar439, qk439, S439, Ng439, H439, G439⟩ := id p435_1
  have hin439 := inb_of (j := (0 : Int32)) S439 ⟨by decide, by decide⟩
  refine Go.of (T' := T435) (f' := (mkF m 17 #[.val (.ref s_HITS_name), .val (.ref r_435), .val (.int (3 : Int32)), .val (.int (0 : Int32)), .unset] [(.ref s_HITS)])) (fun _ k => X435.aaload hx (j := (0 : Int32)) (v := (.ref s_HITS)) Ar439.1 (State.isArrayOf_alike hZ.alike Ar439.2.1) rfl Ar439.2.2 hin439 (H439.at hin439 rfl) (g := (mkF m 16 #[.val (.ref s_HITS_name), .val (.ref r_435), .val (.int (3 : Int32)), .val (.int (0 : Int32)), .unset] [(.int (0 : Int32)), (.ref r_435)])) rfl rfl (hb hby d_prog_4_method_4_code_16) _ k) ?_
  refine Go.of (T' := T435) (f' := (mkF m 19 #[.val (.ref s_HITS_name), .val (.ref r_435), .val (.int (3 : Int32)), .val (.int (0 : Int32)), .val (.ref s_HITS)] [])) (fun _ k => XS.astore X435.here hx rfl (hb hby d_prog_4_method_4_code_17) rfl rfl (l' := #[.val (.ref s_HITS_name), .val (.ref r_435), .val (.int (3 : Int32)), .val (.int (0 : Int32)), .val (.ref s_HITS)]) rfl k) ?_
  refine Go.of (T' := T435) (f' := (mkF m 21 #[.val (.ref s_HITS_name), .val (.ref r_435), .val (.int (3 : Int32)), .val (.int (0 : Int32)), .val (.ref s_HITS)] [(.ref s_HITS)])) (fun _ k => XS.aload X435.here hx rfl (hb hby d_prog_4_method_4_code_19) rfl rfl k) ?_
  obtain ⟨T440, X440, e440, st440⟩ := getF X435 hx hZ hown (host := "") (Or.inl (hw _ (List.mem_of_getElem? (i := 48) rfl))) Via.refl rfl (Fld.ext O436 F_s_HITS_name) (g := (mkF m 21 #[.val (.ref s_HITS_name), .val (.ref r_435), .val (.int (3 : Int32)), .val (.int (0 : Int32)), .val (.ref s_HITS)] [(.ref s_HITS)])) rfl rfl (hb hby d_prog_4_method_4_code_21)
  refine Go.of (T' := T440) (f' := (mkF m 24 #[.val (.ref s_HITS_name), .val (.ref r_435), .val (.int (3 : Int32)), .val (.int (0 : Int32)), .val (.ref s_HITS)] [(.ref s_HITS_name)])) (fun _ k => st440 _ k) ?_
  refine Go.of (T' := T440) (f' := (mkF m 25 #[.val (.ref s_HITS_name), .val (.ref r_435), .val (.int (3 : Int32)), .val (.int (0 : Int32)), .val (.ref s_HITS)] [(.ref s_HITS_name), (.ref s_HITS_name)])) (fun _ k => XS.aloadN X440.here hx rfl (hb hby d_prog_4_method_4_code_24) rfl rfl k) ?_
  obtain ⟨T441, v441, L441, X441, q441, st441⟩ := callVi X440 hx hZ (y := (⟨"java/lang/String", "equals", "(Ljava/lang/Object;)Z"⟩ : MethodName)) (z := (⟨"java/lang/String", "equals", "(Ljava/lang/Object;)Z"⟩ : MethodName)) hown (hw _ (List.mem_of_getElem? (i := 164) rfl)) (hw _ (List.mem_of_getElem? (i := 144) rfl)) (notFace_of_selects (args := #[]) (mvT hZ (hw _ (List.mem_of_getElem? (i := 146) rfl)))) (hw _ (List.mem_of_getElem? (i := 146) rfl)) (hw _ (List.mem_of_getElem? (i := 145) rfl)) (hw _ (List.mem_of_getElem? (i := 147) rfl)) (hw _ (List.mem_of_getElem? (i := 95) rfl)) (by decide) (rm_eqs0 hw G   T435.heap O436 ) e440 (W := 0) (by decide) (by decide) (by decide) (by decide) (Exa.ext O436 E_s_HITS_name) (g := (mkF m 25 #[.val (.ref s_HITS_name), .val (.ref r_435), .val (.int (3 : Int32)), .val (.int (0 : Int32)), .val (.ref s_HITS)] [(.ref s_HITS_name), (.ref s_HITS_name)])) rfl (by rw [hml]; rfl) (argsL := [(.ref s_HITS_name)]) (rest := []) (lenOf pd__Ljava_lang_Object__Z rfl) rfl rfl (by show 2 * 0 + _ ≤ _; exact Nat.le_of_eq rfl) (hb hby d_prog_4_method_4_code_25)
  obtain ⟨rfl, e441, rfl⟩ := q441
  have N441 := Fr.app N435 (Fr.nil _)
  refine Go.of (T' := T441) (f' := (mkF m 28 #[.val (.ref s_HITS_name), .val (.ref r_435), .val (.int (3 : Int32)), .val (.int (0 : Int32)), .val (.ref s_HITS)] [(.int (1 : Int32))])) (fun _ k => st441 _ k) ?_
  refine Go.of (T' := T441) (f' := (mkF m 31 #[.val (.ref s_HITS_name), .val (.ref r_435), .val (.int (3 : Int32)), .val (.int (0 : Int32)), .val (.ref s_HITS)] [])) (fun _ k => XS.ifNo X441.here hx rfl (hb hby d_prog_4_method_4_code_28) rfl ((if0 _ _).trans (feq (by decide : ¬ ((1 : Int32) = (0 : Int32)))).1) k) ?_
  refine Go.of (T' := T441) (f' := (mkF m 33 #[.val (.ref s_HITS_name), .val (.ref r_435), .val (.int (3 : Int32)), .val (.int (0 : Int32)), .val (.ref s_HITS)] [(.ref s_HITS)])) (fun _ k => XS.aload X441.here hx rfl (hb hby d_prog_4_method_4_code_31) rfl rfl k) ?_
  exact Go.retA X441 hx hlk hret rfl rfl (hb hby d_prog_4_method_4_code_33) (by decide) (by decide) (by rw [e441]; exact ⟨rfl, N441, K436⟩)
theorem d_prog_4_method_4_code_34 : decode prog_4_method_4_code 34 = .ok (.iinc 3 1, 3) := by decide +kernel
theorem d_prog_4_method_4_code_37 : decode prog_4_method_4_code 37 = .ok (.goto (-28), 3) := by decide +kernel
theorem ef_rm_named1 (m : MethodId) (s_RESULTS_name : Addr) : entryFrame m #[(.ref s_RESULTS_name)] 5 = mkF m 0 #[.val (.ref s_RESULTS_name), .unset, .unset, .unset, .unset] [] := by first | (simp [entryFrame, mkF, argsToLocals, Value.category]; done) | rfl
set_option maxRecDepth 65536 in
set_option maxHeartbeats 40000000 in
theorem rm_named1 {l : Launch} {Z : State} {a0 : Array Value} {s__VALUES : Addr} {s_HITS : Addr} {s_RESULTS : Addr} {s_VALIDATE : Addr} {s_HITS_name : Addr} {s_RESULTS_name : Addr} {s_VALIDATE_name : Addr} {s_HITS_name_value : Addr} {s_RESULTS_name_value : Addr} {s_VALIDATE_name_value : Addr} {s_DEFAULTCAPACITY_EMPTY_ELEMENTDATA : Addr} {s_COMPACT_STRINGS : Int32} {cl_s__VALUES : Cell} {cl_s_HITS_name_value : Cell} {cl_s_RESULTS_name_value : Cell} {cl_s_VALIDATE_name_value : Cell} {cl_s_DEFAULTCAPACITY_EMPTY_ELEMENTDATA : Cell} (hw : ∀ d ∈ tables_1, d.before a0 Z = true) (G : own_Ctx Z s__VALUES s_HITS s_RESULTS s_VALIDATE s_HITS_name s_RESULTS_name s_VALIDATE_name s_HITS_name_value s_RESULTS_name_value s_VALIDATE_name_value s_DEFAULTCAPACITY_EMPTY_ELEMENTDATA s_COMPACT_STRINGS cl_s__VALUES cl_s_HITS_name_value cl_s_RESULTS_name_value cl_s_VALIDATE_name_value cl_s_DEFAULTCAPACITY_EMPTY_ELEMENTDATA)   (h0 : Heap) (O0 : Ext Z.heap h0)  :
    Ok l Z (⟨"com/example/fair_index/fairindex/csw/ResultType", "named", "(Ljava/lang/String;)Lcom/example/fair_index/fairindex/csw/ResultType;"⟩ : MethodName) prog_4_method_4_code 5 (some (.object "com/example/fair_index/fairindex/csw/ResultType")) ({ frames := 2, cells := 1, slots := 3, locals := 28 } : Room) #[(.ref s_RESULTS_name)] h0
      (fun v h L => v = some (.ref s_RESULTS) ∧ (Fr Z.heap.size L) ∧ (Keep h0 h [])) := by
  refine Ok.mk pn_com_example_fair_index_fairindex_csw_ResultType_named__Ljava_lang_String__Lcom_example_fair_index_fairindex_csw_ResultType_ ?_
  intro p e s m below meth c T0 hx hby hml hown hnm hret hlk hZ e0 X0
  refine Go.cast (ef_rm_named1 m s_RESULTS_name) ?_
  obtain ⟨S__VALUES, E_s__VALUES, S_HITS, E_s_HITS, S_RESULTS, E_s_RESULTS, S_VALIDATE, E_s_VALIDATE, F_s_HITS_name, E_s_HITS_name, F_s_RESULTS_name, E_s_RESULTS_name, F_s_VALIDATE_name, E_s_VALIDATE_name, F_s_HITS_name_coder, F_s_HITS_name_value, F_s_RESULTS_name_coder, F_s_RESULTS_name_value, F_s_VALIDATE_name_coder, F_s_VALIDATE_name_value, ne_s_HITS_name_s_RESULTS_name, ne_s_HITS_name_s_VALIDATE_name, ne_s_RESULTS_name_s_VALIDATE_name, S_DEFAULTCAPACITY_EMPTY_ELEMENTDATA, E_s_DEFAULTCAPACITY_EMPTY_ELEMENTDATA, S_COMPACT_STRINGS, hne_s_COMPACT_STRINGS_0, V_s__VALUES, V_s_HITS_name_value, V_s_RESULTS_name_value, V_s_VALIDATE_name_value, V_s_DEFAULTCAPACITY_EMPTY_ELEMENTDATA⟩ := id G
  have N0 := Fr.nil Z.heap.size
  have K0 : Keep h0 h0 [] := Keep.refl _ _
  obtain ⟨T443, v443, L443, X443, q443, st443⟩ := callSt X0 hx hZ (y := (⟨"com/example/fair_index/fairindex/csw/ResultType", "values", "()[Lcom/example/fair_index/fairindex/csw/ResultType;"⟩ : MethodName)) hown (hw _ (List.mem_of_getElem? (i := 30) rfl)) (hw _ (List.mem_of_getElem? (i := 31) rfl)) (hw _ (List.mem_of_getElem? (i := 2) rfl)) (hw _ (List.mem_of_getElem? (i := 32) rfl)) (by decide) (rm_values hw G   h0 O0 ) e0 (W := 0) (by decide) (by decide) (by decide) (by decide) (g := (mkF m 0 #[.val (.ref s_RESULTS_name), .unset, .unset, .unset, .unset] [])) rfl (by rw [hml]; rfl) (argsL := []) (rest := []) (lenOf pd____Lcom_example_fair_index_fairindex_csw_ResultType_ rfl) rfl rfl (by show 2 * 0 + _ ≤ _; exact Nat.le_of_eq rfl) (hb hby d_prog_4_method_4_code_0)
  obtain ⟨r_443, rfl, N443q, K443q, p443_0, p443_1, p443_2⟩ := q443
  have N443 := Fr.app N0 N443q
  have O444 := Old0.keep O0 K443q all0
  have K444 := Keep.trans K0 K443q all0
  have z_r_443 : h0.size ≤ r_443 := Nat.le_trans K0.1 p443_0
  have g_r_443 : Z.heap.size ≤ r_443 := Nat.le_trans O0.1 p443_0
  refine Go.of (T' := T443) (f' := (mkF m 3 #[.val (.ref s_RESULTS_name), .unset, .unset, .unset, .unset] [(.ref r_443)])) (fun _ k => st443 _ k) ?_
  refine Go.of (T' := T443) (f' := (mkF m 4 #[.val (.ref s_RESULTS_name), .val (.ref r_443), .unset, .unset, .unset] [])) (fun _ k => XS.astoreN X443.here hx rfl (hb hby d_prog_4_method_4_code_3) rfl rfl (l' := #[.val (.ref s_RESULTS_name), .val (.ref r_443), .unset, .unset, .unset]) rfl k) ?_
  refine Go.of (T' := T443) (f' := (mkF m 5 #[.val (.ref s_RESULTS_name), .val (.ref r_443), .unset, .unset, .unset] [(.ref r_443)])) (fun _ k => XS.aloadN X443.here hx rfl (hb hby d_prog_4_method_4_code_4) rfl rfl k) ?_
  obtain ⟨cl445, Ar445, qk445, S445, Ng445, H445, G445⟩ := id p443_1
  refine Go.of (T' := T443) (f' := (mkF m 6 #[.val (.ref s_RESULTS_name), .val (.ref r_443), .unset, .unset, .unset] [(.int (3 : Int32))])) (fun _ k => X443.arraylength hx Ar445.1 (State.isArrayOf_alike hZ.alike Ar445.2.1) (g := (mkF m 5 #[.val (.ref s_RESULTS_name), .val (.ref r_443), .unset, .unset, .unset] [(.ref r_443)])) rfl rfl (hb hby d_prog_4_method_4_code_5) _ (by rw [len_of S445 Ng445]; exact k)) ?_
  refine Go.of (T' := T443) (f' := (mkF m 7 #[.val (.ref s_RESULTS_name), .val (.ref r_443), .val (.int (3 : Int32)), .unset, .unset] [])) (fun _ k => XS.istoreN X443.here hx rfl (hb hby d_prog_4_method_4_code_6) rfl (l' := #[.val (.ref s_RESULTS_name), .val (.ref r_443), .val (.int (3 : Int32)), .unset, .unset]) rfl k) ?_
  refine Go.of (T' := T443) (f' := (mkF m 8 #[.val (.ref s_RESULTS_name), .val (.ref r_443), .val (.int (3 : Int32)), .unset, .unset] [(.int (0 : Int32))])) (fun _ k => XS.iconst X443.here hx rfl (hb hby d_prog_4_method_4_code_7) k) ?_
  refine Go.of (T' := T443) (f' := (mkF m 9 #[.val (.ref s_RESULTS_name), .val (.ref r_443), .val (.int (3 : Int32)), .val (.int (0 : Int32)), .unset] [])) (fun _ k => XS.istoreN X443.here hx rfl (hb hby d_prog_4_method_4_code_8) rfl (l' := #[.val (.ref s_RESULTS_name), .val (.ref r_443), .val (.int (3 : Int32)), .val (.int (0 : Int32)), .unset]) rfl k) ?_
  refine Go.of (T' := T443) (f' := (mkF m 10 #[.val (.ref s_RESULTS_name), .val (.ref r_443), .val (.int (3 : Int32)), .val (.int (0 : Int32)), .unset] [(.int (0 : Int32))])) (fun _ k => XS.iloadN X443.here hx rfl (hb hby d_prog_4_method_4_code_9) rfl k) ?_
  refine Go.of (T' := T443) (f' := (mkF m 11 #[.val (.ref s_RESULTS_name), .val (.ref r_443), .val (.int (3 : Int32)), .val (.int (0 : Int32)), .unset] [(.int (3 : Int32)), (.int (0 : Int32))])) (fun _ k => XS.iloadN X443.here hx rfl (hb hby d_prog_4_method_4_code_10) rfl k) ?_
  refine Go.of (T' := T443) (f' := (mkF m 14 #[.val (.ref s_RESULTS_name), .val (.ref r_443), .val (.int (3 : Int32)), .val (.int (0 : Int32)), .unset] [])) (fun _ k => XS.icmpNo X443.here hx rfl (hb hby d_prog_4_method_4_code_11) rfl (tlt (by decide : (0 : Int32) < (3 : Int32))).2.1 k) ?_
  refine Go.of (T' := T443) (f' := (mkF m 15 #[.val (.ref s_RESULTS_name), .val (.ref r_443), .val (.int (3 : Int32)), .val (.int (0 : Int32)), .unset] [(.ref r_443)])) (fun _ k => XS.aloadN X443.here hx rfl (hb hby d_prog_4_method_4_code_14) rfl rfl k) ?_
  refine Go.of (T' := T443) (f' := (mkF m 16 #[.val (.ref s_RESULTS_name), .val (.ref r_443), .val (.int (3 : Int32)), .val (.int (0 : Int32)), .unset] [(.int (0 : Int32)), (.ref r_443)])) (fun _ k => XS.iloadN X443.here hx rfl (hb hby d_prog_4_method_4_code_15) rfl k) ?_
  obtain ⟨cl447, Ar447, qk447, S447, Ng447, H447, G447⟩ := id p443_1
  have hin447 := inb_of (j := (0 : Int32)) S447 ⟨by decide, by decide⟩
  refine Go.of (T' := T443) (f' := (mkF m 17 #[.val (.ref s_RESULTS_name), .val (.ref r_443), .val (.int (3 : Int32)), .val (.int (0 : Int32)), .unset] [(.ref s_HITS)])) (fun _ k => X443.aaload hx (j := (0 : Int32)) (v := (.ref s_HITS)) Ar447.1 (State.isArrayOf_alike hZ.alike Ar447.2.1) rfl Ar447.2.2 hin447 (H447.at hin447 rfl) (g := (mkF m 16 #[.val (.ref s_RESULTS_name), .val (.ref r_443), .val (.int (3 : Int32)), .val (.int (0 : Int32)), .unset] [(.int (0 : Int32)), (.ref r_443)])) rfl rfl (hb hby d_prog_4_method_4_code_16) _ k) ?_
  refine Go.of (T' := T443) (f' := (mkF m 19 #[.val (.ref s_RESULTS_name), .val (.ref r_443), .val (.int (3 : Int32)), .val (.int (0 : Int32)), .val (.ref s_HITS)] [])) (fun _ k => XS.astore X443.here hx rfl (hb hby d_prog_4_method_4_code_17) rfl rfl (l' := #[.val (.ref s_RESULTS_name), .val (.ref r_443), .val (.int (3 : Int32)), .val (.int (0 : Int32)), .val (.ref s_HITS)]) rfl k) ?_
  refine Go.of (T' := T443) (f' := (mkF m 21 #[.val (.ref s_RESULTS_name), .val (.ref r_443), .val (.int (3 : Int32)), .val (.int (0 : Int32)), .val (.ref s_HITS)] [(.ref s_HITS)])) (fun _ k => XS.aload X443.here hx rfl (hb hby d_prog_4_method_4_code_19) rfl rfl k) ?_
  obtain ⟨T448, X448, e448, st448⟩ := getF X443 hx hZ hown (host := "") (Or.inl (hw _ (List.mem_of_getElem? (i := 48) rfl))) Via.refl rfl (Fld.ext O444 F_s_HITS_name) (g := (mkF m 21 #[.val (.ref s_RESULTS_name), .val (.ref r_443), .val (.int (3 : Int32)), .val (.int (0 : Int32)), .val (.ref s_HITS)] [(.ref s_HITS)])) rfl rfl (hb hby d_prog_4_method_4_code_21)
  refine Go.of (T' := T448) (f' := (mkF m 24 #[.val (.ref s_RESULTS_name), .val (.ref r_443), .val (.int (3 : Int32)), .val (.int (0 : Int32)), .val (.ref s_HITS)] [(.ref s_HITS_name)])) (fun _ k => st448 _ k) ?_
  refine Go.of (T' := T448) (f' := (mkF m 25 #[.val (.ref s_RESULTS_name), .val (.ref r_443), .val (.int (3 : Int32)), .val (.int (0 : Int32)), .val (.ref s_HITS)] [(.ref s_RESULTS_name), (.ref s_HITS_name)])) (fun _ k => XS.aloadN X448.here hx rfl (hb hby d_prog_4_method_4_code_24) rfl rfl k) ?_
  obtain ⟨T449, v449, L449, X449, q449, st449⟩ := callVi X448 hx hZ (y := (⟨"java/lang/String", "equals", "(Ljava/lang/Object;)Z"⟩ : MethodName)) (z := (⟨"java/lang/String", "equals", "(Ljava/lang/Object;)Z"⟩ : MethodName)) hown (hw _ (List.mem_of_getElem? (i := 164) rfl)) (hw _ (List.mem_of_getElem? (i := 144) rfl)) (notFace_of_selects (args := #[]) (mvT hZ (hw _ (List.mem_of_getElem? (i := 146) rfl)))) (hw _ (List.mem_of_getElem? (i := 146) rfl)) (hw _ (List.mem_of_getElem? (i := 145) rfl)) (hw _ (List.mem_of_getElem? (i := 147) rfl)) (hw _ (List.mem_of_getElem? (i := 95) rfl)) (by decide) (rm_eqn01 hw G   T443.heap O444 ) e448 (W := 0) (by decide) (by decide) (by decide) (by decide) (Exa.ext O444 E_s_HITS_name) (g := (mkF m 25 #[.val (.ref s_RESULTS_name), .val (.ref r_443), .val (.int (3 : Int32)), .val (.int (0 : Int32)), .val (.ref s_HITS)] [(.ref s_RESULTS_name), (.ref s_HITS_name)])) rfl (by rw [hml]; rfl) (argsL := [(.ref s_RESULTS_name)]) (rest := []) (lenOf pd__Ljava_lang_Object__Z rfl) rfl rfl (by show 2 * 0 + _ ≤ _; exact Nat.le_of_eq rfl) (hb hby d_prog_4_method_4_code_25)
  obtain ⟨rfl, e449, rfl⟩ := q449
  have N449 := Fr.app N443 (Fr.nil _)
  refine Go.of (T' := T449) (f' := (mkF m 28 #[.val (.ref s_RESULTS_name), .val (.ref r_443), .val (.int (3 : Int32)), .val (.int (0 : Int32)), .val (.ref s_HITS)] [(.int (0 : Int32))])) (fun _ k => st449 _ k) ?_
  refine Go.of (T' := T449) (f' := (mkF m 34 #[.val (.ref s_RESULTS_name), .val (.ref r_443), .val (.int (3 : Int32)), .val (.int (0 : Int32)), .val (.ref s_HITS)] [])) (fun _ k => XS.ifYes X449.here hx rfl (pc0 := 28) (pc' := 34) rfl (hb hby d_prog_4_method_4_code_28) rfl ((if0 _ _).trans (teq (by decide : (0 : Int32) = (0 : Int32))).1) (by decide) (by decide) k) ?_
  refine Go.of (T' := T449) (f' := (mkF m 37 #[.val (.ref s_RESULTS_name), .val (.ref r_443), .val (.int (3 : Int32)), .val (.int (1 : Int32)), .val (.ref s_HITS)] [])) (fun _ k => XS.iinc X449.here hx rfl (hb hby d_prog_4_method_4_code_34) rfl (l' := #[.val (.ref s_RESULTS_name), .val (.ref r_443), .val (.int (3 : Int32)), .val (.int (1 : Int32)), .val (.ref s_HITS)]) rfl k) ?_
  refine Go.of (T' := T449) (f' := (mkF m 9 #[.val (.ref s_RESULTS_name), .val (.ref r_443), .val (.int (3 : Int32)), .val (.int (1 : Int32)), .val (.ref s_HITS)] [])) (fun _ k => XS.goto X449.here hx rfl (pc0 := 37) (pc' := 9) rfl (hb hby d_prog_4_method_4_code_37) (by decide) (by decide) k) ?_
  refine Go.of (T' := T449) (f' := (mkF m 10 #[.val (.ref s_RESULTS_name), .val (.ref r_443), .val (.int (3 : Int32)), .val (.int (1 : Int32)), .val (.ref s_HITS)] [(.int (1 : Int32))])) (fun _ k => XS.iloadN X449.here hx rfl (hb hby d_prog_4_method_4_code_9) rfl k) ?_
  refine Go.of (T' := T449) (f' := (mkF m 11 #[.val (.ref s_RESULTS_name), .val (.ref r_443), .val (.int (3 : Int32)), .val (.int (1 : Int32)), .val (.ref s_HITS)] [(.int (3 : Int32)), (.int (1 : Int32))])) (fun _ k => XS.iloadN X449.here hx rfl (hb hby d_prog_4_method_4_code_10) rfl k) ?_
  refine Go.of (T' := T449) (f' := (mkF m 14 #[.val (.ref s_RESULTS_name), .val (.ref r_443), .val (.int (3 : Int32)), .val (.int (1 : Int32)), .val (.ref s_HITS)] [])) (fun _ k => XS.icmpNo X449.here hx rfl (hb hby d_prog_4_method_4_code_11) rfl (tlt (by decide : (1 : Int32) < (3 : Int32))).2.1 k) ?_
  refine Go.of (T' := T449) (f' := (mkF m 15 #[.val (.ref s_RESULTS_name), .val (.ref r_443), .val (.int (3 : Int32)), .val (.int (1 : Int32)), .val (.ref s_HITS)] [(.ref r_443)])) (fun _ k => XS.aloadN X449.here hx rfl (hb hby d_prog_4_method_4_code_14) rfl rfl k) ?_
  refine Go.of (T' := T449) (f' := (mkF m 16 #[.val (.ref s_RESULTS_name), .val (.ref r_443), .val (.int (3 : Int32)), .val (.int (1 : Int32)), .val (.ref s_HITS)] [(.int (1 : Int32)), (.ref r_443)])) (fun _ k => XS.iloadN X449.here hx rfl (hb hby d_prog_4_method_4_code_15) rfl k) ?_
  obtain ⟨cl452, Ar452, qk452, S452, Ng452, H452, G452⟩ := id p443_1
  have hin452 := inb_of (j := (1 : Int32)) S452 ⟨by decide, by decide⟩
  refine Go.of (T' := T449) (f' := (mkF m 17 #[.val (.ref s_RESULTS_name), .val (.ref r_443), .val (.int (3 : Int32)), .val (.int (1 : Int32)), .val (.ref s_HITS)] [(.ref s_RESULTS)])) (fun _ k => X449.aaload hx (j := (1 : Int32)) (v := (.ref s_RESULTS)) (by rw [e449]; exact Ar452.1) (State.isArrayOf_alike hZ.alike Ar452.2.1) rfl Ar452.2.2 hin452 (H452.at hin452 rfl) (g := (mkF m 16 #[.val (.ref s_RESULTS_name), .val (.ref r_443), .val (.int (3 : Int32)), .val (.int (1 : Int32)), .val (.ref s_HITS)] [(.int (1 : Int32)), (.ref r_443)])) rfl rfl (hb hby d_prog_4_method_4_code_16) _ k) ?_
  refine Go.of (T' := T449) (f' := (mkF m 19 #[.val (.ref s_RESULTS_name), .val (.ref r_443), .val (.int (3 : Int32)), .val (.int (1 : Int32)), .val (.ref s_RESULTS)] [])) (fun _ k => XS.astore X449.here hx rfl (hb hby d_prog_4_method_4_code_17) rfl rfl (l' := #[.val (.ref s_RESULTS_name), .val (.ref r_443), .val (.int (3 : Int32)), .val (.int (1 : Int32)), .val (.ref s_RESULTS)]) rfl k) ?_
  refine Go.of (T' := T449) (f' := (mkF m 21 #[.val (.ref s_RESULTS_name), .val (.ref r_443), .val (.int (3 : Int32)), .val (.int (1 : Int32)), .val (.ref s_RESULTS)] [(.ref s_RESULTS)])) (fun _ k => XS.aload X449.here hx rfl (hb hby d_prog_4_method_4_code_19) rfl rfl k) ?_
  obtain ⟨T453, X453, e453, st453⟩ := getF X449 hx hZ hown (host := "") (Or.inl (hw _ (List.mem_of_getElem? (i := 48) rfl))) Via.refl e449 (Fld.ext O444 F_s_RESULTS_name) (g := (mkF m 21 #[.val (.ref s_RESULTS_name), .val (.ref r_443), .val (.int (3 : Int32)), .val (.int (1 : Int32)), .val (.ref s_RESULTS)] [(.ref s_RESULTS)])) rfl rfl (hb hby d_prog_4_method_4_code_21)
  refine Go.of (T' := T453) (f' := (mkF m 24 #[.val (.ref s_RESULTS_name), .val (.ref r_443), .val (.int (3 : Int32)), .val (.int (1 : Int32)), .val (.ref s_RESULTS)] [(.ref s_RESULTS_name)])) (fun _ k => st453 _ k) ?_
  refine Go.of (T' := T453) (f' := (mkF m 25 #[.val (.ref s_RESULTS_name), .val (.ref r_443), .val (.int (3 : Int32)), .val (.int (1 : Int32)), .val (.ref s_RESULTS)] [(.ref s_RESULTS_name), (.ref s_RESULTS_name)])) (fun _ k => XS.aloadN X453.here hx rfl (hb hby d_prog_4_method_4_code_24) rfl rfl k) ?_
  obtain ⟨T454, v454, L454, X454, q454, st454⟩ := callVi X453 hx hZ (y := (⟨"java/lang/String", "equals", "(Ljava/lang/Object;)Z"⟩ : MethodName)) (z := (⟨"java/lang/String", "equals", "(Ljava/lang/Object;)Z"⟩ : MethodName)) hown (hw _ (List.mem_of_getElem? (i := 164) rfl)) (hw _ (List.mem_of_getElem? (i := 144) rfl)) (notFace_of_selects (args := #[]) (mvT hZ (hw _ (List.mem_of_getElem? (i := 146) rfl)))) (hw _ (List.mem_of_getElem? (i := 146) rfl)) (hw _ (List.mem_of_getElem? (i := 145) rfl)) (hw _ (List.mem_of_getElem? (i := 147) rfl)) (hw _ (List.mem_of_getElem? (i := 95) rfl)) (by decide) (rm_eqs1 hw G   T443.heap O444 ) e453 (W := 0) (by decide) (by decide) (by decide) (by decide) (Exa.ext O444 E_s_RESULTS_name) (g := (mkF m 25 #[.val (.ref s_RESULTS_name), .val (.ref r_443), .val (.int (3 : Int32)), .val (.int (1 : Int32)), .val (.ref s_RESULTS)] [(.ref s_RESULTS_name), (.ref s_RESULTS_name)])) rfl (by rw [hml]; rfl) (argsL := [(.ref s_RESULTS_name)]) (rest := []) (lenOf pd__Ljava_lang_Object__Z rfl) rfl rfl (by show 2 * 0 + _ ≤ _; exact Nat.le_of_eq rfl) (hb hby d_prog_4_method_4_code_25)
  obtain ⟨rfl, e454, rfl⟩ := q454
  have N454 := Fr.app N449 (Fr.nil _)
  refine Go.of (T' := T454) (f' := (mkF m 28 #[.val (.ref s_RESULTS_name), .val (.ref r_443), .val (.int (3 : Int32)), .val (.int (1 : Int32)), .val (.ref s_RESULTS)] [(.int (1 : Int32))])) (fun _ k => st454 _ k) ?_
  refine Go.of (T' := T454) (f' := (mkF m 31 #[.val (.ref s_RESULTS_name), .val (.ref r_443), .val (.int (3 : Int32)), .val (.int (1 : Int32)), .val (.ref s_RESULTS)] [])) (fun _ k => XS.ifNo X454.here hx rfl (hb hby d_prog_4_method_4_code_28) rfl ((if0 _ _).trans (feq (by decide : ¬ ((1 : Int32) = (0 : Int32)))).1) k) ?_
  refine Go.of (T' := T454) (f' := (mkF m 33 #[.val (.ref s_RESULTS_name), .val (.ref r_443), .val (.int (3 : Int32)), .val (.int (1 : Int32)), .val (.ref s_RESULTS)] [(.ref s_RESULTS)])) (fun _ k => XS.aload X454.here hx rfl (hb hby d_prog_4_method_4_code_31) rfl rfl k) ?_
  exact Go.retA X454 hx hlk hret rfl rfl (hb hby d_prog_4_method_4_code_33) (by decide) (by decide) (by rw [e454]; exact ⟨rfl, N454, K444⟩)
theorem ef_rm_named2 (m : MethodId) (s_VALIDATE_name : Addr) : entryFrame m #[(.ref s_VALIDATE_name)] 5 = mkF m 0 #[.val (.ref s_VALIDATE_name), .unset, .unset, .unset, .unset] [] := by first | (simp [entryFrame, mkF, argsToLocals, Value.category]; done) | rfl
set_option maxRecDepth 65536 in
set_option maxHeartbeats 40000000 in
theorem rm_named2 {l : Launch} {Z : State} {a0 : Array Value} {s__VALUES : Addr} {s_HITS : Addr} {s_RESULTS : Addr} {s_VALIDATE : Addr} {s_HITS_name : Addr} {s_RESULTS_name : Addr} {s_VALIDATE_name : Addr} {s_HITS_name_value : Addr} {s_RESULTS_name_value : Addr} {s_VALIDATE_name_value : Addr} {s_DEFAULTCAPACITY_EMPTY_ELEMENTDATA : Addr} {s_COMPACT_STRINGS : Int32} {cl_s__VALUES : Cell} {cl_s_HITS_name_value : Cell} {cl_s_RESULTS_name_value : Cell} {cl_s_VALIDATE_name_value : Cell} {cl_s_DEFAULTCAPACITY_EMPTY_ELEMENTDATA : Cell} (hw : ∀ d ∈ tables_1, d.before a0 Z = true) (G : own_Ctx Z s__VALUES s_HITS s_RESULTS s_VALIDATE s_HITS_name s_RESULTS_name s_VALIDATE_name s_HITS_name_value s_RESULTS_name_value s_VALIDATE_name_value s_DEFAULTCAPACITY_EMPTY_ELEMENTDATA s_COMPACT_STRINGS cl_s__VALUES cl_s_HITS_name_value cl_s_RESULTS_name_value cl_s_VALIDATE_name_value cl_s_DEFAULTCAPACITY_EMPTY_ELEMENTDATA)   (h0 : Heap) (O0 : Ext Z.heap h0)  :
    Ok l Z (⟨"com/example/fair_index/fairindex/csw/ResultType", "named", "(Ljava/lang/String;)Lcom/example/fair_index/fairindex/csw/ResultType;"⟩ : MethodName) prog_4_method_4_code 5 (some (.object "com/example/fair_index/fairindex/csw/ResultType")) ({ frames := 2, cells := 1, slots := 3, locals := 28 } : Room) #[(.ref s_VALIDATE_name)] h0
      (fun v h L => v = some (.ref s_VALIDATE) ∧ (Fr Z.heap.size L) ∧ (Keep h0 h [])) := by
  refine Ok.mk pn_com_example_fair_index_fairindex_csw_ResultType_named__Ljava_lang_String__Lcom_example_fair_index_fairindex_csw_ResultType_ ?_
  intro p e s m below meth c T0 hx hby hml hown hnm hret hlk hZ e0 X0
  refine Go.cast (ef_rm_named2 m s_VALIDATE_name) ?_
  obtain ⟨S__VALUES, E_s__VALUES, S_HITS, E_s_HITS, S_RESULTS, E_s_RESULTS, S_VALIDATE, E_s_VALIDATE, F_s_HITS_name, E_s_HITS_name, F_s_RESULTS_name, E_s_RESULTS_name, F_s_VALIDATE_name, E_s_VALIDATE_name, F_s_HITS_name_coder, F_s_HITS_name_value, F_s_RESULTS_name_coder, F_s_RESULTS_name_value, F_s_VALIDATE_name_coder, F_s_VALIDATE_name_value, ne_s_HITS_name_s_RESULTS_name, ne_s_HITS_name_s_VALIDATE_name, ne_s_RESULTS_name_s_VALIDATE_name, S_DEFAULTCAPACITY_EMPTY_ELEMENTDATA, E_s_DEFAULTCAPACITY_EMPTY_ELEMENTDATA, S_COMPACT_STRINGS, hne_s_COMPACT_STRINGS_0, V_s__VALUES, V_s_HITS_name_value, V_s_RESULTS_name_value, V_s_VALIDATE_name_value, V_s_DEFAULTCAPACITY_EMPTY_ELEMENTDATA⟩ := id G
  have N0 := Fr.nil Z.heap.size
  have K0 : Keep h0 h0 [] := Keep.refl _ _
  obtain ⟨T456, v456, L456, X456, q456, st456⟩ := callSt X0 hx hZ (y := (⟨"com/example/fair_index/fairindex/csw/ResultType", "values", "()[Lcom/example/fair_index/fairindex/csw/ResultType;"⟩ : MethodName)) hown (hw _ (List.mem_of_getElem? (i := 30) rfl)) (hw _ (List.mem_of_getElem? (i := 31) rfl)) (hw _ (List.mem_of_getElem? (i := 2) rfl)) (hw _ (List.mem_of_getElem? (i := 32) rfl)) (by decide) (rm_values hw G   h0 O0 ) e0 (W := 0) (by decide) (by decide) (by decide) (by decide) (g := (mkF m 0 #[.val (.ref s_VALIDATE_name), .unset, .unset, .unset, .unset] [])) rfl (by rw [hml]; rfl) (argsL := []) (rest := []) (lenOf pd____Lcom_example_fair_index_fairindex_csw_ResultType_ rfl) rfl rfl (by show 2 * 0 + _ ≤ _; exact Nat.le_of_eq rfl) (hb hby d_prog_4_method_4_code_0)
  obtain ⟨r_456, rfl, N456q, K456q, p456_0, p456_1, p456_2⟩ := q456
  have N456 := Fr.app N0 N456q
  have O457 := Old0.keep O0 K456q all0
  have K457 := Keep.trans K0 K456q all0
  have z_r_456 : h0.size ≤ r_456 := Nat.le_trans K0.1 p456_0
  have g_r_456 : Z.heap.size ≤ r_456 := Nat.le_trans O0.1 p456_0
  refine Go.of (T' := T456) (f' := (mkF m 3 #[.val (.ref s_VALIDATE_name), .unset, .unset, .unset, .unset] [(.ref r_456)])) (fun _ k => st456 _ k) ?_
  refine Go.of (T' := T456) (f' := (mkF m 4 #[.val (.ref s_VALIDATE_name), .val (.ref r_456), .unset, .unset, .unset] [])) (fun _ k => XS.astoreN X456.here hx rfl (hb hby d_prog_4_method_4_code_3) rfl rfl (l' := #[.val (.ref s_VALIDATE_name), .val (.ref r_456), .unset, .unset, .unset]) rfl k) ?_
  refine Go.of (T' := T456) (f' := (mkF m 5 #[.val (.ref s_VALIDATE_name), .val (.ref r_456), .unset, .unset, .unset] [(.ref r_456)])) (fun _ k => XS.aloadN X456.here hx rfl (hb hby d_prog_4_method_4_code_4) rfl rfl k) ?_
  obtain ⟨cl458, Ar458, qk458, S458, Ng458, H458, G458⟩ := id p456_1
  refine Go.of (T' := T456) (f' := (mkF m 6 #[.val (.ref s_VALIDATE_name), .val (.ref r_456), .unset, .unset, .unset] [(.int (3 : Int32))])) (fun _ k => X456.arraylength hx Ar458.1 (State.isArrayOf_alike hZ.alike Ar458.2.1) (g := (mkF m 5 #[.val (.ref s_VALIDATE_name), .val (.ref r_456), .unset, .unset, .unset] [(.ref r_456)])) rfl rfl (hb hby d_prog_4_method_4_code_5) _ (by rw [len_of S458 Ng458]; exact k)) ?_
  refine Go.of (T' := T456) (f' := (mkF m 7 #[.val (.ref s_VALIDATE_name), .val (.ref r_456), .val (.int (3 : Int32)), .unset, .unset] [])) (fun _ k => XS.istoreN X456.here hx rfl (hb hby d_prog_4_method_4_code_6) rfl (l' := #[.val (.ref s_VALIDATE_name), .val (.ref r_456), .val (.int (3 : Int32)), .unset, .unset]) rfl k) ?_
  refine Go.of (T' := T456) (f' := (mkF m 8 #[.val (.ref s_VALIDATE_name), .val (.ref r_456), .val (.int (3 : Int32)), .unset, .unset] [(.int (0 : Int32))])) (fun _ k => XS.iconst X456.here hx rfl (hb hby d_prog_4_method_4_code_7) k) ?_
  refine Go.of (T' := T456) (f' := (mkF m 9 #[.val (.ref s_VALIDATE_name), .val (.ref r_456), .val (.int (3 : Int32)), .val (.int (0 : Int32)), .unset] [])) (fun _ k => XS.istoreN X456.here hx rfl (hb hby d_prog_4_method_4_code_8) rfl (l' := #[.val (.ref s_VALIDATE_name), .val (.ref r_456), .val (.int (3 : Int32)), .val (.int (0 : Int32)), .unset]) rfl k) ?_
  refine Go.of (T' := T456) (f' := (mkF m 10 #[.val (.ref s_VALIDATE_name), .val (.ref r_456), .val (.int (3 : Int32)), .val (.int (0 : Int32)), .unset] [(.int (0 : Int32))])) (fun _ k => XS.iloadN X456.here hx rfl (hb hby d_prog_4_method_4_code_9) rfl k) ?_
  refine Go.of (T' := T456) (f' := (mkF m 11 #[.val (.ref s_VALIDATE_name), .val (.ref r_456), .val (.int (3 : Int32)), .val (.int (0 : Int32)), .unset] [(.int (3 : Int32)), (.int (0 : Int32))])) (fun _ k => XS.iloadN X456.here hx rfl (hb hby d_prog_4_method_4_code_10) rfl k) ?_
  refine Go.of (T' := T456) (f' := (mkF m 14 #[.val (.ref s_VALIDATE_name), .val (.ref r_456), .val (.int (3 : Int32)), .val (.int (0 : Int32)), .unset] [])) (fun _ k => XS.icmpNo X456.here hx rfl (hb hby d_prog_4_method_4_code_11) rfl (tlt (by decide : (0 : Int32) < (3 : Int32))).2.1 k) ?_
  refine Go.of (T' := T456) (f' := (mkF m 15 #[.val (.ref s_VALIDATE_name), .val (.ref r_456), .val (.int (3 : Int32)), .val (.int (0 : Int32)), .unset] [(.ref r_456)])) (fun _ k => XS.aloadN X456.here hx rfl (hb hby d_prog_4_method_4_code_14) rfl rfl k) ?_
  refine Go.of (T' := T456) (f' := (mkF m 16 #[.val (.ref s_VALIDATE_name), .val (.ref r_456), .val (.int (3 : Int32)), .val (.int (0 : Int32)), .unset] [(.int (0 : Int32)), (.ref r_456)])) (fun _ k => XS.iloadN X456.here hx rfl (hb hby d_prog_4_method_4_code_15) rfl k) ?_
  obtain ⟨cl460, Ar460, qk460, S460, Ng460, H460, G460⟩ := id p456_1
  have hin460 := inb_of (j := (0 : Int32)) S460 ⟨by decide, by decide⟩
  refine Go.of (T' := T456) (f' := (mkF m 17 #[.val (.ref s_VALIDATE_name), .val (.ref r_456), .val (.int (3 : Int32)), .val (.int (0 : Int32)), .unset] [(.ref s_HITS)])) (fun _ k => X456.aaload hx (j := (0 : Int32)) (v := (.ref s_HITS)) Ar460.1 (State.isArrayOf_alike hZ.alike Ar460.2.1) rfl Ar460.2.2 hin460 (H460.at hin460 rfl) (g := (mkF m 16 #[.val (.ref s_VALIDATE_name), .val (.ref r_456), .val (.int (3 : Int32)), .val (.int (0 : Int32)), .unset] [(.int (0 : Int32)), (.ref r_456)])) rfl rfl (hb hby d_prog_4_method_4_code_16) _ k) ?_
  refine Go.of (T' := T456) (f' := (mkF m 19 #[.val (.ref s_VALIDATE_name), .val (.ref r_456), .val (.int (3 : Int32)), .val (.int (0 : Int32)), .val (.ref s_HITS)] [])) (fun _ k => XS.astore X456.here hx rfl (hb hby d_prog_4_method_4_code_17) rfl rfl (l' := #[.val (.ref s_VALIDATE_name), .val (.ref r_456), .val (.int (3 : Int32)), .val (.int (0 : Int32)), .val (.ref s_HITS)]) rfl k) ?_
  refine Go.of (T' := T456) (f' := (mkF m 21 #[.val (.ref s_VALIDATE_name), .val (.ref r_456), .val (.int (3 : Int32)), .val (.int (0 : Int32)), .val (.ref s_HITS)] [(.ref s_HITS)])) (fun _ k => XS.aload X456.here hx rfl (hb hby d_prog_4_method_4_code_19) rfl rfl k) ?_
  obtain ⟨T461, X461, e461, st461⟩ := getF X456 hx hZ hown (host := "") (Or.inl (hw _ (List.mem_of_getElem? (i := 48) rfl))) Via.refl rfl (Fld.ext O457 F_s_HITS_name) (g := (mkF m 21 #[.val (.ref s_VALIDATE_name), .val (.ref r_456), .val (.int (3 : Int32)), .val (.int (0 : Int32)), .val (.ref s_HITS)] [(.ref s_HITS)])) rfl rfl (hb hby d_prog_4_method_4_code_21)
  refine Go.of (T' := T461) (f' := (mkF m 24 #[.val (.ref s_VALIDATE_name), .val (.ref r_456), .val (.int (3 : Int32)), .val (.int (0 : Int32)), .val (.ref s_HITS)] [(.ref s_HITS_name)])) (fun _ k => st461 _ k) ?_
  refine Go.of (T' := T461) (f' := (mkF m 25 #[.val (.ref s_VALIDATE_name), .val (.ref r_456), .val (.int (3 : Int32)), .val (.int (0 : Int32)), .val (.ref s_HITS)] [(.ref s_VALIDATE_name), (.ref s_HITS_name)])) (fun _ k => XS.aloadN X461.here hx rfl (hb hby d_prog_4_method_4_code_24) rfl rfl k) ?_
  obtain ⟨T462, v462, L462, X462, q462, st462⟩ := callVi X461 hx hZ (y := (⟨"java/lang/String", "equals", "(Ljava/lang/Object;)Z"⟩ : MethodName)) (z := (⟨"java/lang/String", "equals", "(Ljava/lang/Object;)Z"⟩ : MethodName)) hown (hw _ (List.mem_of_getElem? (i := 164) rfl)) (hw _ (List.mem_of_getElem? (i := 144) rfl)) (notFace_of_selects (args := #[]) (mvT hZ (hw _ (List.mem_of_getElem? (i := 146) rfl)))) (hw _ (List.mem_of_getElem? (i := 146) rfl)) (hw _ (List.mem_of_getElem? (i := 145) rfl)) (hw _ (List.mem_of_getElem? (i := 147) rfl)) (hw _ (List.mem_of_getElem? (i := 95) rfl)) (by decide) (rm_eqn02 hw G   T456.heap O457 ) e461 (W := 0) (by decide) (by decide) (by decide) (by decide) (Exa.ext O457 E_s_HITS_name) (g := (mkF m 25 #[.val (.ref s_VALIDATE_name), .val (.ref r_456), .val (.int (3 : Int32)), .val (.int (0 : Int32)), .val (.ref s_HITS)] [(.ref s_VALIDATE_name), (.ref s_HITS_name)])) rfl (by rw [hml]; rfl) (argsL := [(.ref s_VALIDATE_name)]) (rest := []) (lenOf pd__Ljava_lang_Object__Z rfl) rfl rfl (by show 2 * 0 + _ ≤ _; exact Nat.le_of_eq rfl) (hb hby d_prog_4_method_4_code_25)
  obtain ⟨rfl, e462, rfl⟩ := q462
  have N462 := Fr.app N456 (Fr.nil _)
  refine Go.of (T' := T462) (f' := (mkF m 28 #[.val (.ref s_VALIDATE_name), .val (.ref r_456), .val (.int (3 : Int32)), .val (.int (0 : Int32)), .val (.ref s_HITS)] [(.int (0 : Int32))])) (fun _ k => st462 _ k) ?_
  refine Go.of (T' := T462) (f' := (mkF m 34 #[.val (.ref s_VALIDATE_name), .val (.ref r_456), .val (.int (3 : Int32)), .val (.int (0 : Int32)), .val (.ref s_HITS)] [])) (fun _ k => XS.ifYes X462.here hx rfl (pc0 := 28) (pc' := 34) rfl (hb hby d_prog_4_method_4_code_28) rfl ((if0 _ _).trans (teq (by decide : (0 : Int32) = (0 : Int32))).1) (by decide) (by decide) k) ?_
  refine Go.of (T' := T462) (f' := (mkF m 37 #[.val (.ref s_VALIDATE_name), .val (.ref r_456), .val (.int (3 : Int32)), .val (.int (1 : Int32)), .val (.ref s_HITS)] [])) (fun _ k => XS.iinc X462.here hx rfl (hb hby d_prog_4_method_4_code_34) rfl (l' := #[.val (.ref s_VALIDATE_name), .val (.ref r_456), .val (.int (3 : Int32)), .val (.int (1 : Int32)), .val (.ref s_HITS)]) rfl k) ?_
  refine Go.of (T' := T462) (f' := (mkF m 9 #[.val (.ref s_VALIDATE_name), .val (.ref r_456), .val (.int (3 : Int32)), .val (.int (1 : Int32)), .val (.ref s_HITS)] [])) (fun _ k => XS.goto X462.here hx rfl (pc0 := 37) (pc' := 9) rfl (hb hby d_prog_4_method_4_code_37) (by decide) (by decide) k) ?_
  refine Go.of (T' := T462) (f' := (mkF m 10 #[.val (.ref s_VALIDATE_name), .val (.ref r_456), .val (.int (3 : Int32)), .val (.int (1 : Int32)), .val (.ref s_HITS)] [(.int (1 : Int32))])) (fun _ k => XS.iloadN X462.here hx rfl (hb hby d_prog_4_method_4_code_9) rfl k) ?_
  refine Go.of (T' := T462) (f' := (mkF m 11 #[.val (.ref s_VALIDATE_name), .val (.ref r_456), .val (.int (3 : Int32)), .val (.int (1 : Int32)), .val (.ref s_HITS)] [(.int (3 : Int32)), (.int (1 : Int32))])) (fun _ k => XS.iloadN X462.here hx rfl (hb hby d_prog_4_method_4_code_10) rfl k) ?_
  refine Go.of (T' := T462) (f' := (mkF m 14 #[.val (.ref s_VALIDATE_name), .val (.ref r_456), .val (.int (3 : Int32)), .val (.int (1 : Int32)), .val (.ref s_HITS)] [])) (fun _ k => XS.icmpNo X462.here hx rfl (hb hby d_prog_4_method_4_code_11) rfl (tlt (by decide : (1 : Int32) < (3 : Int32))).2.1 k) ?_
  refine Go.of (T' := T462) (f' := (mkF m 15 #[.val (.ref s_VALIDATE_name), .val (.ref r_456), .val (.int (3 : Int32)), .val (.int (1 : Int32)), .val (.ref s_HITS)] [(.ref r_456)])) (fun _ k => XS.aloadN X462.here hx rfl (hb hby d_prog_4_method_4_code_14) rfl rfl k) ?_
  refine Go.of (T' := T462) (f' := (mkF m 16 #[.val (.ref s_VALIDATE_name), .val (.ref r_456), .val (.int (3 : Int32)), .val (.int (1 : Int32)), .val (.ref s_HITS)] [(.int (1 : Int32)), (.ref r_456)])) (fun _ k => XS.iloadN X462.here hx rfl (hb hby d_prog_4_method_4_code_15) rfl k) ?_
  obtain ⟨cl465, Ar465, qk465, S465, Ng465, H465, G465⟩ := id p456_1
  have hin465 := inb_of (j := (1 : Int32)) S465 ⟨by decide, by decide⟩
  refine Go.of (T' := T462) (f' := (mkF m 17 #[.val (.ref s_VALIDATE_name), .val (.ref r_456), .val (.int (3 : Int32)), .val (.int (1 : Int32)), .val (.ref s_HITS)] [(.ref s_RESULTS)])) (fun _ k => X462.aaload hx (j := (1 : Int32)) (v := (.ref s_RESULTS)) (by rw [e462]; exact Ar465.1) (State.isArrayOf_alike hZ.alike Ar465.2.1) rfl Ar465.2.2 hin465 (H465.at hin465 rfl) (g := (mkF m 16 #[.val (.ref s_VALIDATE_name), .val (.ref r_456), .val (.int (3 : Int32)), .val (.int (1 : Int32)), .val (.ref s_HITS)] [(.int (1 : Int32)), (.ref r_456)])) rfl rfl (hb hby d_prog_4_method_4_code_16) _ k) ?_
  refine Go.of (T' := T462) (f' := (mkF m 19 #[.val (.ref s_VALIDATE_name), .val (.ref r_456), .val (.int (3 : Int32)), .val (.int (1 : Int32)), .val (.ref s_RESULTS)] [])) (fun _ k => XS.astore X462.here hx rfl (hb hby d_prog_4_method_4_code_17) rfl rfl (l' := #[.val (.ref s_VALIDATE_name), .val (.ref r_456), .val (.int (3 : Int32)), .val (.int (1 : Int32)), .val (.ref s_RESULTS)]) rfl k) ?_
  refine Go.of (T' := T462) (f' := (mkF m 21 #[.val (.ref s_VALIDATE_name), .val (.ref r_456), .val (.int (3 : Int32)), .val (.int (1 : Int32)), .val (.ref s_RESULTS)] [(.ref s_RESULTS)])) (fun _ k => XS.aload X462.here hx rfl (hb hby d_prog_4_method_4_code_19) rfl rfl k) ?_
  obtain ⟨T466, X466, e466, st466⟩ := getF X462 hx hZ hown (host := "") (Or.inl (hw _ (List.mem_of_getElem? (i := 48) rfl))) Via.refl e462 (Fld.ext O457 F_s_RESULTS_name) (g := (mkF m 21 #[.val (.ref s_VALIDATE_name), .val (.ref r_456), .val (.int (3 : Int32)), .val (.int (1 : Int32)), .val (.ref s_RESULTS)] [(.ref s_RESULTS)])) rfl rfl (hb hby d_prog_4_method_4_code_21)
  refine Go.of (T' := T466) (f' := (mkF m 24 #[.val (.ref s_VALIDATE_name), .val (.ref r_456), .val (.int (3 : Int32)), .val (.int (1 : Int32)), .val (.ref s_RESULTS)] [(.ref s_RESULTS_name)])) (fun _ k => st466 _ k) ?_
  refine Go.of (T' := T466) (f' := (mkF m 25 #[.val (.ref s_VALIDATE_name), .val (.ref r_456), .val (.int (3 : Int32)), .val (.int (1 : Int32)), .val (.ref s_RESULTS)] [(.ref s_VALIDATE_name), (.ref s_RESULTS_name)])) (fun _ k => XS.aloadN X466.here hx rfl (hb hby d_prog_4_method_4_code_24) rfl rfl k) ?_
  obtain ⟨T467, v467, L467, X467, q467, st467⟩ := callVi X466 hx hZ (y := (⟨"java/lang/String", "equals", "(Ljava/lang/Object;)Z"⟩ : MethodName)) (z := (⟨"java/lang/String", "equals", "(Ljava/lang/Object;)Z"⟩ : MethodName)) hown (hw _ (List.mem_of_getElem? (i := 164) rfl)) (hw _ (List.mem_of_getElem? (i := 144) rfl)) (notFace_of_selects (args := #[]) (mvT hZ (hw _ (List.mem_of_getElem? (i := 146) rfl)))) (hw _ (List.mem_of_getElem? (i := 146) rfl)) (hw _ (List.mem_of_getElem? (i := 145) rfl)) (hw _ (List.mem_of_getElem? (i := 147) rfl)) (hw _ (List.mem_of_getElem? (i := 95) rfl)) (by decide) (rm_eqn12 hw G   T456.heap O457 ) e466 (W := 0) (by decide) (by decide) (by decide) (by decide) (Exa.ext O457 E_s_RESULTS_name) (g := (mkF m 25 #[.val (.ref s_VALIDATE_name), .val (.ref r_456), .val (.int (3 : Int32)), .val (.int (1 : Int32)), .val (.ref s_RESULTS)] [(.ref s_VALIDATE_name), (.ref s_RESULTS_name)])) rfl (by rw [hml]; rfl) (argsL := [(.ref s_VALIDATE_name)]) (rest := []) (lenOf pd__Ljava_lang_Object__Z rfl) rfl rfl (by show 2 * 0 + _ ≤ _; exact Nat.le_of_eq rfl) (hb hby d_prog_4_method_4_code_25)
  obtain ⟨rfl, e467, rfl⟩ := q467
  have N467 := Fr.app N462 (Fr.nil _)
  refine Go.of (T' := T467) (f' := (mkF m 28 #[.val (.ref s_VALIDATE_name), .val (.ref r_456), .val (.int (3 : Int32)), .val (.int (1 : Int32)), .val (.ref s_RESULTS)] [(.int (0 : Int32))])) (fun _ k => st467 _ k) ?_
  refine Go.of (T' := T467) (f' := (mkF m 34 #[.val (.ref s_VALIDATE_name), .val (.ref r_456), .val (.int (3 : Int32)), .val (.int (1 : Int32)), .val (.ref s_RESULTS)] [])) (fun _ k => XS.ifYes X467.here hx rfl (pc0 := 28) (pc' := 34) rfl (hb hby d_prog_4_method_4_code_28) rfl ((if0 _ _).trans (teq (by decide : (0 : Int32) = (0 : Int32))).1) (by decide) (by decide) k) ?_
  refine Go.of (T' := T467) (f' := (mkF m 37 #[.val (.ref s_VALIDATE_name), .val (.ref r_456), .val (.int (3 : Int32)), .val (.int (2 : Int32)), .val (.ref s_RESULTS)] [])) (fun _ k => XS.iinc X467.here hx rfl (hb hby d_prog_4_method_4_code_34) rfl (l' := #[.val (.ref s_VALIDATE_name), .val (.ref r_456), .val (.int (3 : Int32)), .val (.int (2 : Int32)), .val (.ref s_RESULTS)]) rfl k) ?_
  refine Go.of (T' := T467) (f' := (mkF m 9 #[.val (.ref s_VALIDATE_name), .val (.ref r_456), .val (.int (3 : Int32)), .val (.int (2 : Int32)), .val (.ref s_RESULTS)] [])) (fun _ k => XS.goto X467.here hx rfl (pc0 := 37) (pc' := 9) rfl (hb hby d_prog_4_method_4_code_37) (by decide) (by decide) k) ?_
  refine Go.of (T' := T467) (f' := (mkF m 10 #[.val (.ref s_VALIDATE_name), .val (.ref r_456), .val (.int (3 : Int32)), .val (.int (2 : Int32)), .val (.ref s_RESULTS)] [(.int (2 : Int32))])) (fun _ k => XS.iloadN X467.here hx rfl (hb hby d_prog_4_method_4_code_9) rfl k) ?_
  refine Go.of (T' := T467) (f' := (mkF m 11 #[.val (.ref s_VALIDATE_name), .val (.ref r_456), .val (.int (3 : Int32)), .val (.int (2 : Int32)), .val (.ref s_RESULTS)] [(.int (3 : Int32)), (.int (2 : Int32))])) (fun _ k => XS.iloadN X467.here hx rfl (hb hby d_prog_4_method_4_code_10) rfl k) ?_
  refine Go.of (T' := T467) (f' := (mkF m 14 #[.val (.ref s_VALIDATE_name), .val (.ref r_456), .val (.int (3 : Int32)), .val (.int (2 : Int32)), .val (.ref s_RESULTS)] [])) (fun _ k => XS.icmpNo X467.here hx rfl (hb hby d_prog_4_method_4_code_11) rfl (tlt (by decide : (2 : Int32) < (3 : Int32))).2.1 k) ?_
  refine Go.of (T' := T467) (f' := (mkF m 15 #[.val (.ref s_VALIDATE_name), .val (.ref r_456), .val (.int (3 : Int32)), .val (.int (2 : Int32)), .val (.ref s_RESULTS)] [(.ref r_456)])) (fun _ k => XS.aloadN X467.here hx rfl (hb hby d_prog_4_method_4_code_14) rfl rfl k) ?_
  refine Go.of (T' := T467) (f' := (mkF m 16 #[.val (.ref s_VALIDATE_name), .val (.ref r_456), .val (.int (3 : Int32)), .val (.int (2 : Int32)), .val (.ref s_RESULTS)] [(.int (2 : Int32)), (.ref r_456)])) (fun _ k => XS.iloadN X467.here hx rfl (hb hby d_prog_4_method_4_code_15) rfl k) ?_
  obtain ⟨cl470, Ar470, qk470, S470, Ng470, H470, G470⟩ := id p456_1
  have hin470 := inb_of (j := (2 : Int32)) S470 ⟨by decide, by decide⟩
  refine Go.of (T' := T467) (f' := (mkF m 17 #[.val (.ref s_VALIDATE_name), .val (.ref r_456), .val (.int (3 : Int32)), .val (.int (2 : Int32)), .val (.ref s_RESULTS)] [(.ref s_VALIDATE)])) (fun _ k => X467.aaload hx (j := (2 : Int32)) (v := (.ref s_VALIDATE)) (by rw [e467]; exact Ar470.1) (State.isArrayOf_alike hZ.alike Ar470.2.1) rfl Ar470.2.2 hin470 (H470.at hin470 rfl) (g := (mkF m 16 #[.val (.ref s_VALIDATE_name), .val (.ref r_456), .val (.int (3 : Int32)), .val (.int (2 : Int32)), .val (.ref s_RESULTS)] [(.int (2 : Int32)), (.ref r_456)])) rfl rfl (hb hby d_prog_4_method_4_code_16) _ k) ?_
  refine Go.of (T' := T467) (f' := (mkF m 19 #[.val (.ref s_VALIDATE_name), .val (.ref r_456), .val (.int (3 : Int32)), .val (.int (2 : Int32)), .val (.ref s_VALIDATE)] [])) (fun _ k => XS.astore X467.here hx rfl (hb hby d_prog_4_method_4_code_17) rfl rfl (l' := #[.val (.ref s_VALIDATE_name), .val (.ref r_456), .val (.int (3 : Int32)), .val (.int (2 : Int32)), .val (.ref s_VALIDATE)]) rfl k) ?_
  refine Go.of (T' := T467) (f' := (mkF m 21 #[.val (.ref s_VALIDATE_name), .val (.ref r_456), .val (.int (3 : Int32)), .val (.int (2 : Int32)), .val (.ref s_VALIDATE)] [(.ref s_VALIDATE)])) (fun _ k => XS.aload X467.here hx rfl (hb hby d_prog_4_method_4_code_19) rfl rfl k) ?_
  obtain ⟨T471, X471, e471, st471⟩ := getF X467 hx hZ hown (host := "") (Or.inl (hw _ (List.mem_of_getElem? (i := 48) rfl))) Via.refl e467 (Fld.ext O457 F_s_VALIDATE_name) (g := (mkF m 21 #[.val (.ref s_VALIDATE_name), .val (.ref r_456), .val (.int (3 : Int32)), .val (.int (2 : Int32)), .val (.ref s_VALIDATE)] [(.ref s_VALIDATE)])) rfl rfl (hb hby d_prog_4_method_4_code_21)
  refine Go.of (T' := T471) (f' := (mkF m 24 #[.val (.ref s_VALIDATE_name), .val (.ref r_456), .val (.int (3 : Int32)), .val (.int (2 : Int32)), .val (.ref s_VALIDATE)] [(.ref s_VALIDATE_name)])) (fun _ k => st471 _ k) ?_
  refine Go.of (T' := T471) (f' := (mkF m 25 #[.val (.ref s_VALIDATE_name), .val (.ref r_456), .val (.int (3 : Int32)), .val (.int (2 : Int32)), .val (.ref s_VALIDATE)] [(.ref s_VALIDATE_name), (.ref s_VALIDATE_name)])) (fun _ k => XS.aloadN X471.here hx rfl (hb hby d_prog_4_method_4_code_24) rfl rfl k) ?_
  obtain ⟨T472, v472, L472, X472, q472, st472⟩ := callVi X471 hx hZ (y := (⟨"java/lang/String", "equals", "(Ljava/lang/Object;)Z"⟩ : MethodName)) (z := (⟨"java/lang/String", "equals", "(Ljava/lang/Object;)Z"⟩ : MethodName)) hown (hw _ (List.mem_of_getElem? (i := 164) rfl)) (hw _ (List.mem_of_getElem? (i := 144) rfl)) (notFace_of_selects (args := #[]) (mvT hZ (hw _ (List.mem_of_getElem? (i := 146) rfl)))) (hw _ (List.mem_of_getElem? (i := 146) rfl)) (hw _ (List.mem_of_getElem? (i := 145) rfl)) (hw _ (List.mem_of_getElem? (i := 147) rfl)) (hw _ (List.mem_of_getElem? (i := 95) rfl)) (by decide) (rm_eqs2 hw G   T456.heap O457 ) e471 (W := 0) (by decide) (by decide) (by decide) (by decide) (Exa.ext O457 E_s_VALIDATE_name) (g := (mkF m 25 #[.val (.ref s_VALIDATE_name), .val (.ref r_456), .val (.int (3 : Int32)), .val (.int (2 : Int32)), .val (.ref s_VALIDATE)] [(.ref s_VALIDATE_name), (.ref s_VALIDATE_name)])) rfl (by rw [hml]; rfl) (argsL := [(.ref s_VALIDATE_name)]) (rest := []) (lenOf pd__Ljava_lang_Object__Z rfl) rfl rfl (by show 2 * 0 + _ ≤ _; exact Nat.le_of_eq rfl) (hb hby d_prog_4_method_4_code_25)
  obtain ⟨rfl, e472, rfl⟩ := q472
  have N472 := Fr.app N467 (Fr.nil _)
  refine Go.of (T' := T472) (f' := (mkF m 28 #[.val (.ref s_VALIDATE_name), .val (.ref r_456), .val (.int (3 : Int32)), .val (.int (2 : Int32)), .val (.ref s_VALIDATE)] [(.int (1 : Int32))])) (fun _ k => st472 _ k) ?_
  refine Go.of (T' := T472) (f' := (mkF m 31 #[.val (.ref s_VALIDATE_name), .val (.ref r_456), .val (.int (3 : Int32)), .val (.int (2 : Int32)), .val (.ref s_VALIDATE)] [])) (fun _ k => XS.ifNo X472.here hx rfl (hb hby d_prog_4_method_4_code_28) rfl ((if0 _ _).trans (feq (by decide : ¬ ((1 : Int32) = (0 : Int32)))).1) k) ?_
  refine Go.of (T' := T472) (f' := (mkF m 33 #[.val (.ref s_VALIDATE_name), .val (.ref r_456), .val (.int (3 : Int32)), .val (.int (2 : Int32)), .val (.ref s_VALIDATE)] [(.ref s_VALIDATE)])) (fun _ k => XS.aload X472.here hx rfl (hb hby d_prog_4_method_4_code_31) rfl rfl k) ?_
  exact Go.retA X472 hx hlk hret rfl rfl (hb hby d_prog_4_method_4_code_33) (by decide) (by decide) (by rw [e472]; exact ⟨rfl, N472, K457⟩)
def own_EL : List (String × Nat) := [("com/example/fair_index/fairindex/csw/ResultTypeNamesPinLaw", 33), ("com/example/fair_index/fairindex/csw/ResultTypeNamesPinLaw", 38), ("com/example/fair_index/fairindex/csw/ResultTypeNamesPinLaw", 40)]
theorem own_EW {Z : State} {a0 : Array Value} (hw : ∀ d ∈ tables_1, d.before a0 Z = true) : EW Z a0 own_EL := (EW.cons (hw _ (List.mem_of_getElem? (i := 140) rfl)) (by decide +kernel) (EW.cons (hw _ (List.mem_of_getElem? (i := 151) rfl)) (by decide +kernel) (EW.cons (hw _ (List.mem_of_getElem? (i := 152) rfl)) (by decide +kernel) EW.nil)))
theorem own_wS {Z : State} {a0 : Array Value} (hw : ∀ d ∈ tables_1, d.before a0 Z = true) : ∀ a ∈ Bundle.stringAtoms, a.before a0 Z = true := by
  intro a ha
  simp only [Bundle.stringAtoms, List.mem_cons, List.not_mem_nil, or_false] at ha
  rcases ha with rfl | rfl | rfl | rfl | rfl | rfl | rfl
  · exact (hw _ (List.mem_of_getElem? (i := 95) rfl))
  · exact (hw _ (List.mem_of_getElem? (i := 103) rfl))
  · exact (hw _ (List.mem_of_getElem? (i := 107) rfl))
  · exact (hw _ (List.mem_of_getElem? (i := 114) rfl))
  · exact (hw _ (List.mem_of_getElem? (i := 116) rfl))
  · exact (hw _ (List.mem_of_getElem? (i := 141) rfl))
  · exact (hw _ (List.mem_of_getElem? (i := 142) rfl))
theorem own_ch (x : Int32) : ¬ ((255 : Int32) < (x &&& (255 : Int32)).toUInt32.toUInt16.toUInt32.toInt32) := by
  rw [i2c_mask]
  have h1 := c_mask x 255 8 (by decide) (by decide)
  rw [Int32.lt_iff_toInt_lt, h1]
  show ¬ (255 : Int) < _
  omega
theorem pd___Ljava_util_List_ : parseMethodDescriptor "()Ljava/util/List;" = some ⟨[], some (.object "java/util/List")⟩ := by decide +kernel
theorem pd___I : parseMethodDescriptor "()I" = some ⟨[], some .int⟩ := by decide +kernel
theorem pd__C_Ljava_lang_String_ : parseMethodDescriptor "(C)Ljava/lang/String;" = some ⟨[.char], some (.object "java/lang/String")⟩ := by decide +kernel
theorem pd___Ljava_lang_String_ : parseMethodDescriptor "()Ljava/lang/String;" = some ⟨[], some (.object "java/lang/String")⟩ := by decide +kernel
theorem pd__Ljava_lang_String__Lcom_example_fair_index_fairindex_csw_ResultType_ : parseMethodDescriptor "(Ljava/lang/String;)Lcom/example/fair_index/fairindex/csw/ResultType;" = some ⟨[(.object "java/lang/String")], some (.object "com/example/fair_index/fairindex/csw/ResultType")⟩ := by decide +kernel
theorem ef_rm_law (m : MethodId) (p0 : Int32) : entryFrame m #[(.int p0)] maxLocals = mkF m 0 #[.val (.int p0), .unset, .unset, .unset, .unset, .unset] [] := by first | (simp [entryFrame, mkF, argsToLocals, Value.category, maxLocals]; done) | rfl
theorem pn_com_example_fair_index_fairindex_csw_ResultTypeNamesPinLaw_law__I_Z : plainFor (⟨"com/example/fair_index/fairindex/csw/ResultTypeNamesPinLaw", "law", "(I)Z"⟩ : MethodName) = true := by first | exact plainFor_of_name (by first | (simp [plainName, overriddenIn]; done) | decide +kernel) | decide +kernel
set_option maxRecDepth 65536 in
set_option maxHeartbeats 40000000 in
theorem rm_law {l : Launch} {Z : State} {a0 : Array Value} {s__VALUES : Addr} {s_HITS : Addr} {s_RESULTS : Addr} {s_VALIDATE : Addr} {s_HITS_name : Addr} {s_RESULTS_name : Addr} {s_VALIDATE_name : Addr} {s_HITS_name_value : Addr} {s_RESULTS_name_value : Addr} {s_VALIDATE_name_value : Addr} {s_DEFAULTCAPACITY_EMPTY_ELEMENTDATA : Addr} {s_COMPACT_STRINGS : Int32} {cl_s__VALUES : Cell} {cl_s_HITS_name_value : Cell} {cl_s_RESULTS_name_value : Cell} {cl_s_VALIDATE_name_value : Cell} {cl_s_DEFAULTCAPACITY_EMPTY_ELEMENTDATA : Cell} (hw : ∀ d ∈ tables_1, d.before a0 Z = true) (G : own_Ctx Z s__VALUES s_HITS s_RESULTS s_VALIDATE s_HITS_name s_RESULTS_name s_VALIDATE_name s_HITS_name_value s_RESULTS_name_value s_VALIDATE_name_value s_DEFAULTCAPACITY_EMPTY_ELEMENTDATA s_COMPACT_STRINGS cl_s__VALUES cl_s_HITS_name_value cl_s_RESULTS_name_value cl_s_VALIDATE_name_value cl_s_DEFAULTCAPACITY_EMPTY_ELEMENTDATA) (p0 : Int32)  (h0 : Heap) (O0 : Ext Z.heap h0)  :
    OkS l Z own_EL x code maxLocals ret room_1 #[(.int p0)] h0
      (fun v h L => v = some (.int (1 : Int32)) ∧ (Fr Z.heap.size L) ∧ (Keep h0 h [])) := by
  refine OkS.mk pn_com_example_fair_index_fairindex_csw_ResultTypeNamesPinLaw_law__I_Z ?_
  intro p e s m below meth c T0 hx hby hml hown hnm hret hlk hZ e0 C0 hS X0
  have hk := Nat.zero_le h0.size
  have hEL := own_EW hw
  have hml : c.maxLocals = 6 := hml
  have hown : s.vm.findClass "com/example/fair_index/fairindex/csw/ResultTypeNamesPinLaw" = some m.cls := hown
  refine GoS.cast (ef_rm_law m p0) ?_
  obtain ⟨S__VALUES, E_s__VALUES, S_HITS, E_s_HITS, S_RESULTS, E_s_RESULTS, S_VALIDATE, E_s_VALIDATE, F_s_HITS_name, E_s_HITS_name, F_s_RESULTS_name, E_s_RESULTS_name, F_s_VALIDATE_name, E_s_VALIDATE_name, F_s_HITS_name_coder, F_s_HITS_name_value, F_s_RESULTS_name_coder, F_s_RESULTS_name_value, F_s_VALIDATE_name_coder, F_s_VALIDATE_name_value, ne_s_HITS_name_s_RESULTS_name, ne_s_HITS_name_s_VALIDATE_name, ne_s_RESULTS_name_s_VALIDATE_name, S_DEFAULTCAPACITY_EMPTY_ELEMENTDATA, E_s_DEFAULTCAPACITY_EMPTY_ELEMENTDATA, S_COMPACT_STRINGS, hne_s_COMPACT_STRINGS_0, V_s__VALUES, V_s_HITS_name_value, V_s_RESULTS_name_value, V_s_VALIDATE_name_value, V_s_DEFAULTCAPACITY_EMPTY_ELEMENTDATA⟩ := id G
  have N0 := Fr.nil Z.heap.size
  have K0 : Keep h0 h0 [] := Keep.refl _ _
  obtain ⟨T474, v474, L474, X474, q474, st474⟩ := callSt X0 hx hZ (y := (⟨"com/example/fair_index/fairindex/csw/ResultType", "names", "()Ljava/util/List;"⟩ : MethodName)) hown (hw _ (List.mem_of_getElem? (i := 0) rfl)) (hw _ (List.mem_of_getElem? (i := 1) rfl)) (hw _ (List.mem_of_getElem? (i := 2) rfl)) (hw _ (List.mem_of_getElem? (i := 3) rfl)) (by decide) (rm_names hw G   h0 O0 ) e0 (W := 0) (by decide) (by decide) (by decide) (by decide) (g := (mkF m 0 #[.val (.int p0), .unset, .unset, .unset, .unset, .unset] [])) rfl (by rw [hml]; rfl) (argsL := []) (rest := []) (lenOf pd___Ljava_util_List_ rfl) rfl rfl (by show 2 * 0 + _ ≤ _; exact Nat.le_of_eq rfl) (hb hby at_0)
  obtain ⟨ob_474, ar_474, kr_474, mc_474, rfl, N474q, K474q, p474_0, p474_1, p474_2, p474_3, p474_4, p474_5, p474_6, p474_7, p474_8, p474_9⟩ := q474
  have N474 := Fr.app N0 N474q
  have O476 := Old0.keep O0 K474q all0
  have K476 := Keep.trans K0 K474q all0
  have C475 := CHr.trans C0 (CHr.keep K474q sf0 C0.1)
  have hk := Nat.le_trans hk K474q.1
  have z_ob_474 : h0.size ≤ ob_474 := Nat.le_trans K0.1 p474_0
  have g_ob_474 : Z.heap.size ≤ ob_474 := Nat.le_trans O0.1 p474_0
  have z_ar_474 : h0.size ≤ ar_474 := Nat.le_trans K0.1 p474_1
  have g_ar_474 : Z.heap.size ≤ ar_474 := Nat.le_trans O0.1 p474_1
  refine GoS.of (T' := T474) (f' := (mkF m 3 #[.val (.int p0), .unset, .unset, .unset, .unset, .unset] [(.ref ob_474)])) (fun _ k => st474 _ k) ?_
  refine GoS.of (T' := T474) (f' := (mkF m 4 #[.val (.int p0), .val (.ref ob_474), .unset, .unset, .unset, .unset] [])) (fun _ k => XS.astoreN X474.here hx rfl (hb hby at_3) rfl rfl (l' := #[.val (.int p0), .val (.ref ob_474), .unset, .unset, .unset, .unset]) rfl k) ?_
  refine GoS.of (T' := T474) (f' := (mkF m 5 #[.val (.int p0), .val (.ref ob_474), .unset, .unset, .unset, .unset] [(.ref ob_474)])) (fun _ k => XS.aloadN X474.here hx rfl (hb hby at_4) rfl rfl k) ?_
  obtain ⟨T477, v477, L477, X477, q477, st477⟩ := callIf X474 hx hZ (xi := (⟨"java/util/List", "size", "()I"⟩ : MethodName)) (y := (⟨"java/util/ArrayList", "size", "()I"⟩ : MethodName)) hown (hw _ (List.mem_of_getElem? (i := 85) rfl)) (hw _ (List.mem_of_getElem? (i := 86) rfl)) (mvT hZ (hw _ (List.mem_of_getElem? (i := 87) rfl))) (hw _ (List.mem_of_getElem? (i := 88) rfl)) (hw _ (List.mem_of_getElem? (i := 89) rfl)) (hw _ (List.mem_of_getElem? (i := 90) rfl)) (hw _ (List.mem_of_getElem? (i := 91) rfl)) (hw _ (List.mem_of_getElem? (i := 57) rfl)) (hw _ (List.mem_of_getElem? (i := 92) rfl)) (hw _ (List.mem_of_getElem? (i := 6) rfl)) (by decide) (rm_size3 hw G ob_474  T474.heap O476 p474_4) rfl (W := 0) (by decide) (by decide) (by decide) (by decide) p474_3 (g := (mkF m 5 #[.val (.int p0), .val (.ref ob_474), .unset, .unset, .unset, .unset] [(.ref ob_474)])) rfl (by rw [hml]; rfl) (argsL := []) (rest := []) (lenOf pd___I rfl) rfl rfl (by show 2 * 0 + _ ≤ _; exact Nat.le_of_eq rfl) (hb hby at_5)
  obtain ⟨rfl, e477, rfl⟩ := q477
  have N477 := Fr.app N474 (Fr.nil _)
  refine GoS.of (T' := T477) (f' := (mkF m 10 #[.val (.int p0), .val (.ref ob_474), .unset, .unset, .unset, .unset] [(.int (3 : Int32))])) (fun _ k => st477 _ k) ?_
  refine GoS.of (T' := T477) (f' := (mkF m 11 #[.val (.int p0), .val (.ref ob_474), .unset, .unset, .unset, .unset] [(.int (3 : Int32)), (.int (3 : Int32))])) (fun _ k => XS.iconst X477.here hx rfl (hb hby at_10) k) ?_
  refine GoS.of (T' := T477) (f' := (mkF m 16 #[.val (.int p0), .val (.ref ob_474), .unset, .unset, .unset, .unset] [])) (fun _ k => XS.icmpYes X477.here hx rfl (pc0 := 11) (pc' := 16) rfl (hb hby at_11) rfl (teq (by decide : (3 : Int32) = (3 : Int32))).1 (by decide) (by decide) k) ?_
  refine GoS.of (T' := T477) (f' := (mkF m 17 #[.val (.int p0), .val (.ref ob_474), .unset, .unset, .unset, .unset] [(.ref ob_474)])) (fun _ k => XS.aloadN X477.here hx rfl (hb hby at_16) rfl rfl k) ?_
  refine GoS.of (T' := T477) (f' := (mkF m 18 #[.val (.int p0), .val (.ref ob_474), .unset, .unset, .unset, .unset] [(.int p0), (.ref ob_474)])) (fun _ k => XS.iloadN X477.here hx rfl (hb hby at_17) rfl k) ?_
  refine GoS.of (T' := T477) (f' := (mkF m 21 #[.val (.int p0), .val (.ref ob_474), .unset, .unset, .unset, .unset] [(.int (255 : Int32)), (.int p0), (.ref ob_474)])) (fun _ k => XS.sipush X477.here hx rfl (hb hby at_18) k) ?_
  refine GoS.of (T' := T477) (f' := (mkF m 22 #[.val (.int p0), .val (.ref ob_474), .unset, .unset, .unset, .unset] [(.int (p0 &&& (255 : Int32))), (.ref ob_474)])) (fun _ k => XS.iand X477.here hx rfl (hb hby at_21) rfl k) ?_
  refine GoS.of (T' := T477) (f' := (mkF m 23 #[.val (.int p0), .val (.ref ob_474), .unset, .unset, .unset, .unset] [(.int ((p0 &&& (255 : Int32)).toUInt32.toUInt16.toUInt32.toInt32)), (.ref ob_474)])) (fun _ k => XS.i2c X477.here hx rfl (hb hby at_22) rfl k) ?_
  generalize hch0 : (((p0 &&& (255 : Int32)).toUInt32.toUInt16.toUInt32.toInt32) : Int32) = ch
  have hch := own_ch p0
  rw [hch0] at hch
  obtain ⟨T479, v479, L479, X479, q479, st479⟩ := callSt X477 hx hZ (y := (⟨"java/lang/String", "valueOf", "(C)Ljava/lang/String;"⟩ : MethodName)) hown (hw _ (List.mem_of_getElem? (i := 93) rfl)) (hw _ (List.mem_of_getElem? (i := 94) rfl)) (hw _ (List.mem_of_getElem? (i := 95) rfl)) (hw _ (List.mem_of_getElem? (i := 96) rfl)) (by decide) (rm_valueOf hw G ch  T474.heap O476 (hch)) e477 (W := 1) (by decide) (by decide) (by decide) (by decide) (g := (mkF m 23 #[.val (.int p0), .val (.ref ob_474), .unset, .unset, .unset, .unset] [(.int ch), (.ref ob_474)])) rfl (by rw [hml]; rfl) (argsL := [(.int ch)]) (rest := [(.ref ob_474)]) (lenOf pd__C_Ljava_lang_String_ rfl) rfl rfl (by show 2 * 0 + _ ≤ _; exact Nat.le_of_eq rfl) (hb hby at_23)
  obtain ⟨sb_479, rfl, N479q, K479q, p479_0, p479_1⟩ := q479
  have N479 := Fr.app N477 N479q
  have O481 := Old0.keep O476 K479q all0
  have K481 := Keep.trans K476 K479q all0
  have C480 := CHr.trans C475 (CHr.keep K479q sf0 C475.1)
  have hk := Nat.le_trans hk K479q.1
  have z_sb_479 : h0.size ≤ sb_479 := Nat.le_trans K476.1 p479_0
  have g_sb_479 : Z.heap.size ≤ sb_479 := Nat.le_trans O476.1 p479_0
  have ne_ob_474_sb_479 : ob_474 ≠ sb_479 := Nat.ne_of_lt (Nat.lt_of_lt_of_le p474_3.lt p479_0)
  have ne_ar_474_sb_479 : ar_474 ≠ sb_479 := Nat.ne_of_lt (Nat.lt_of_lt_of_le p474_8.lt p479_0)
  refine GoS.of (T' := T479) (f' := (mkF m 26 #[.val (.int p0), .val (.ref ob_474), .unset, .unset, .unset, .unset] [(.ref sb_479), (.ref ob_474)])) (fun _ k => st479 _ k) ?_
  have f483 : Exa Z T479.heap ob_474 "java/util/ArrayList" := (Exa.keep p474_3 K479q)
  have f484 : Fld Z T479.heap ob_474 "java/util/AbstractList" "modCount" "I" (.int mc_474) := (Fld.keep p474_6 K479q nin0)
  have f485 : Fld Z T479.heap ob_474 "java/util/ArrayList" "size" "I" (.int (3 : Int32)) := (Fld.keep p474_4 K479q nin0)
  have f486 : Fld Z T479.heap ob_474 "java/util/ArrayList" "elementData" "[Ljava/lang/Object;" (.ref ar_474) := (Fld.keep p474_5 K479q nin0)
  have f487 : Arv Z T479.heap ar_474 kr_474 (.object "java/lang/Object") (10 : Int32) [(.ref s_HITS_name), (.ref s_RESULTS_name), (.ref s_VALIDATE_name), .null, .null, .null, .null, .null, .null, .null] .null := (Arv.keep p474_7 K479q nin0)
  have f488 : Exa Z T479.heap ar_474 "[Ljava/lang/Object;" := (Exa.keep p474_8 K479q)
  obtain ⟨T482, v482, L482, X482, q482, st482⟩ := callIf X479 hx hZ (xi := (⟨"java/util/List", "add", "(Ljava/lang/Object;)Z"⟩ : MethodName)) (y := (⟨"java/util/ArrayList", "add", "(Ljava/lang/Object;)Z"⟩ : MethodName)) hown (hw _ (List.mem_of_getElem? (i := 117) rfl)) (hw _ (List.mem_of_getElem? (i := 51) rfl)) (mvT hZ (hw _ (List.mem_of_getElem? (i := 52) rfl))) (hw _ (List.mem_of_getElem? (i := 53) rfl)) (hw _ (List.mem_of_getElem? (i := 54) rfl)) (hw _ (List.mem_of_getElem? (i := 55) rfl)) (hw _ (List.mem_of_getElem? (i := 56) rfl)) (hw _ (List.mem_of_getElem? (i := 57) rfl)) (hw _ (List.mem_of_getElem? (i := 58) rfl)) (hw _ (List.mem_of_getElem? (i := 6) rfl)) (by decide) (rm_add_3 hw G ob_474 sb_479 ar_474 mc_474 kr_474 s_HITS_name s_RESULTS_name s_VALIDATE_name T479.heap O481 f483 p479_1 f484 f485 f486 f487 f488 p474_9 g_ob_474 g_ar_474 p474_2) rfl (W := 0) (by decide) (by decide) (by decide) (by decide) f483 (g := (mkF m 26 #[.val (.int p0), .val (.ref ob_474), .unset, .unset, .unset, .unset] [(.ref sb_479), (.ref ob_474)])) rfl (by rw [hml]; rfl) (argsL := [(.ref sb_479)]) (rest := []) (lenOf pd__Ljava_lang_Object__Z rfl) rfl rfl (by show 2 * 0 + _ ≤ _; exact Nat.le_of_eq rfl) (hb hby at_26)
  obtain ⟨rfl, N482q, K482q, p482_0, p482_1, p482_2, p482_3⟩ := q482
  have N482 := Fr.app N479 N482q
  have O490 := Old0.keep O481 K482q (allS g_ob_474 (allS g_ar_474 all0))
  have K490 := Keep.trans K481 K482q (allS (Or.inr z_ob_474) (allS (Or.inr z_ar_474) all0))
  have C489 := CHr.trans C480 (CHr.keep K482q (sfS (Safe.exa hZ.alike f483 (by decide) (by decide)) (sfS (Safe.exa hZ.alike f488 (by decide) (by decide)) sf0)) C480.1)
  have hk := Nat.le_trans hk K482q.1
  refine GoS.of (T' := T482) (f' := (mkF m 31 #[.val (.int p0), .val (.ref ob_474), .unset, .unset, .unset, .unset] [(.int (1 : Int32))])) (fun _ k => st482 _ k) ?_
  refine GoS.of (T' := T482) (f' := (mkF m 32 #[.val (.int p0), .val (.ref ob_474), .unset, .unset, .unset, .unset] [])) (fun _ k => XT.pop X482.here hx rfl (hb hby at_31) rfl rfl k) ?_
  have f492 : Exa Z T482.heap ob_474 "java/util/ArrayList" := (Exa.keep f483 K482q)
  have f493 : Exa Z T482.heap ar_474 "[Ljava/lang/Object;" := (Exa.keep f488 K482q)
  have f494 : Exa Z T482.heap sb_479 "java/lang/String" := (Exa.keep p479_1 K482q)
  obtain ⟨T491, v491, L491, X491, q491, st491⟩ := callSt X482 hx hZ (y := (⟨"com/example/fair_index/fairindex/csw/ResultType", "names", "()Ljava/util/List;"⟩ : MethodName)) hown (hw _ (List.mem_of_getElem? (i := 0) rfl)) (hw _ (List.mem_of_getElem? (i := 1) rfl)) (hw _ (List.mem_of_getElem? (i := 2) rfl)) (hw _ (List.mem_of_getElem? (i := 3) rfl)) (by decide) (rm_names hw G   T482.heap O490 ) rfl (W := 0) (by decide) (by decide) (by decide) (by decide) (g := (mkF m 32 #[.val (.int p0), .val (.ref ob_474), .unset, .unset, .unset, .unset] [])) rfl (by rw [hml]; rfl) (argsL := []) (rest := []) (lenOf pd___Ljava_util_List_ rfl) rfl rfl (by show 2 * 0 + _ ≤ _; exact Nat.le_of_eq rfl) (hb hby at_32)
  obtain ⟨ob_491, ar_491, kr_491, mc_491, rfl, N491q, K491q, p491_0, p491_1, p491_2, p491_3, p491_4, p491_5, p491_6, p491_7, p491_8, p491_9⟩ := q491
  have N491 := Fr.app N482 N491q
  have O496 := Old0.keep O490 K491q all0
  have K496 := Keep.trans K490 K491q all0
  have C495 := CHr.trans C489 (CHr.keep K491q sf0 C489.1)
  have hk := Nat.le_trans hk K491q.1
  have z_ob_491 : h0.size ≤ ob_491 := Nat.le_trans K490.1 p491_0
  have g_ob_491 : Z.heap.size ≤ ob_491 := Nat.le_trans O490.1 p491_0
  have ne_ob_474_ob_491 : ob_474 ≠ ob_491 := Nat.ne_of_lt (Nat.lt_of_lt_of_le f492.lt p491_0)
  have ne_ar_474_ob_491 : ar_474 ≠ ob_491 := Nat.ne_of_lt (Nat.lt_of_lt_of_le f493.lt p491_0)
  have ne_sb_479_ob_491 : sb_479 ≠ ob_491 := Nat.ne_of_lt (Nat.lt_of_lt_of_le f494.lt p491_0)
  have z_ar_491 : h0.size ≤ ar_491 := Nat.le_trans K490.1 p491_1
  have g_ar_491 : Z.heap.size ≤ ar_491 := Nat.le_trans O490.1 p491_1
  have ne_ob_474_ar_491 : ob_474 ≠ ar_491 := Nat.ne_of_lt (Nat.lt_of_lt_of_le f492.lt p491_1)
  have ne_ar_474_ar_491 : ar_474 ≠ ar_491 := Nat.ne_of_lt (Nat.lt_of_lt_of_le f493.lt p491_1)
  have ne_sb_479_ar_491 : sb_479 ≠ ar_491 := Nat.ne_of_lt (Nat.lt_of_lt_of_le f494.lt p491_1)
  refine GoS.of (T' := T491) (f' := (mkF m 35 #[.val (.int p0), .val (.ref ob_474), .unset, .unset, .unset, .unset] [(.ref ob_491)])) (fun _ k => st491 _ k) ?_
  refine GoS.of (T' := T491) (f' := (mkF m 36 #[.val (.int p0), .val (.ref ob_474), .val (.ref ob_491), .unset, .unset, .unset] [])) (fun _ k => XS.astoreN X491.here hx rfl (hb hby at_35) rfl rfl (l' := #[.val (.int p0), .val (.ref ob_474), .val (.ref ob_491), .unset, .unset, .unset]) rfl k) ?_
  refine GoS.of (T' := T491) (f' := (mkF m 37 #[.val (.int p0), .val (.ref ob_474), .val (.ref ob_491), .unset, .unset, .unset] [(.ref ob_491)])) (fun _ k => XS.aloadN X491.here hx rfl (hb hby at_36) rfl rfl k) ?_
  obtain ⟨T497, v497, L497, X497, q497, st497⟩ := callIf X491 hx hZ (xi := (⟨"java/util/List", "size", "()I"⟩ : MethodName)) (y := (⟨"java/util/ArrayList", "size", "()I"⟩ : MethodName)) hown (hw _ (List.mem_of_getElem? (i := 85) rfl)) (hw _ (List.mem_of_getElem? (i := 86) rfl)) (mvT hZ (hw _ (List.mem_of_getElem? (i := 87) rfl))) (hw _ (List.mem_of_getElem? (i := 88) rfl)) (hw _ (List.mem_of_getElem? (i := 89) rfl)) (hw _ (List.mem_of_getElem? (i := 90) rfl)) (hw _ (List.mem_of_getElem? (i := 91) rfl)) (hw _ (List.mem_of_getElem? (i := 57) rfl)) (hw _ (List.mem_of_getElem? (i := 92) rfl)) (hw _ (List.mem_of_getElem? (i := 6) rfl)) (by decide) (rm_size3 hw G ob_491  T491.heap O496 p491_4) rfl (W := 0) (by decide) (by decide) (by decide) (by decide) p491_3 (g := (mkF m 37 #[.val (.int p0), .val (.ref ob_474), .val (.ref ob_491), .unset, .unset, .unset] [(.ref ob_491)])) rfl (by rw [hml]; rfl) (argsL := []) (rest := []) (lenOf pd___I rfl) rfl rfl (by show 2 * 0 + _ ≤ _; exact Nat.le_of_eq rfl) (hb hby at_37)
  obtain ⟨rfl, e497, rfl⟩ := q497
  have N497 := Fr.app N491 (Fr.nil _)
  refine GoS.of (T' := T497) (f' := (mkF m 42 #[.val (.int p0), .val (.ref ob_474), .val (.ref ob_491), .unset, .unset, .unset] [(.int (3 : Int32))])) (fun _ k => st497 _ k) ?_
  refine GoS.of (T' := T497) (f' := (mkF m 43 #[.val (.int p0), .val (.ref ob_474), .val (.ref ob_491), .unset, .unset, .unset] [(.int (3 : Int32)), (.int (3 : Int32))])) (fun _ k => XS.iconst X497.here hx rfl (hb hby at_42) k) ?_
  refine GoS.of (T' := T497) (f' := (mkF m 48 #[.val (.int p0), .val (.ref ob_474), .val (.ref ob_491), .unset, .unset, .unset] [])) (fun _ k => XS.icmpYes X497.here hx rfl (pc0 := 43) (pc' := 48) rfl (hb hby at_43) rfl (teq (by decide : (3 : Int32) = (3 : Int32))).1 (by decide) (by decide) k) ?_
  refine GoS.of (T' := T497) (f' := (mkF m 49 #[.val (.int p0), .val (.ref ob_474), .val (.ref ob_491), .unset, .unset, .unset] [(.ref ob_491)])) (fun _ k => XS.aloadN X497.here hx rfl (hb hby at_48) rfl rfl k) ?_
  refine GoS.of (T' := T497) (f' := (mkF m 50 #[.val (.int p0), .val (.ref ob_474), .val (.ref ob_491), .unset, .unset, .unset] [(.int (0 : Int32)), (.ref ob_491)])) (fun _ k => XS.iconst X497.here hx rfl (hb hby at_49) k) ?_
  obtain ⟨T499, v499, L499, X499, q499, st499⟩ := callIf X497 hx hZ (xi := (⟨"java/util/List", "get", "(I)Ljava/lang/Object;"⟩ : MethodName)) (y := (⟨"java/util/ArrayList", "get", "(I)Ljava/lang/Object;"⟩ : MethodName)) hown (hw _ (List.mem_of_getElem? (i := 118) rfl)) (hw _ (List.mem_of_getElem? (i := 119) rfl)) (mvT hZ (hw _ (List.mem_of_getElem? (i := 120) rfl))) (hw _ (List.mem_of_getElem? (i := 121) rfl)) (hw _ (List.mem_of_getElem? (i := 122) rfl)) (hw _ (List.mem_of_getElem? (i := 123) rfl)) (hw _ (List.mem_of_getElem? (i := 124) rfl)) (hw _ (List.mem_of_getElem? (i := 57) rfl)) (hw _ (List.mem_of_getElem? (i := 125) rfl)) (hw _ (List.mem_of_getElem? (i := 6) rfl)) (by decide) (rm_get0 hw G ob_491 ar_491 kr_491 s_HITS_name s_RESULTS_name s_VALIDATE_name T491.heap O496 p491_3 p491_4 p491_5 p491_7) e497 (W := 0) (by decide) (by decide) (by decide) (by decide) p491_3 (g := (mkF m 50 #[.val (.int p0), .val (.ref ob_474), .val (.ref ob_491), .unset, .unset, .unset] [(.int (0 : Int32)), (.ref ob_491)])) rfl (by rw [hml]; rfl) (argsL := [(.int (0 : Int32))]) (rest := []) (lenOf pd__I_Ljava_lang_Object_ rfl) rfl rfl (by show 2 * 0 + _ ≤ _; exact Nat.le_of_eq rfl) (hb hby at_50)
  obtain ⟨rfl, e499, rfl⟩ := q499
  have N499 := Fr.app N497 (Fr.nil _)
  refine GoS.of (T' := T499) (f' := (mkF m 55 #[.val (.int p0), .val (.ref ob_474), .val (.ref ob_491), .unset, .unset, .unset] [(.ref s_HITS_name)])) (fun _ k => st499 _ k) ?_
  obtain ⟨T500, X500, e500, st500⟩ := castY X499 hx hZ hown (hw _ (List.mem_of_getElem? (i := 139) rfl)) e499 (Ins.self (Exa.ext O496 E_s_HITS_name)) (g := (mkF m 55 #[.val (.int p0), .val (.ref ob_474), .val (.ref ob_491), .unset, .unset, .unset] [(.ref s_HITS_name)])) rfl rfl (hb hby at_55)
  refine GoS.of (T' := T500) (f' := (mkF m 58 #[.val (.int p0), .val (.ref ob_474), .val (.ref ob_491), .unset, .unset, .unset] [(.ref s_HITS_name)])) (fun _ k => st500 _ k) ?_
  refine GoS.of (T' := T500) (f' := (mkF m 59 #[.val (.int p0), .val (.ref ob_474), .val (.ref ob_491), .val (.ref s_HITS_name), .unset, .unset] [])) (fun _ k => XS.astoreN X500.here hx rfl (hb hby at_58) rfl rfl (l' := #[.val (.int p0), .val (.ref ob_474), .val (.ref ob_491), .val (.ref s_HITS_name), .unset, .unset]) rfl k) ?_
  refine GoS.of (T' := T500) (f' := (mkF m 60 #[.val (.int p0), .val (.ref ob_474), .val (.ref ob_491), .val (.ref s_HITS_name), .unset, .unset] [(.ref ob_491)])) (fun _ k => XS.aloadN X500.here hx rfl (hb hby at_59) rfl rfl k) ?_
  refine GoS.of (T' := T500) (f' := (mkF m 61 #[.val (.int p0), .val (.ref ob_474), .val (.ref ob_491), .val (.ref s_HITS_name), .unset, .unset] [(.int (1 : Int32)), (.ref ob_491)])) (fun _ k => XS.iconst X500.here hx rfl (hb hby at_60) k) ?_
  obtain ⟨T501, v501, L501, X501, q501, st501⟩ := callIf X500 hx hZ (xi := (⟨"java/util/List", "get", "(I)Ljava/lang/Object;"⟩ : MethodName)) (y := (⟨"java/util/ArrayList", "get", "(I)Ljava/lang/Object;"⟩ : MethodName)) hown (hw _ (List.mem_of_getElem? (i := 118) rfl)) (hw _ (List.mem_of_getElem? (i := 119) rfl)) (mvT hZ (hw _ (List.mem_of_getElem? (i := 120) rfl))) (hw _ (List.mem_of_getElem? (i := 121) rfl)) (hw _ (List.mem_of_getElem? (i := 122) rfl)) (hw _ (List.mem_of_getElem? (i := 123) rfl)) (hw _ (List.mem_of_getElem? (i := 124) rfl)) (hw _ (List.mem_of_getElem? (i := 57) rfl)) (hw _ (List.mem_of_getElem? (i := 125) rfl)) (hw _ (List.mem_of_getElem? (i := 6) rfl)) (by decide) (rm_get1 hw G ob_491 ar_491 kr_491 s_HITS_name s_RESULTS_name s_VALIDATE_name T491.heap O496 p491_3 p491_4 p491_5 p491_7) e500 (W := 0) (by decide) (by decide) (by decide) (by decide) p491_3 (g := (mkF m 61 #[.val (.int p0), .val (.ref ob_474), .val (.ref ob_491), .val (.ref s_HITS_name), .unset, .unset] [(.int (1 : Int32)), (.ref ob_491)])) rfl (by rw [hml]; rfl) (argsL := [(.int (1 : Int32))]) (rest := []) (lenOf pd__I_Ljava_lang_Object_ rfl) rfl rfl (by show 2 * 0 + _ ≤ _; exact Nat.le_of_eq rfl) (hb hby at_61)
  obtain ⟨rfl, e501, rfl⟩ := q501
  have N501 := Fr.app N499 (Fr.nil _)
  refine GoS.of (T' := T501) (f' := (mkF m 66 #[.val (.int p0), .val (.ref ob_474), .val (.ref ob_491), .val (.ref s_HITS_name), .unset, .unset] [(.ref s_RESULTS_name)])) (fun _ k => st501 _ k) ?_
  obtain ⟨T502, X502, e502, st502⟩ := castY X501 hx hZ hown (hw _ (List.mem_of_getElem? (i := 139) rfl)) e501 (Ins.self (Exa.ext O496 E_s_RESULTS_name)) (g := (mkF m 66 #[.val (.int p0), .val (.ref ob_474), .val (.ref ob_491), .val (.ref s_HITS_name), .unset, .unset] [(.ref s_RESULTS_name)])) rfl rfl (hb hby at_66)
  refine GoS.of (T' := T502) (f' := (mkF m 69 #[.val (.int p0), .val (.ref ob_474), .val (.ref ob_491), .val (.ref s_HITS_name), .unset, .unset] [(.ref s_RESULTS_name)])) (fun _ k => st502 _ k) ?_
  refine GoS.of (T' := T502) (f' := (mkF m 71 #[.val (.int p0), .val (.ref ob_474), .val (.ref ob_491), .val (.ref s_HITS_name), .val (.ref s_RESULTS_name), .unset] [])) (fun _ k => XS.astore X502.here hx rfl (hb hby at_69) rfl rfl (l' := #[.val (.int p0), .val (.ref ob_474), .val (.ref ob_491), .val (.ref s_HITS_name), .val (.ref s_RESULTS_name), .unset]) rfl k) ?_
  refine GoS.of (T' := T502) (f' := (mkF m 72 #[.val (.int p0), .val (.ref ob_474), .val (.ref ob_491), .val (.ref s_HITS_name), .val (.ref s_RESULTS_name), .unset] [(.ref ob_491)])) (fun _ k => XS.aloadN X502.here hx rfl (hb hby at_71) rfl rfl k) ?_
  refine GoS.of (T' := T502) (f' := (mkF m 73 #[.val (.int p0), .val (.ref ob_474), .val (.ref ob_491), .val (.ref s_HITS_name), .val (.ref s_RESULTS_name), .unset] [(.int (2 : Int32)), (.ref ob_491)])) (fun _ k => XS.iconst X502.here hx rfl (hb hby at_72) k) ?_
  obtain ⟨T503, v503, L503, X503, q503, st503⟩ := callIf X502 hx hZ (xi := (⟨"java/util/List", "get", "(I)Ljava/lang/Object;"⟩ : MethodName)) (y := (⟨"java/util/ArrayList", "get", "(I)Ljava/lang/Object;"⟩ : MethodName)) hown (hw _ (List.mem_of_getElem? (i := 118) rfl)) (hw _ (List.mem_of_getElem? (i := 119) rfl)) (mvT hZ (hw _ (List.mem_of_getElem? (i := 120) rfl))) (hw _ (List.mem_of_getElem? (i := 121) rfl)) (hw _ (List.mem_of_getElem? (i := 122) rfl)) (hw _ (List.mem_of_getElem? (i := 123) rfl)) (hw _ (List.mem_of_getElem? (i := 124) rfl)) (hw _ (List.mem_of_getElem? (i := 57) rfl)) (hw _ (List.mem_of_getElem? (i := 125) rfl)) (hw _ (List.mem_of_getElem? (i := 6) rfl)) (by decide) (rm_get2 hw G ob_491 ar_491 kr_491 s_HITS_name s_RESULTS_name s_VALIDATE_name T491.heap O496 p491_3 p491_4 p491_5 p491_7) e502 (W := 0) (by decide) (by decide) (by decide) (by decide) p491_3 (g := (mkF m 73 #[.val (.int p0), .val (.ref ob_474), .val (.ref ob_491), .val (.ref s_HITS_name), .val (.ref s_RESULTS_name), .unset] [(.int (2 : Int32)), (.ref ob_491)])) rfl (by rw [hml]; rfl) (argsL := [(.int (2 : Int32))]) (rest := []) (lenOf pd__I_Ljava_lang_Object_ rfl) rfl rfl (by show 2 * 0 + _ ≤ _; exact Nat.le_of_eq rfl) (hb hby at_73)
  obtain ⟨rfl, e503, rfl⟩ := q503
  have N503 := Fr.app N501 (Fr.nil _)
  refine GoS.of (T' := T503) (f' := (mkF m 78 #[.val (.int p0), .val (.ref ob_474), .val (.ref ob_491), .val (.ref s_HITS_name), .val (.ref s_RESULTS_name), .unset] [(.ref s_VALIDATE_name)])) (fun _ k => st503 _ k) ?_
  obtain ⟨T504, X504, e504, st504⟩ := castY X503 hx hZ hown (hw _ (List.mem_of_getElem? (i := 139) rfl)) e503 (Ins.self (Exa.ext O496 E_s_VALIDATE_name)) (g := (mkF m 78 #[.val (.int p0), .val (.ref ob_474), .val (.ref ob_491), .val (.ref s_HITS_name), .val (.ref s_RESULTS_name), .unset] [(.ref s_VALIDATE_name)])) rfl rfl (hb hby at_78)
  refine GoS.of (T' := T504) (f' := (mkF m 81 #[.val (.int p0), .val (.ref ob_474), .val (.ref ob_491), .val (.ref s_HITS_name), .val (.ref s_RESULTS_name), .unset] [(.ref s_VALIDATE_name)])) (fun _ k => st504 _ k) ?_
  refine GoS.of (T' := T504) (f' := (mkF m 83 #[.val (.int p0), .val (.ref ob_474), .val (.ref ob_491), .val (.ref s_HITS_name), .val (.ref s_RESULTS_name), .val (.ref s_VALIDATE_name)] [])) (fun _ k => XS.astore X504.here hx rfl (hb hby at_81) rfl rfl (l' := #[.val (.int p0), .val (.ref ob_474), .val (.ref ob_491), .val (.ref s_HITS_name), .val (.ref s_RESULTS_name), .val (.ref s_VALIDATE_name)]) rfl k) ?_
  refine GoS.of (T' := T504) (f' := (mkF m 84 #[.val (.int p0), .val (.ref ob_474), .val (.ref ob_491), .val (.ref s_HITS_name), .val (.ref s_RESULTS_name), .val (.ref s_VALIDATE_name)] [(.ref s_HITS_name)])) (fun _ k => XS.aloadN X504.here hx rfl (hb hby at_83) rfl rfl k) ?_
  have f506 : Exa Z T491.heap ob_474 "java/util/ArrayList" := (Exa.keep f492 K491q)
  have f507 : Exa Z T491.heap ar_474 "[Ljava/lang/Object;" := (Exa.keep f493 K491q)
  have sf508 : Safe Z own_EL s.vm T491.heap sb_479 := (Safe.keep K491q sf0 C489.1 (Safe.keep K482q (sfS (Safe.exa hZ.alike f483 (by decide) (by decide)) (sfS (Safe.exa hZ.alike f488 (by decide) (by decide)) sf0)) C480.1 (Safe.keep K479q sf0 C475.1 (Safe.new p479_0))))
  have f509 : Exa Z T491.heap sb_479 "java/lang/String" := (Exa.keep f494 K491q)
  have sp505_ob_474 : Safe Z own_EL s.vm T491.heap ob_474 := (Safe.exa hZ.alike f506 (by decide) (by decide))
  have sp505_ar_474 : Safe Z own_EL s.vm T491.heap ar_474 := (Safe.exa hZ.alike f507 (by decide) (by decide))
  have sp505_sb_479 : Safe Z own_EL s.vm T491.heap sb_479 := sf508
  have sp505_ob_491 : Safe Z own_EL s.vm T491.heap ob_491 := (Safe.exa hZ.alike p491_3 (by decide) (by decide))
  have sp505_ar_491 : Safe Z own_EL s.vm T491.heap ar_491 := (Safe.exa hZ.alike p491_8 (by decide) (by decide))
  obtain ⟨c505, T505, h505, k1505, v505, kc505, X505, e505, E505, hS, hk505, hZ, hown, A505, Fc505, Fv505, V505, -, -, Cq505, -, sn505, st505⟩ := ldcCH X504 hx hZ hown (hw _ (List.mem_of_getElem? (i := 140) rfl)) (own_wS hw) e504 hS hk hEL (by decide) C495.1 (vs := [(.int (104 : Int32)), (.int (105 : Int32)), (.int (116 : Int32)), (.int (115 : Int32))]) (z := (4 : Int32)) ⟨by decide +kernel, by decide +kernel⟩ (by decide) rfl (g := (mkF m 84 #[.val (.int p0), .val (.ref ob_474), .val (.ref ob_491), .val (.ref s_HITS_name), .val (.ref s_RESULTS_name), .val (.ref s_VALIDATE_name)] [(.ref s_HITS_name)])) rfl (hb hby at_84) (n := 16) (by decide +kernel) (by decide) (by decide) (by decide)
  have O505 := Old0.ext O496 E505
  have K505 := Keep.ext K496 E505
  have C505 := CHr.trans C495 Cq505
  have hk := hk505
  have sf505_ob_474 : Safe Z own_EL T505.vm h505 ob_474 := CHr.safe Cq505 f506.lt sp505_ob_474
  have ne_ob_474_c505 : ob_474 ≠ c505 := (sn505 ob_474 sf505_ob_474).1
  have ne_ob_474_v505 : ob_474 ≠ v505 := (sn505 ob_474 sf505_ob_474).2
  have sf505_ar_474 : Safe Z own_EL T505.vm h505 ar_474 := CHr.safe Cq505 f507.lt sp505_ar_474
  have ne_ar_474_c505 : ar_474 ≠ c505 := (sn505 ar_474 sf505_ar_474).1
  have ne_ar_474_v505 : ar_474 ≠ v505 := (sn505 ar_474 sf505_ar_474).2
  have sf505_sb_479 : Safe Z own_EL T505.vm h505 sb_479 := CHr.safe Cq505 f509.lt sp505_sb_479
  have ne_sb_479_c505 : sb_479 ≠ c505 := (sn505 sb_479 sf505_sb_479).1
  have ne_sb_479_v505 : sb_479 ≠ v505 := (sn505 sb_479 sf505_sb_479).2
  have sf505_ob_491 : Safe Z own_EL T505.vm h505 ob_491 := CHr.safe Cq505 p491_3.lt sp505_ob_491
  have ne_ob_491_c505 : ob_491 ≠ c505 := (sn505 ob_491 sf505_ob_491).1
  have ne_ob_491_v505 : ob_491 ≠ v505 := (sn505 ob_491 sf505_ob_491).2
  have sf505_ar_491 : Safe Z own_EL T505.vm h505 ar_491 := CHr.safe Cq505 p491_8.lt sp505_ar_491
  have ne_ar_491_c505 : ar_491 ≠ c505 := (sn505 ar_491 sf505_ar_491).1
  have ne_ar_491_v505 : ar_491 ≠ v505 := (sn505 ar_491 sf505_ar_491).2
  refine GoS.of (T' := T505) (f' := (mkF m 86 #[.val (.int p0), .val (.ref ob_474), .val (.ref ob_491), .val (.ref s_HITS_name), .val (.ref s_RESULTS_name), .val (.ref s_VALIDATE_name)] [(.ref c505), (.ref s_HITS_name)])) (fun _ k => st505 _ k) ?_
  obtain ⟨T510, v510, L510, X510, q510, st510⟩ := callVi X505 hx hZ (y := (⟨"java/lang/String", "equals", "(Ljava/lang/Object;)Z"⟩ : MethodName)) (z := (⟨"java/lang/String", "equals", "(Ljava/lang/Object;)Z"⟩ : MethodName)) hown (hw _ (List.mem_of_getElem? (i := 143) rfl)) (hw _ (List.mem_of_getElem? (i := 144) rfl)) (notFace_of_selects (args := #[]) (mvT hZ (hw _ (List.mem_of_getElem? (i := 146) rfl)))) (hw _ (List.mem_of_getElem? (i := 146) rfl)) (hw _ (List.mem_of_getElem? (i := 145) rfl)) (hw _ (List.mem_of_getElem? (i := 147) rfl)) (hw _ (List.mem_of_getElem? (i := 95) rfl)) (by decide) (rm_eqc0 hw G c505 v505 kc505 h505 O505 A505 Fc505 Fv505 V505) e505 (W := 0) (by decide) (by decide) (by decide) (by decide) (Exa.ext O505 E_s_HITS_name) (g := (mkF m 86 #[.val (.int p0), .val (.ref ob_474), .val (.ref ob_491), .val (.ref s_HITS_name), .val (.ref s_RESULTS_name), .val (.ref s_VALIDATE_name)] [(.ref c505), (.ref s_HITS_name)])) rfl (by rw [hml]; rfl) (argsL := [(.ref c505)]) (rest := []) (lenOf pd__Ljava_lang_Object__Z rfl) rfl rfl (by show 2 * 0 + _ ≤ _; exact Nat.le_of_eq rfl) (hb hby at_86)
  obtain ⟨rfl, e510, rfl⟩ := q510
  have N510 := Fr.app N503 (Fr.nil _)
  refine GoS.of (T' := T510) (f' := (mkF m 89 #[.val (.int p0), .val (.ref ob_474), .val (.ref ob_491), .val (.ref s_HITS_name), .val (.ref s_RESULTS_name), .val (.ref s_VALIDATE_name)] [(.int (1 : Int32))])) (fun _ k => st510 _ k) ?_
  refine GoS.of (T' := T510) (f' := (mkF m 92 #[.val (.int p0), .val (.ref ob_474), .val (.ref ob_491), .val (.ref s_HITS_name), .val (.ref s_RESULTS_name), .val (.ref s_VALIDATE_name)] [])) (fun _ k => XS.ifNo X510.here hx rfl (hb hby at_89) rfl ((if0 _ _).trans (feq (by decide : ¬ ((1 : Int32) = (0 : Int32)))).1) k) ?_
  refine GoS.of (T' := T510) (f' := (mkF m 94 #[.val (.int p0), .val (.ref ob_474), .val (.ref ob_491), .val (.ref s_HITS_name), .val (.ref s_RESULTS_name), .val (.ref s_VALIDATE_name)] [(.ref s_RESULTS_name)])) (fun _ k => XS.aload X510.here hx rfl (hb hby at_92) rfl rfl k) ?_
  have f513 : Exa Z h505 ob_474 "java/util/ArrayList" := (Exa.ext E505 f506)
  have f514 : Exa Z h505 ar_474 "[Ljava/lang/Object;" := (Exa.ext E505 f507)
  have f515 : Exa Z h505 sb_479 "java/lang/String" := (Exa.ext E505 f509)
  have f516 : Exa Z h505 ob_491 "java/util/ArrayList" := (Exa.ext E505 p491_3)
  have f517 : Exa Z h505 ar_491 "[Ljava/lang/Object;" := (Exa.ext E505 p491_8)
  have sp512_ob_474 : Safe Z own_EL T505.vm h505 ob_474 := (Safe.exa hZ.alike f513 (by decide) (by decide))
  have sp512_ar_474 : Safe Z own_EL T505.vm h505 ar_474 := (Safe.exa hZ.alike f514 (by decide) (by decide))
  have sp512_sb_479 : Safe Z own_EL T505.vm h505 sb_479 := sf505_sb_479
  have sp512_ob_491 : Safe Z own_EL T505.vm h505 ob_491 := (Safe.exa hZ.alike f516 (by decide) (by decide))
  have sp512_ar_491 : Safe Z own_EL T505.vm h505 ar_491 := (Safe.exa hZ.alike f517 (by decide) (by decide))
  obtain ⟨c512, T512, h512, k1512, v512, kc512, X512, e512, E512, hS, hk512, hZ, hown, A512, Fc512, Fv512, V512, -, -, Cq512, -, sn512, st512⟩ := ldcCH X510 hx hZ hown (hw _ (List.mem_of_getElem? (i := 151) rfl)) (own_wS hw) e510 hS hk hEL (by decide) C505.1 (vs := [(.int (114 : Int32)), (.int (101 : Int32)), (.int (115 : Int32)), (.int (117 : Int32)), (.int (108 : Int32)), (.int (116 : Int32)), (.int (115 : Int32))]) (z := (7 : Int32)) ⟨by decide +kernel, by decide +kernel⟩ (by decide) rfl (g := (mkF m 94 #[.val (.int p0), .val (.ref ob_474), .val (.ref ob_491), .val (.ref s_HITS_name), .val (.ref s_RESULTS_name), .val (.ref s_VALIDATE_name)] [(.ref s_RESULTS_name)])) rfl (hb hby at_94) (n := 28) (by decide +kernel) (by decide) (by decide) (by decide)
  have O512 := Old0.ext O505 E512
  have K512 := Keep.ext K505 E512
  have C512 := CHr.trans C505 Cq512
  have hk := hk512
  have sf512_ob_474 : Safe Z own_EL T512.vm h512 ob_474 := CHr.safe Cq512 f513.lt sp512_ob_474
  have ne_ob_474_c512 : ob_474 ≠ c512 := (sn512 ob_474 sf512_ob_474).1
  have ne_ob_474_v512 : ob_474 ≠ v512 := (sn512 ob_474 sf512_ob_474).2
  have sf512_ar_474 : Safe Z own_EL T512.vm h512 ar_474 := CHr.safe Cq512 f514.lt sp512_ar_474
  have ne_ar_474_c512 : ar_474 ≠ c512 := (sn512 ar_474 sf512_ar_474).1
  have ne_ar_474_v512 : ar_474 ≠ v512 := (sn512 ar_474 sf512_ar_474).2
  have sf512_sb_479 : Safe Z own_EL T512.vm h512 sb_479 := CHr.safe Cq512 f515.lt sp512_sb_479
  have ne_sb_479_c512 : sb_479 ≠ c512 := (sn512 sb_479 sf512_sb_479).1
  have ne_sb_479_v512 : sb_479 ≠ v512 := (sn512 sb_479 sf512_sb_479).2
  have sf512_ob_491 : Safe Z own_EL T512.vm h512 ob_491 := CHr.safe Cq512 f516.lt sp512_ob_491
  have ne_ob_491_c512 : ob_491 ≠ c512 := (sn512 ob_491 sf512_ob_491).1
  have ne_ob_491_v512 : ob_491 ≠ v512 := (sn512 ob_491 sf512_ob_491).2
  have sf512_ar_491 : Safe Z own_EL T512.vm h512 ar_491 := CHr.safe Cq512 f517.lt sp512_ar_491
  have ne_ar_491_c512 : ar_491 ≠ c512 := (sn512 ar_491 sf512_ar_491).1
  have ne_ar_491_v512 : ar_491 ≠ v512 := (sn512 ar_491 sf512_ar_491).2
  refine GoS.of (T' := T512) (f' := (mkF m 96 #[.val (.int p0), .val (.ref ob_474), .val (.ref ob_491), .val (.ref s_HITS_name), .val (.ref s_RESULTS_name), .val (.ref s_VALIDATE_name)] [(.ref c512), (.ref s_RESULTS_name)])) (fun _ k => st512 _ k) ?_
  obtain ⟨T518, v518, L518, X518, q518, st518⟩ := callVi X512 hx hZ (y := (⟨"java/lang/String", "equals", "(Ljava/lang/Object;)Z"⟩ : MethodName)) (z := (⟨"java/lang/String", "equals", "(Ljava/lang/Object;)Z"⟩ : MethodName)) hown (hw _ (List.mem_of_getElem? (i := 143) rfl)) (hw _ (List.mem_of_getElem? (i := 144) rfl)) (notFace_of_selects (args := #[]) (mvT hZ (hw _ (List.mem_of_getElem? (i := 146) rfl)))) (hw _ (List.mem_of_getElem? (i := 146) rfl)) (hw _ (List.mem_of_getElem? (i := 145) rfl)) (hw _ (List.mem_of_getElem? (i := 147) rfl)) (hw _ (List.mem_of_getElem? (i := 95) rfl)) (by decide) (rm_eqc1 hw G c512 v512 kc512 h512 O512 A512 Fc512 Fv512 V512) e512 (W := 0) (by decide) (by decide) (by decide) (by decide) (Exa.ext O512 E_s_RESULTS_name) (g := (mkF m 96 #[.val (.int p0), .val (.ref ob_474), .val (.ref ob_491), .val (.ref s_HITS_name), .val (.ref s_RESULTS_name), .val (.ref s_VALIDATE_name)] [(.ref c512), (.ref s_RESULTS_name)])) rfl (by rw [hml]; rfl) (argsL := [(.ref c512)]) (rest := []) (lenOf pd__Ljava_lang_Object__Z rfl) rfl rfl (by show 2 * 0 + _ ≤ _; exact Nat.le_of_eq rfl) (hb hby at_96)
  obtain ⟨rfl, e518, rfl⟩ := q518
  have N518 := Fr.app N510 (Fr.nil _)
  refine GoS.of (T' := T518) (f' := (mkF m 99 #[.val (.int p0), .val (.ref ob_474), .val (.ref ob_491), .val (.ref s_HITS_name), .val (.ref s_RESULTS_name), .val (.ref s_VALIDATE_name)] [(.int (1 : Int32))])) (fun _ k => st518 _ k) ?_
  refine GoS.of (T' := T518) (f' := (mkF m 102 #[.val (.int p0), .val (.ref ob_474), .val (.ref ob_491), .val (.ref s_HITS_name), .val (.ref s_RESULTS_name), .val (.ref s_VALIDATE_name)] [])) (fun _ k => XS.ifNo X518.here hx rfl (hb hby at_99) rfl ((if0 _ _).trans (feq (by decide : ¬ ((1 : Int32) = (0 : Int32)))).1) k) ?_
  refine GoS.of (T' := T518) (f' := (mkF m 104 #[.val (.int p0), .val (.ref ob_474), .val (.ref ob_491), .val (.ref s_HITS_name), .val (.ref s_RESULTS_name), .val (.ref s_VALIDATE_name)] [(.ref s_VALIDATE_name)])) (fun _ k => XS.aload X518.here hx rfl (hb hby at_102) rfl rfl k) ?_
  have f521 : Exa Z h512 ob_474 "java/util/ArrayList" := (Exa.ext E512 f513)
  have f522 : Exa Z h512 ar_474 "[Ljava/lang/Object;" := (Exa.ext E512 f514)
  have f523 : Exa Z h512 sb_479 "java/lang/String" := (Exa.ext E512 f515)
  have f524 : Exa Z h512 ob_491 "java/util/ArrayList" := (Exa.ext E512 f516)
  have f525 : Exa Z h512 ar_491 "[Ljava/lang/Object;" := (Exa.ext E512 f517)
  have sp520_ob_474 : Safe Z own_EL T512.vm h512 ob_474 := (Safe.exa hZ.alike f521 (by decide) (by decide))
  have sp520_ar_474 : Safe Z own_EL T512.vm h512 ar_474 := (Safe.exa hZ.alike f522 (by decide) (by decide))
  have sp520_sb_479 : Safe Z own_EL T512.vm h512 sb_479 := sf512_sb_479
  have sp520_ob_491 : Safe Z own_EL T512.vm h512 ob_491 := (Safe.exa hZ.alike f524 (by decide) (by decide))
  have sp520_ar_491 : Safe Z own_EL T512.vm h512 ar_491 := (Safe.exa hZ.alike f525 (by decide) (by decide))
  obtain ⟨c520, T520, h520, k1520, v520, kc520, X520, e520, E520, hS, hk520, hZ, hown, A520, Fc520, Fv520, V520, -, -, Cq520, -, sn520, st520⟩ := ldcCH X518 hx hZ hown (hw _ (List.mem_of_getElem? (i := 152) rfl)) (own_wS hw) e518 hS hk hEL (by decide) C512.1 (vs := [(.int (118 : Int32)), (.int (97 : Int32)), (.int (108 : Int32)), (.int (105 : Int32)), (.int (100 : Int32)), (.int (97 : Int32)), (.int (116 : Int32)), (.int (101 : Int32))]) (z := (8 : Int32)) ⟨by decide +kernel, by decide +kernel⟩ (by decide) rfl (g := (mkF m 104 #[.val (.int p0), .val (.ref ob_474), .val (.ref ob_491), .val (.ref s_HITS_name), .val (.ref s_RESULTS_name), .val (.ref s_VALIDATE_name)] [(.ref s_VALIDATE_name)])) rfl (hb hby at_104) (n := 32) (by decide +kernel) (by decide) (by decide) (by decide)
  have O520 := Old0.ext O512 E520
  have K520 := Keep.ext K512 E520
  have C520 := CHr.trans C512 Cq520
  have hk := hk520
  have sf520_ob_474 : Safe Z own_EL T520.vm h520 ob_474 := CHr.safe Cq520 f521.lt sp520_ob_474
  have ne_ob_474_c520 : ob_474 ≠ c520 := (sn520 ob_474 sf520_ob_474).1
  have ne_ob_474_v520 : ob_474 ≠ v520 := (sn520 ob_474 sf520_ob_474).2
  have sf520_ar_474 : Safe Z own_EL T520.vm h520 ar_474 := CHr.safe Cq520 f522.lt sp520_ar_474
  have ne_ar_474_c520 : ar_474 ≠ c520 := (sn520 ar_474 sf520_ar_474).1
  have ne_ar_474_v520 : ar_474 ≠ v520 := (sn520 ar_474 sf520_ar_474).2
  have sf520_sb_479 : Safe Z own_EL T520.vm h520 sb_479 := CHr.safe Cq520 f523.lt sp520_sb_479
  have ne_sb_479_c520 : sb_479 ≠ c520 := (sn520 sb_479 sf520_sb_479).1
  have ne_sb_479_v520 : sb_479 ≠ v520 := (sn520 sb_479 sf520_sb_479).2
  have sf520_ob_491 : Safe Z own_EL T520.vm h520 ob_491 := CHr.safe Cq520 f524.lt sp520_ob_491
  have ne_ob_491_c520 : ob_491 ≠ c520 := (sn520 ob_491 sf520_ob_491).1
  have ne_ob_491_v520 : ob_491 ≠ v520 := (sn520 ob_491 sf520_ob_491).2
  have sf520_ar_491 : Safe Z own_EL T520.vm h520 ar_491 := CHr.safe Cq520 f525.lt sp520_ar_491
  have ne_ar_491_c520 : ar_491 ≠ c520 := (sn520 ar_491 sf520_ar_491).1
  have ne_ar_491_v520 : ar_491 ≠ v520 := (sn520 ar_491 sf520_ar_491).2
  refine GoS.of (T' := T520) (f' := (mkF m 106 #[.val (.int p0), .val (.ref ob_474), .val (.ref ob_491), .val (.ref s_HITS_name), .val (.ref s_RESULTS_name), .val (.ref s_VALIDATE_name)] [(.ref c520), (.ref s_VALIDATE_name)])) (fun _ k => st520 _ k) ?_
  obtain ⟨T526, v526, L526, X526, q526, st526⟩ := callVi X520 hx hZ (y := (⟨"java/lang/String", "equals", "(Ljava/lang/Object;)Z"⟩ : MethodName)) (z := (⟨"java/lang/String", "equals", "(Ljava/lang/Object;)Z"⟩ : MethodName)) hown (hw _ (List.mem_of_getElem? (i := 143) rfl)) (hw _ (List.mem_of_getElem? (i := 144) rfl)) (notFace_of_selects (args := #[]) (mvT hZ (hw _ (List.mem_of_getElem? (i := 146) rfl)))) (hw _ (List.mem_of_getElem? (i := 146) rfl)) (hw _ (List.mem_of_getElem? (i := 145) rfl)) (hw _ (List.mem_of_getElem? (i := 147) rfl)) (hw _ (List.mem_of_getElem? (i := 95) rfl)) (by decide) (rm_eqc2 hw G c520 v520 kc520 h520 O520 A520 Fc520 Fv520 V520) e520 (W := 0) (by decide) (by decide) (by decide) (by decide) (Exa.ext O520 E_s_VALIDATE_name) (g := (mkF m 106 #[.val (.int p0), .val (.ref ob_474), .val (.ref ob_491), .val (.ref s_HITS_name), .val (.ref s_RESULTS_name), .val (.ref s_VALIDATE_name)] [(.ref c520), (.ref s_VALIDATE_name)])) rfl (by rw [hml]; rfl) (argsL := [(.ref c520)]) (rest := []) (lenOf pd__Ljava_lang_Object__Z rfl) rfl rfl (by show 2 * 0 + _ ≤ _; exact Nat.le_of_eq rfl) (hb hby at_106)
  obtain ⟨rfl, e526, rfl⟩ := q526
  have N526 := Fr.app N518 (Fr.nil _)
  refine GoS.of (T' := T526) (f' := (mkF m 109 #[.val (.int p0), .val (.ref ob_474), .val (.ref ob_491), .val (.ref s_HITS_name), .val (.ref s_RESULTS_name), .val (.ref s_VALIDATE_name)] [(.int (1 : Int32))])) (fun _ k => st526 _ k) ?_
  refine GoS.of (T' := T526) (f' := (mkF m 114 #[.val (.int p0), .val (.ref ob_474), .val (.ref ob_491), .val (.ref s_HITS_name), .val (.ref s_RESULTS_name), .val (.ref s_VALIDATE_name)] [])) (fun _ k => XS.ifYes X526.here hx rfl (pc0 := 109) (pc' := 114) rfl (hb hby at_109) rfl ((if0 _ _).trans (feq (by decide : ¬ ((1 : Int32) = (0 : Int32)))).2) (by decide) (by decide) k) ?_
  refine GoS.of (T' := T526) (f' := (mkF m 115 #[.val (.int p0), .val (.ref ob_474), .val (.ref ob_491), .val (.ref s_HITS_name), .val (.ref s_RESULTS_name), .val (.ref s_VALIDATE_name)] [(.ref s_HITS_name)])) (fun _ k => XS.aloadN X526.here hx rfl (hb hby at_114) rfl rfl k) ?_
  obtain ⟨T528, X528, e528, st528⟩ := getS2 X526 hx hZ hown (host := "") (Or.inl (hw _ (List.mem_of_getElem? (i := 153) rfl))) Via.refl e526 (Sta.ext O520 S_HITS) (g := (mkF m 115 #[.val (.int p0), .val (.ref ob_474), .val (.ref ob_491), .val (.ref s_HITS_name), .val (.ref s_RESULTS_name), .val (.ref s_VALIDATE_name)] [(.ref s_HITS_name)])) rfl (hb hby at_115)
  refine GoS.of (T' := T528) (f' := (mkF m 118 #[.val (.int p0), .val (.ref ob_474), .val (.ref ob_491), .val (.ref s_HITS_name), .val (.ref s_RESULTS_name), .val (.ref s_VALIDATE_name)] [(.ref s_HITS), (.ref s_HITS_name)])) (fun _ k => st528 _ k) ?_
  obtain ⟨T529, v529, L529, X529, q529, st529⟩ := callVi X528 hx hZ (y := (⟨"com/example/fair_index/fairindex/csw/ResultType", "getName", "()Ljava/lang/String;"⟩ : MethodName)) (z := (⟨"com/example/fair_index/fairindex/csw/ResultType", "getName", "()Ljava/lang/String;"⟩ : MethodName)) hown (hw _ (List.mem_of_getElem? (i := 154) rfl)) (hw _ (List.mem_of_getElem? (i := 155) rfl)) (notFace_of_selects (args := #[]) (mvT hZ (hw _ (List.mem_of_getElem? (i := 157) rfl)))) (hw _ (List.mem_of_getElem? (i := 157) rfl)) (hw _ (List.mem_of_getElem? (i := 156) rfl)) (hw _ (List.mem_of_getElem? (i := 158) rfl)) (hw _ (List.mem_of_getElem? (i := 2) rfl)) (by decide) (rm_gn0 hw G   h520 O520 ) e528 (W := 1) (by decide) (by decide) (by decide) (by decide) (Exa.ext O520 E_s_HITS) (g := (mkF m 118 #[.val (.int p0), .val (.ref ob_474), .val (.ref ob_491), .val (.ref s_HITS_name), .val (.ref s_RESULTS_name), .val (.ref s_VALIDATE_name)] [(.ref s_HITS), (.ref s_HITS_name)])) rfl (by rw [hml]; rfl) (argsL := []) (rest := [(.ref s_HITS_name)]) (lenOf pd___Ljava_lang_String_ rfl) rfl rfl (by show 2 * 0 + _ ≤ _; exact Nat.le_of_eq rfl) (hb hby at_118)
  obtain ⟨rfl, e529, rfl⟩ := q529
  have N529 := Fr.app N526 (Fr.nil _)
  refine GoS.of (T' := T529) (f' := (mkF m 121 #[.val (.int p0), .val (.ref ob_474), .val (.ref ob_491), .val (.ref s_HITS_name), .val (.ref s_RESULTS_name), .val (.ref s_VALIDATE_name)] [(.ref s_HITS_name), (.ref s_HITS_name)])) (fun _ k => st529 _ k) ?_
  obtain ⟨T530, v530, L530, X530, q530, st530⟩ := callVi X529 hx hZ (y := (⟨"java/lang/String", "equals", "(Ljava/lang/Object;)Z"⟩ : MethodName)) (z := (⟨"java/lang/String", "equals", "(Ljava/lang/Object;)Z"⟩ : MethodName)) hown (hw _ (List.mem_of_getElem? (i := 143) rfl)) (hw _ (List.mem_of_getElem? (i := 144) rfl)) (notFace_of_selects (args := #[]) (mvT hZ (hw _ (List.mem_of_getElem? (i := 146) rfl)))) (hw _ (List.mem_of_getElem? (i := 146) rfl)) (hw _ (List.mem_of_getElem? (i := 145) rfl)) (hw _ (List.mem_of_getElem? (i := 147) rfl)) (hw _ (List.mem_of_getElem? (i := 95) rfl)) (by decide) (rm_eqs0 hw G   h520 O520 ) e529 (W := 0) (by decide) (by decide) (by decide) (by decide) (Exa.ext O520 E_s_HITS_name) (g := (mkF m 121 #[.val (.int p0), .val (.ref ob_474), .val (.ref ob_491), .val (.ref s_HITS_name), .val (.ref s_RESULTS_name), .val (.ref s_VALIDATE_name)] [(.ref s_HITS_name), (.ref s_HITS_name)])) rfl (by rw [hml]; rfl) (argsL := [(.ref s_HITS_name)]) (rest := []) (lenOf pd__Ljava_lang_Object__Z rfl) rfl rfl (by show 2 * 0 + _ ≤ _; exact Nat.le_of_eq rfl) (hb hby at_121)
  obtain ⟨rfl, e530, rfl⟩ := q530
  have N530 := Fr.app N529 (Fr.nil _)
  refine GoS.of (T' := T530) (f' := (mkF m 124 #[.val (.int p0), .val (.ref ob_474), .val (.ref ob_491), .val (.ref s_HITS_name), .val (.ref s_RESULTS_name), .val (.ref s_VALIDATE_name)] [(.int (1 : Int32))])) (fun _ k => st530 _ k) ?_
  refine GoS.of (T' := T530) (f' := (mkF m 127 #[.val (.int p0), .val (.ref ob_474), .val (.ref ob_491), .val (.ref s_HITS_name), .val (.ref s_RESULTS_name), .val (.ref s_VALIDATE_name)] [])) (fun _ k => XS.ifNo X530.here hx rfl (hb hby at_124) rfl ((if0 _ _).trans (feq (by decide : ¬ ((1 : Int32) = (0 : Int32)))).1) k) ?_
  refine GoS.of (T' := T530) (f' := (mkF m 129 #[.val (.int p0), .val (.ref ob_474), .val (.ref ob_491), .val (.ref s_HITS_name), .val (.ref s_RESULTS_name), .val (.ref s_VALIDATE_name)] [(.ref s_RESULTS_name)])) (fun _ k => XS.aload X530.here hx rfl (hb hby at_127) rfl rfl k) ?_
  obtain ⟨T532, X532, e532, st532⟩ := getS2 X530 hx hZ hown (host := "") (Or.inl (hw _ (List.mem_of_getElem? (i := 159) rfl))) Via.refl e530 (Sta.ext O520 S_RESULTS) (g := (mkF m 129 #[.val (.int p0), .val (.ref ob_474), .val (.ref ob_491), .val (.ref s_HITS_name), .val (.ref s_RESULTS_name), .val (.ref s_VALIDATE_name)] [(.ref s_RESULTS_name)])) rfl (hb hby at_129)
  refine GoS.of (T' := T532) (f' := (mkF m 132 #[.val (.int p0), .val (.ref ob_474), .val (.ref ob_491), .val (.ref s_HITS_name), .val (.ref s_RESULTS_name), .val (.ref s_VALIDATE_name)] [(.ref s_RESULTS), (.ref s_RESULTS_name)])) (fun _ k => st532 _ k) ?_
  obtain ⟨T533, v533, L533, X533, q533, st533⟩ := callVi X532 hx hZ (y := (⟨"com/example/fair_index/fairindex/csw/ResultType", "getName", "()Ljava/lang/String;"⟩ : MethodName)) (z := (⟨"com/example/fair_index/fairindex/csw/ResultType", "getName", "()Ljava/lang/String;"⟩ : MethodName)) hown (hw _ (List.mem_of_getElem? (i := 154) rfl)) (hw _ (List.mem_of_getElem? (i := 155) rfl)) (notFace_of_selects (args := #[]) (mvT hZ (hw _ (List.mem_of_getElem? (i := 157) rfl)))) (hw _ (List.mem_of_getElem? (i := 157) rfl)) (hw _ (List.mem_of_getElem? (i := 156) rfl)) (hw _ (List.mem_of_getElem? (i := 158) rfl)) (hw _ (List.mem_of_getElem? (i := 2) rfl)) (by decide) (rm_gn1 hw G   h520 O520 ) e532 (W := 1) (by decide) (by decide) (by decide) (by decide) (Exa.ext O520 E_s_RESULTS) (g := (mkF m 132 #[.val (.int p0), .val (.ref ob_474), .val (.ref ob_491), .val (.ref s_HITS_name), .val (.ref s_RESULTS_name), .val (.ref s_VALIDATE_name)] [(.ref s_RESULTS), (.ref s_RESULTS_name)])) rfl (by rw [hml]; rfl) (argsL := []) (rest := [(.ref s_RESULTS_name)]) (lenOf pd___Ljava_lang_String_ rfl) rfl rfl (by show 2 * 0 + _ ≤ _; exact Nat.le_of_eq rfl) (hb hby at_132)
  obtain ⟨rfl, e533, rfl⟩ := q533
  have N533 := Fr.app N530 (Fr.nil _)
  refine GoS.of (T' := T533) (f' := (mkF m 135 #[.val (.int p0), .val (.ref ob_474), .val (.ref ob_491), .val (.ref s_HITS_name), .val (.ref s_RESULTS_name), .val (.ref s_VALIDATE_name)] [(.ref s_RESULTS_name), (.ref s_RESULTS_name)])) (fun _ k => st533 _ k) ?_
  obtain ⟨T534, v534, L534, X534, q534, st534⟩ := callVi X533 hx hZ (y := (⟨"java/lang/String", "equals", "(Ljava/lang/Object;)Z"⟩ : MethodName)) (z := (⟨"java/lang/String", "equals", "(Ljava/lang/Object;)Z"⟩ : MethodName)) hown (hw _ (List.mem_of_getElem? (i := 143) rfl)) (hw _ (List.mem_of_getElem? (i := 144) rfl)) (notFace_of_selects (args := #[]) (mvT hZ (hw _ (List.mem_of_getElem? (i := 146) rfl)))) (hw _ (List.mem_of_getElem? (i := 146) rfl)) (hw _ (List.mem_of_getElem? (i := 145) rfl)) (hw _ (List.mem_of_getElem? (i := 147) rfl)) (hw _ (List.mem_of_getElem? (i := 95) rfl)) (by decide) (rm_eqs1 hw G   h520 O520 ) e533 (W := 0) (by decide) (by decide) (by decide) (by decide) (Exa.ext O520 E_s_RESULTS_name) (g := (mkF m 135 #[.val (.int p0), .val (.ref ob_474), .val (.ref ob_491), .val (.ref s_HITS_name), .val (.ref s_RESULTS_name), .val (.ref s_VALIDATE_name)] [(.ref s_RESULTS_name), (.ref s_RESULTS_name)])) rfl (by rw [hml]; rfl) (argsL := [(.ref s_RESULTS_name)]) (rest := []) (lenOf pd__Ljava_lang_Object__Z rfl) rfl rfl (by show 2 * 0 + _ ≤ _; exact Nat.le_of_eq rfl) (hb hby at_135)
  obtain ⟨rfl, e534, rfl⟩ := q534
  have N534 := Fr.app N533 (Fr.nil _)
  refine GoS.of (T' := T534) (f' := (mkF m 138 #[.val (.int p0), .val (.ref ob_474), .val (.ref ob_491), .val (.ref s_HITS_name), .val (.ref s_RESULTS_name), .val (.ref s_VALIDATE_name)] [(.int (1 : Int32))])) (fun _ k => st534 _ k) ?_
  refine GoS.of (T' := T534) (f' := (mkF m 141 #[.val (.int p0), .val (.ref ob_474), .val (.ref ob_491), .val (.ref s_HITS_name), .val (.ref s_RESULTS_name), .val (.ref s_VALIDATE_name)] [])) (fun _ k => XS.ifNo X534.here hx rfl (hb hby at_138) rfl ((if0 _ _).trans (feq (by decide : ¬ ((1 : Int32) = (0 : Int32)))).1) k) ?_
  refine GoS.of (T' := T534) (f' := (mkF m 143 #[.val (.int p0), .val (.ref ob_474), .val (.ref ob_491), .val (.ref s_HITS_name), .val (.ref s_RESULTS_name), .val (.ref s_VALIDATE_name)] [(.ref s_VALIDATE_name)])) (fun _ k => XS.aload X534.here hx rfl (hb hby at_141) rfl rfl k) ?_
  obtain ⟨T536, X536, e536, st536⟩ := getS2 X534 hx hZ hown (host := "") (Or.inl (hw _ (List.mem_of_getElem? (i := 160) rfl))) Via.refl e534 (Sta.ext O520 S_VALIDATE) (g := (mkF m 143 #[.val (.int p0), .val (.ref ob_474), .val (.ref ob_491), .val (.ref s_HITS_name), .val (.ref s_RESULTS_name), .val (.ref s_VALIDATE_name)] [(.ref s_VALIDATE_name)])) rfl (hb hby at_143)
  refine GoS.of (T' := T536) (f' := (mkF m 146 #[.val (.int p0), .val (.ref ob_474), .val (.ref ob_491), .val (.ref s_HITS_name), .val (.ref s_RESULTS_name), .val (.ref s_VALIDATE_name)] [(.ref s_VALIDATE), (.ref s_VALIDATE_name)])) (fun _ k => st536 _ k) ?_
  obtain ⟨T537, v537, L537, X537, q537, st537⟩ := callVi X536 hx hZ (y := (⟨"com/example/fair_index/fairindex/csw/ResultType", "getName", "()Ljava/lang/String;"⟩ : MethodName)) (z := (⟨"com/example/fair_index/fairindex/csw/ResultType", "getName", "()Ljava/lang/String;"⟩ : MethodName)) hown (hw _ (List.mem_of_getElem? (i := 154) rfl)) (hw _ (List.mem_of_getElem? (i := 155) rfl)) (notFace_of_selects (args := #[]) (mvT hZ (hw _ (List.mem_of_getElem? (i := 157) rfl)))) (hw _ (List.mem_of_getElem? (i := 157) rfl)) (hw _ (List.mem_of_getElem? (i := 156) rfl)) (hw _ (List.mem_of_getElem? (i := 158) rfl)) (hw _ (List.mem_of_getElem? (i := 2) rfl)) (by decide) (rm_gn2 hw G   h520 O520 ) e536 (W := 1) (by decide) (by decide) (by decide) (by decide) (Exa.ext O520 E_s_VALIDATE) (g := (mkF m 146 #[.val (.int p0), .val (.ref ob_474), .val (.ref ob_491), .val (.ref s_HITS_name), .val (.ref s_RESULTS_name), .val (.ref s_VALIDATE_name)] [(.ref s_VALIDATE), (.ref s_VALIDATE_name)])) rfl (by rw [hml]; rfl) (argsL := []) (rest := [(.ref s_VALIDATE_name)]) (lenOf pd___Ljava_lang_String_ rfl) rfl rfl (by show 2 * 0 + _ ≤ _; exact Nat.le_of_eq rfl) (hb hby at_146)
  obtain ⟨rfl, e537, rfl⟩ := q537
  have N537 := Fr.app N534 (Fr.nil _)
  refine GoS.of (T' := T537) (f' := (mkF m 149 #[.val (.int p0), .val (.ref ob_474), .val (.ref ob_491), .val (.ref s_HITS_name), .val (.ref s_RESULTS_name), .val (.ref s_VALIDATE_name)] [(.ref s_VALIDATE_name), (.ref s_VALIDATE_name)])) (fun _ k => st537 _ k) ?_
  obtain ⟨T538, v538, L538, X538, q538, st538⟩ := callVi X537 hx hZ (y := (⟨"java/lang/String", "equals", "(Ljava/lang/Object;)Z"⟩ : MethodName)) (z := (⟨"java/lang/String", "equals", "(Ljava/lang/Object;)Z"⟩ : MethodName)) hown (hw _ (List.mem_of_getElem? (i := 143) rfl)) (hw _ (List.mem_of_getElem? (i := 144) rfl)) (notFace_of_selects (args := #[]) (mvT hZ (hw _ (List.mem_of_getElem? (i := 146) rfl)))) (hw _ (List.mem_of_getElem? (i := 146) rfl)) (hw _ (List.mem_of_getElem? (i := 145) rfl)) (hw _ (List.mem_of_getElem? (i := 147) rfl)) (hw _ (List.mem_of_getElem? (i := 95) rfl)) (by decide) (rm_eqs2 hw G   h520 O520 ) e537 (W := 0) (by decide) (by decide) (by decide) (by decide) (Exa.ext O520 E_s_VALIDATE_name) (g := (mkF m 149 #[.val (.int p0), .val (.ref ob_474), .val (.ref ob_491), .val (.ref s_HITS_name), .val (.ref s_RESULTS_name), .val (.ref s_VALIDATE_name)] [(.ref s_VALIDATE_name), (.ref s_VALIDATE_name)])) rfl (by rw [hml]; rfl) (argsL := [(.ref s_VALIDATE_name)]) (rest := []) (lenOf pd__Ljava_lang_Object__Z rfl) rfl rfl (by show 2 * 0 + _ ≤ _; exact Nat.le_of_eq rfl) (hb hby at_149)
  obtain ⟨rfl, e538, rfl⟩ := q538
  have N538 := Fr.app N537 (Fr.nil _)
  refine GoS.of (T' := T538) (f' := (mkF m 152 #[.val (.int p0), .val (.ref ob_474), .val (.ref ob_491), .val (.ref s_HITS_name), .val (.ref s_RESULTS_name), .val (.ref s_VALIDATE_name)] [(.int (1 : Int32))])) (fun _ k => st538 _ k) ?_
  refine GoS.of (T' := T538) (f' := (mkF m 157 #[.val (.int p0), .val (.ref ob_474), .val (.ref ob_491), .val (.ref s_HITS_name), .val (.ref s_RESULTS_name), .val (.ref s_VALIDATE_name)] [])) (fun _ k => XS.ifYes X538.here hx rfl (pc0 := 152) (pc' := 157) rfl (hb hby at_152) rfl ((if0 _ _).trans (feq (by decide : ¬ ((1 : Int32) = (0 : Int32)))).2) (by decide) (by decide) k) ?_
  refine GoS.of (T' := T538) (f' := (mkF m 158 #[.val (.int p0), .val (.ref ob_474), .val (.ref ob_491), .val (.ref s_HITS_name), .val (.ref s_RESULTS_name), .val (.ref s_VALIDATE_name)] [(.ref s_HITS_name)])) (fun _ k => XS.aloadN X538.here hx rfl (hb hby at_157) rfl rfl k) ?_
  obtain ⟨T540, v540, L540, X540, q540, st540⟩ := callSt X538 hx hZ (y := (⟨"com/example/fair_index/fairindex/csw/ResultType", "named", "(Ljava/lang/String;)Lcom/example/fair_index/fairindex/csw/ResultType;"⟩ : MethodName)) hown (hw _ (List.mem_of_getElem? (i := 161) rfl)) (hw _ (List.mem_of_getElem? (i := 162) rfl)) (hw _ (List.mem_of_getElem? (i := 2) rfl)) (hw _ (List.mem_of_getElem? (i := 163) rfl)) (by decide) (rm_named0 hw G   h520 O520 ) e538 (W := 0) (by decide) (by decide) (by decide) (by decide) (g := (mkF m 158 #[.val (.int p0), .val (.ref ob_474), .val (.ref ob_491), .val (.ref s_HITS_name), .val (.ref s_RESULTS_name), .val (.ref s_VALIDATE_name)] [(.ref s_HITS_name)])) rfl (by rw [hml]; rfl) (argsL := [(.ref s_HITS_name)]) (rest := []) (lenOf pd__Ljava_lang_String__Lcom_example_fair_index_fairindex_csw_ResultType_ rfl) rfl rfl (by show 2 * 0 + _ ≤ _; exact Nat.le_of_eq rfl) (hb hby at_158)
  obtain ⟨rfl, N540q, K540q⟩ := q540
  have N540 := Fr.app N538 N540q
  have O542 := Old0.keep O520 K540q all0
  have K542 := Keep.trans K520 K540q all0
  have C541 := CHr.trans C520 (CHr.keep K540q sf0 C520.1)
  have hk := Nat.le_trans hk K540q.1
  refine GoS.of (T' := T540) (f' := (mkF m 161 #[.val (.int p0), .val (.ref ob_474), .val (.ref ob_491), .val (.ref s_HITS_name), .val (.ref s_RESULTS_name), .val (.ref s_VALIDATE_name)] [(.ref s_HITS)])) (fun _ k => st540 _ k) ?_
  obtain ⟨T543, X543, e543, st543⟩ := getS2 X540 hx hZ hown (host := "") (Or.inl (hw _ (List.mem_of_getElem? (i := 153) rfl))) Via.refl rfl (Sta.ext O542 S_HITS) (g := (mkF m 161 #[.val (.int p0), .val (.ref ob_474), .val (.ref ob_491), .val (.ref s_HITS_name), .val (.ref s_RESULTS_name), .val (.ref s_VALIDATE_name)] [(.ref s_HITS)])) rfl (hb hby at_161)
  refine GoS.of (T' := T543) (f' := (mkF m 164 #[.val (.int p0), .val (.ref ob_474), .val (.ref ob_491), .val (.ref s_HITS_name), .val (.ref s_RESULTS_name), .val (.ref s_VALIDATE_name)] [(.ref s_HITS), (.ref s_HITS)])) (fun _ k => st543 _ k) ?_
  refine GoS.of (T' := T543) (f' := (mkF m 167 #[.val (.int p0), .val (.ref ob_474), .val (.ref ob_491), .val (.ref s_HITS_name), .val (.ref s_RESULTS_name), .val (.ref s_VALIDATE_name)] [])) (fun _ k => Jvm.RoadKit.acmp (g := (mkF m 164 #[.val (.int p0), .val (.ref ob_474), .val (.ref ob_491), .val (.ref s_HITS_name), .val (.ref s_RESULTS_name), .val (.ref s_VALIDATE_name)] [(.ref s_HITS), (.ref s_HITS)])) X543 hx rfl rfl rfl (pc0 := 164) (pc' := 167) (same := true) rfl (hb hby at_164) rfl (decide_eq_true rfl) (by decide) (by decide) k) ?_
  refine GoS.of (T' := T543) (f' := (mkF m 169 #[.val (.int p0), .val (.ref ob_474), .val (.ref ob_491), .val (.ref s_HITS_name), .val (.ref s_RESULTS_name), .val (.ref s_VALIDATE_name)] [(.ref s_RESULTS_name)])) (fun _ k => XS.aload X543.here hx rfl (hb hby at_167) rfl rfl k) ?_
  obtain ⟨T545, v545, L545, X545, q545, st545⟩ := callSt X543 hx hZ (y := (⟨"com/example/fair_index/fairindex/csw/ResultType", "named", "(Ljava/lang/String;)Lcom/example/fair_index/fairindex/csw/ResultType;"⟩ : MethodName)) hown (hw _ (List.mem_of_getElem? (i := 161) rfl)) (hw _ (List.mem_of_getElem? (i := 162) rfl)) (hw _ (List.mem_of_getElem? (i := 2) rfl)) (hw _ (List.mem_of_getElem? (i := 163) rfl)) (by decide) (rm_named1 hw G   T540.heap O542 ) e543 (W := 0) (by decide) (by decide) (by decide) (by decide) (g := (mkF m 169 #[.val (.int p0), .val (.ref ob_474), .val (.ref ob_491), .val (.ref s_HITS_name), .val (.ref s_RESULTS_name), .val (.ref s_VALIDATE_name)] [(.ref s_RESULTS_name)])) rfl (by rw [hml]; rfl) (argsL := [(.ref s_RESULTS_name)]) (rest := []) (lenOf pd__Ljava_lang_String__Lcom_example_fair_index_fairindex_csw_ResultType_ rfl) rfl rfl (by show 2 * 0 + _ ≤ _; exact Nat.le_of_eq rfl) (hb hby at_169)
  obtain ⟨rfl, N545q, K545q⟩ := q545
  have N545 := Fr.app N540 N545q
  have O547 := Old0.keep O542 K545q all0
  have K547 := Keep.trans K542 K545q all0
  have C546 := CHr.trans C541 (CHr.keep K545q sf0 C541.1)
  have hk := Nat.le_trans hk K545q.1
  refine GoS.of (T' := T545) (f' := (mkF m 172 #[.val (.int p0), .val (.ref ob_474), .val (.ref ob_491), .val (.ref s_HITS_name), .val (.ref s_RESULTS_name), .val (.ref s_VALIDATE_name)] [(.ref s_RESULTS)])) (fun _ k => st545 _ k) ?_
  obtain ⟨T548, X548, e548, st548⟩ := getS2 X545 hx hZ hown (host := "") (Or.inl (hw _ (List.mem_of_getElem? (i := 159) rfl))) Via.refl rfl (Sta.ext O547 S_RESULTS) (g := (mkF m 172 #[.val (.int p0), .val (.ref ob_474), .val (.ref ob_491), .val (.ref s_HITS_name), .val (.ref s_RESULTS_name), .val (.ref s_VALIDATE_name)] [(.ref s_RESULTS)])) rfl (hb hby at_172)
  refine GoS.of (T' := T548) (f' := (mkF m 175 #[.val (.int p0), .val (.ref ob_474), .val (.ref ob_491), .val (.ref s_HITS_name), .val (.ref s_RESULTS_name), .val (.ref s_VALIDATE_name)] [(.ref s_RESULTS), (.ref s_RESULTS)])) (fun _ k => st548 _ k) ?_
  refine GoS.of (T' := T548) (f' := (mkF m 178 #[.val (.int p0), .val (.ref ob_474), .val (.ref ob_491), .val (.ref s_HITS_name), .val (.ref s_RESULTS_name), .val (.ref s_VALIDATE_name)] [])) (fun _ k => Jvm.RoadKit.acmp (g := (mkF m 175 #[.val (.int p0), .val (.ref ob_474), .val (.ref ob_491), .val (.ref s_HITS_name), .val (.ref s_RESULTS_name), .val (.ref s_VALIDATE_name)] [(.ref s_RESULTS), (.ref s_RESULTS)])) X548 hx rfl rfl rfl (pc0 := 175) (pc' := 178) (same := true) rfl (hb hby at_175) rfl (decide_eq_true rfl) (by decide) (by decide) k) ?_
  refine GoS.of (T' := T548) (f' := (mkF m 180 #[.val (.int p0), .val (.ref ob_474), .val (.ref ob_491), .val (.ref s_HITS_name), .val (.ref s_RESULTS_name), .val (.ref s_VALIDATE_name)] [(.ref s_VALIDATE_name)])) (fun _ k => XS.aload X548.here hx rfl (hb hby at_178) rfl rfl k) ?_
  obtain ⟨T550, v550, L550, X550, q550, st550⟩ := callSt X548 hx hZ (y := (⟨"com/example/fair_index/fairindex/csw/ResultType", "named", "(Ljava/lang/String;)Lcom/example/fair_index/fairindex/csw/ResultType;"⟩ : MethodName)) hown (hw _ (List.mem_of_getElem? (i := 161) rfl)) (hw _ (List.mem_of_getElem? (i := 162) rfl)) (hw _ (List.mem_of_getElem? (i := 2) rfl)) (hw _ (List.mem_of_getElem? (i := 163) rfl)) (by decide) (rm_named2 hw G   T545.heap O547 ) e548 (W := 0) (by decide) (by decide) (by decide) (by decide) (g := (mkF m 180 #[.val (.int p0), .val (.ref ob_474), .val (.ref ob_491), .val (.ref s_HITS_name), .val (.ref s_RESULTS_name), .val (.ref s_VALIDATE_name)] [(.ref s_VALIDATE_name)])) rfl (by rw [hml]; rfl) (argsL := [(.ref s_VALIDATE_name)]) (rest := []) (lenOf pd__Ljava_lang_String__Lcom_example_fair_index_fairindex_csw_ResultType_ rfl) rfl rfl (by show 2 * 0 + _ ≤ _; exact Nat.le_of_eq rfl) (hb hby at_180)
  obtain ⟨rfl, N550q, K550q⟩ := q550
  have N550 := Fr.app N545 N550q
  have O552 := Old0.keep O547 K550q all0
  have K552 := Keep.trans K547 K550q all0
  have C551 := CHr.trans C546 (CHr.keep K550q sf0 C546.1)
  have hk := Nat.le_trans hk K550q.1
  refine GoS.of (T' := T550) (f' := (mkF m 183 #[.val (.int p0), .val (.ref ob_474), .val (.ref ob_491), .val (.ref s_HITS_name), .val (.ref s_RESULTS_name), .val (.ref s_VALIDATE_name)] [(.ref s_VALIDATE)])) (fun _ k => st550 _ k) ?_
  obtain ⟨T553, X553, e553, st553⟩ := getS2 X550 hx hZ hown (host := "") (Or.inl (hw _ (List.mem_of_getElem? (i := 160) rfl))) Via.refl rfl (Sta.ext O552 S_VALIDATE) (g := (mkF m 183 #[.val (.int p0), .val (.ref ob_474), .val (.ref ob_491), .val (.ref s_HITS_name), .val (.ref s_RESULTS_name), .val (.ref s_VALIDATE_name)] [(.ref s_VALIDATE)])) rfl (hb hby at_183)
  refine GoS.of (T' := T553) (f' := (mkF m 186 #[.val (.int p0), .val (.ref ob_474), .val (.ref ob_491), .val (.ref s_HITS_name), .val (.ref s_RESULTS_name), .val (.ref s_VALIDATE_name)] [(.ref s_VALIDATE), (.ref s_VALIDATE)])) (fun _ k => st553 _ k) ?_
  refine GoS.of (T' := T553) (f' := (mkF m 189 #[.val (.int p0), .val (.ref ob_474), .val (.ref ob_491), .val (.ref s_HITS_name), .val (.ref s_RESULTS_name), .val (.ref s_VALIDATE_name)] [])) (fun _ k => Jvm.RoadKit.acmp (g := (mkF m 186 #[.val (.int p0), .val (.ref ob_474), .val (.ref ob_491), .val (.ref s_HITS_name), .val (.ref s_RESULTS_name), .val (.ref s_VALIDATE_name)] [(.ref s_VALIDATE), (.ref s_VALIDATE)])) X553 hx rfl rfl rfl (pc0 := 186) (pc' := 189) (same := true) rfl (hb hby at_186) rfl (decide_eq_true rfl) (by decide) (by decide) k) ?_
  refine GoS.of (T' := T553) (f' := (mkF m 190 #[.val (.int p0), .val (.ref ob_474), .val (.ref ob_491), .val (.ref s_HITS_name), .val (.ref s_RESULTS_name), .val (.ref s_VALIDATE_name)] [(.int (1 : Int32))])) (fun _ k => XS.iconst X553.here hx rfl (hb hby at_189) k) ?_
  refine GoS.of (T' := T553) (f' := (mkF m 194 #[.val (.int p0), .val (.ref ob_474), .val (.ref ob_491), .val (.ref s_HITS_name), .val (.ref s_RESULTS_name), .val (.ref s_VALIDATE_name)] [(.int (1 : Int32))])) (fun _ k => XS.goto X553.here hx rfl (pc0 := 190) (pc' := 194) rfl (hb hby at_190) (by decide) (by decide) k) ?_
  exact GoS.retB X553 hx hlk hS hk hZ hEL C551 e553 hret (by simp) (hb hby at_194) (by decide) (by decide) (z' := (1 : Int32)) rfl (by rw [e553]; exact ⟨rfl, N550, K552⟩)
set_option maxRecDepth 65536 in
set_option maxHeartbeats 40000000 in
theorem comes_1 {Post : Tables → Env → Array Value → State → Outcome → State → Prop} (hpost : ∀ tb e args s v u, (limb_1_1.after args s (.returned v) u = true ∧ limb_1_2.after args s (.returned v) u = true ∧ True) → ReturnedEndW s (.returned v) u (Jvm.fieldLocs frame_1_writes args s ++ Jvm.arrayLocs frame_1_arrays args s ++ Jvm.staticLocs frame_1_statics s) 40 3264 → Post tb e args s (.returned v) u) :
    ArmFor flags0 classFile x code maxLocals ret World_1 tables_1 room_1 Calls_1 rest_1 Pre_1 Post := by
  intro l hfl _ _ p e ha hc hk s m args below hf hA hF happ hP
  obtain ⟨hcalls, hrest, hpre⟩ := hP
  obtain ⟨-, -, -, hnamed, -, -, -, hat⟩ := (Spec.applies_iff hf).mp happ
  obtain ⟨hg, hn⟩ := and_e (Cond.before_iff.mp (show (Jvm.Cond.and given_1 narrow_1).before args s = true from hpre))
  obtain ⟨ga0, gb0⟩ := and_e hg
  obtain ⟨w0, rfl⟩ : ∃ w0 : Value, args = #[w0] := by
    have hs : args.size = 1 := by simpa [Cond.value, given_1] using ga0
    obtain ⟨L⟩ := args
    match L, hs with
    | [w0], _ => exact ⟨w0, rfl⟩
  have hw := fun d (hd : d ∈ tables_1) => atoms_spec (ws := Jvm.Cond.code x code maxLocals ret :: tables_1) hat d (List.mem_cons_of_mem _ hd)
  have hfit : Fit s := fun {y c} hc i hi => by
    obtain ⟨ha, rfl⟩ := Array.getElem?_eq_some_iff.mp hc
    have q := List.all_eq_true.mp ((Array.all_eq_true_iff_forall_mem.mp hF) _ (Array.getElem_mem ha)) i (List.mem_range.mpr hi)
    simpa [Array.getElem?_eq_getElem hi] using q
  obtain ⟨hsets, hown0⟩ := atoms_of _ (rest_1_c_eq ▸ (show rest_1_c.before _ s = true from hrest))
  obtain ⟨i0, ei0⟩ := is_v gb0
  obtain rfl : w0 = (.int i0) := Option.some.inj ei0
  obtain ⟨na1, nb1⟩ := and_e hn
  obtain ⟨s__VALUES, ev_s__VALUES⟩ := arr_v na1
  have S__VALUES : Sta s s.heap "com/example/fair_index/fairindex/csw/ResultType" "$VALUES" "[Lcom/example/fair_index/fairindex/csw/ResultType;" (.ref s__VALUES) := Sta.start ev_s__VALUES (Or.inl (hw _ (List.mem_of_getElem? (i := 45) rfl)))
  obtain ⟨cl_s__VALUES, A_s__VALUES⟩ := Arr.start ev_s__VALUES na1
  obtain ⟨na2, nb2⟩ := and_e nb1
  have E_s__VALUES : Exa s s.heap s__VALUES "[Lcom/example/fair_index/fairindex/csw/ResultType;" := Exa.start ev_s__VALUES na2
  obtain ⟨na3, nb3⟩ := and_e nb2
  have ev3 := eqI_v na3
  obtain ⟨na5, nb5⟩ := and_e nb3
  obtain ⟨s_HITS, ev_s_HITS⟩ := exa_v na5
  have S_HITS : Sta s s.heap "com/example/fair_index/fairindex/csw/ResultType" "HITS" "Lcom/example/fair_index/fairindex/csw/ResultType;" (.ref s_HITS) := Sta.start ev_s_HITS (Or.inr ⟨(hw _ (List.mem_of_getElem? (i := 2) rfl)), (hw _ (List.mem_of_getElem? (i := 42) rfl))⟩)
  have E_s_HITS : Exa s s.heap s_HITS "com/example/fair_index/fairindex/csw/ResultType" := Exa.start ev_s_HITS na5
  obtain ⟨na6, nb6⟩ := and_e nb5
  have ev6 := eqR_v ev_s_HITS na6
  obtain ⟨na8, nb8⟩ := and_e nb6
  obtain ⟨s_RESULTS, ev_s_RESULTS⟩ := exa_v na8
  have S_RESULTS : Sta s s.heap "com/example/fair_index/fairindex/csw/ResultType" "RESULTS" "Lcom/example/fair_index/fairindex/csw/ResultType;" (.ref s_RESULTS) := Sta.start ev_s_RESULTS (Or.inr ⟨(hw _ (List.mem_of_getElem? (i := 2) rfl)), (hw _ (List.mem_of_getElem? (i := 43) rfl))⟩)
  have E_s_RESULTS : Exa s s.heap s_RESULTS "com/example/fair_index/fairindex/csw/ResultType" := Exa.start ev_s_RESULTS na8
  obtain ⟨na9, nb9⟩ := and_e nb8
  have ev9 := eqR_v ev_s_RESULTS na9
  obtain ⟨na11, nb11⟩ := and_e nb9
  obtain ⟨s_VALIDATE, ev_s_VALIDATE⟩ := exa_v na11
  have S_VALIDATE : Sta s s.heap "com/example/fair_index/fairindex/csw/ResultType" "VALIDATE" "Lcom/example/fair_index/fairindex/csw/ResultType;" (.ref s_VALIDATE) := Sta.start ev_s_VALIDATE (Or.inr ⟨(hw _ (List.mem_of_getElem? (i := 2) rfl)), (hw _ (List.mem_of_getElem? (i := 44) rfl))⟩)
  have E_s_VALIDATE : Exa s s.heap s_VALIDATE "com/example/fair_index/fairindex/csw/ResultType" := Exa.start ev_s_VALIDATE na11
  obtain ⟨na12, nb12⟩ := and_e nb11
  have ev12 := eqR_v ev_s_VALIDATE na12
  obtain ⟨na14, nb14⟩ := and_e nb12
  obtain ⟨s_HITS_name, ev_s_HITS_name⟩ := exa_v na14
  have F_s_HITS_name : Fld s s.heap s_HITS "com/example/fair_index/fairindex/csw/ResultType" "name" "Ljava/lang/String;" (.ref s_HITS_name) := Fld.start ((fld_at ev_s_HITS).symm.trans ev_s_HITS_name)
  have E_s_HITS_name : Exa s s.heap s_HITS_name "java/lang/String" := Exa.start ev_s_HITS_name na14
  obtain ⟨na15, nb15⟩ := and_e nb14
  obtain ⟨s_RESULTS_name, ev_s_RESULTS_name⟩ := exa_v na15
  have F_s_RESULTS_name : Fld s s.heap s_RESULTS "com/example/fair_index/fairindex/csw/ResultType" "name" "Ljava/lang/String;" (.ref s_RESULTS_name) := Fld.start ((fld_at ev_s_RESULTS).symm.trans ev_s_RESULTS_name)
  have E_s_RESULTS_name : Exa s s.heap s_RESULTS_name "java/lang/String" := Exa.start ev_s_RESULTS_name na15
  obtain ⟨na16, nb16⟩ := and_e nb15
  obtain ⟨s_VALIDATE_name, ev_s_VALIDATE_name⟩ := exa_v na16
  have F_s_VALIDATE_name : Fld s s.heap s_VALIDATE "com/example/fair_index/fairindex/csw/ResultType" "name" "Ljava/lang/String;" (.ref s_VALIDATE_name) := Fld.start ((fld_at ev_s_VALIDATE).symm.trans ev_s_VALIDATE_name)
  have E_s_VALIDATE_name : Exa s s.heap s_VALIDATE_name "java/lang/String" := Exa.start ev_s_VALIDATE_name na16
  obtain ⟨na17, nb17⟩ := and_e nb16
  have ev17 := eqI_v na17
  have F_s_HITS_name_coder : Fld s s.heap s_HITS_name "java/lang/String" "coder" "B" (.int (0 : Int32)) := Fld.start ((fld_at ev_s_HITS_name).symm.trans ev17)
  obtain ⟨na19, nb19⟩ := and_e nb17
  obtain ⟨s_HITS_name_value, ev_s_HITS_name_value⟩ := arr_v na19
  have F_s_HITS_name_value : Fld s s.heap s_HITS_name "java/lang/String" "value" "[B" (.ref s_HITS_name_value) := Fld.start ((fld_at ev_s_HITS_name).symm.trans ev_s_HITS_name_value)
  obtain ⟨cl_s_HITS_name_value, A_s_HITS_name_value⟩ := Arr.start ev_s_HITS_name_value na19
  obtain ⟨na20, nb20⟩ := and_e nb19
  have ev20 := eqI_v na20
  obtain ⟨na22, nb22⟩ := and_e nb20
  have ev22 := eqI_v na22
  obtain ⟨na24, nb24⟩ := and_e nb22
  have ev24 := eqI_v na24
  obtain ⟨na26, nb26⟩ := and_e nb24
  have ev26 := eqI_v na26
  obtain ⟨na28, nb28⟩ := and_e nb26
  have ev28 := eqI_v na28
  obtain ⟨na30, nb30⟩ := and_e nb28
  have ev30 := eqI_v na30
  have F_s_RESULTS_name_coder : Fld s s.heap s_RESULTS_name "java/lang/String" "coder" "B" (.int (0 : Int32)) := Fld.start ((fld_at ev_s_RESULTS_name).symm.trans ev30)
  obtain ⟨na32, nb32⟩ := and_e nb30
  obtain ⟨s_RESULTS_name_value, ev_s_RESULTS_name_value⟩ := arr_v na32
  have F_s_RESULTS_name_value : Fld s s.heap s_RESULTS_name "java/lang/String" "value" "[B" (.ref s_RESULTS_name_value) := Fld.start ((fld_at ev_s_RESULTS_name).symm.trans ev_s_RESULTS_name_value)
  obtain ⟨cl_s_RESULTS_name_value, A_s_RESULTS_name_value⟩ := Arr.start ev_s_RESULTS_name_value na32
  obtain ⟨na33, nb33⟩ := and_e nb32
  have ev33 := eqI_v na33
  obtain ⟨na35, nb35⟩ := and_e nb33
  have ev35 := eqI_v na35
  have F_s_VALIDATE_name_coder : Fld s s.heap s_VALIDATE_name "java/lang/String" "coder" "B" (.int (0 : Int32)) := Fld.start ((fld_at ev_s_VALIDATE_name).symm.trans ev35)
  obtain ⟨na37, nb37⟩ := and_e nb35
  obtain ⟨s_VALIDATE_name_value, ev_s_VALIDATE_name_value⟩ := arr_v na37
  have F_s_VALIDATE_name_value : Fld s s.heap s_VALIDATE_name "java/lang/String" "value" "[B" (.ref s_VALIDATE_name_value) := Fld.start ((fld_at ev_s_VALIDATE_name).symm.trans ev_s_VALIDATE_name_value)
  obtain ⟨cl_s_VALIDATE_name_value, A_s_VALIDATE_name_value⟩ := Arr.start ev_s_VALIDATE_name_value na37
  obtain ⟨na38, nb38⟩ := and_e nb37
  have ev38 := eqI_v na38
  obtain ⟨na40, nb40⟩ := and_e nb38
  have ne_s_HITS_name_s_RESULTS_name : ¬ (s_HITS_name = s_RESULTS_name) := neR_v ev_s_HITS_name ev_s_RESULTS_name na40
  obtain ⟨na41, nb41⟩ := and_e nb40
  have ne_s_HITS_name_s_VALIDATE_name : ¬ (s_HITS_name = s_VALIDATE_name) := neR_v ev_s_HITS_name ev_s_VALIDATE_name na41
  obtain ⟨na42, nb42⟩ := and_e nb41
  have ne_s_RESULTS_name_s_VALIDATE_name : ¬ (s_RESULTS_name = s_VALIDATE_name) := neR_v ev_s_RESULTS_name ev_s_VALIDATE_name na42
  obtain ⟨na43, nb43⟩ := and_e nb42
  have ev43 := eqI_v na43
  obtain ⟨na45, nb45⟩ := and_e nb43
  have ev45 := eqI_v na45
  obtain ⟨na47, nb47⟩ := and_e nb45
  have ev47 := eqI_v na47
  obtain ⟨na49, nb49⟩ := and_e nb47
  have ev49 := eqI_v na49
  obtain ⟨na51, nb51⟩ := and_e nb49
  have ev51 := eqI_v na51
  obtain ⟨na53, nb53⟩ := and_e nb51
  have ev53 := eqI_v na53
  obtain ⟨na55, nb55⟩ := and_e nb53
  have ev55 := eqI_v na55
  obtain ⟨na57, nb57⟩ := and_e nb55
  have ev57 := eqI_v na57
  obtain ⟨na59, nb59⟩ := and_e nb57
  have ev59 := eqI_v na59
  obtain ⟨na61, nb61⟩ := and_e nb59
  have ev61 := eqI_v na61
  obtain ⟨na63, nb63⟩ := and_e nb61
  have ev63 := eqI_v na63
  obtain ⟨na65, nb65⟩ := and_e nb63
  have ev65 := eqI_v na65
  obtain ⟨na67, nb67⟩ := and_e nb65
  have ev67 := eqI_v na67
  obtain ⟨na69, nb69⟩ := and_e nb67
  have ev69 := eqI_v na69
  have ev70 := eqI_v nb69
  have js3 := Cond.before_iff.mp (hsets _ (List.mem_of_getElem? (i := 3) rfl))
  have js4 := Cond.before_iff.mp (hsets _ (List.mem_of_getElem? (i := 4) rfl))
  have js5 := Cond.before_iff.mp (hsets _ (List.mem_of_getElem? (i := 5) rfl))
  have js6 := Cond.before_iff.mp (hsets _ (List.mem_of_getElem? (i := 6) rfl))
  obtain ⟨s_DEFAULTCAPACITY_EMPTY_ELEMENTDATA, ev_s_DEFAULTCAPACITY_EMPTY_ELEMENTDATA⟩ := arr_v js6
  have S_DEFAULTCAPACITY_EMPTY_ELEMENTDATA : Sta s s.heap "java/util/ArrayList" "DEFAULTCAPACITY_EMPTY_ELEMENTDATA" "[Ljava/lang/Object;" (.ref s_DEFAULTCAPACITY_EMPTY_ELEMENTDATA) := Sta.start ev_s_DEFAULTCAPACITY_EMPTY_ELEMENTDATA (Or.inr ⟨(hw _ (List.mem_of_getElem? (i := 6) rfl)), (hsets _ (List.mem_of_getElem? (i := 2) rfl))⟩)
  obtain ⟨cl_s_DEFAULTCAPACITY_EMPTY_ELEMENTDATA, A_s_DEFAULTCAPACITY_EMPTY_ELEMENTDATA⟩ := Arr.start ev_s_DEFAULTCAPACITY_EMPTY_ELEMENTDATA js6
  have js7 := Cond.before_iff.mp (hsets _ (List.mem_of_getElem? (i := 7) rfl))
  have E_s_DEFAULTCAPACITY_EMPTY_ELEMENTDATA : Exa s s.heap s_DEFAULTCAPACITY_EMPTY_ELEMENTDATA "[Ljava/lang/Object;" := Exa.start ev_s_DEFAULTCAPACITY_EMPTY_ELEMENTDATA js7
  have js8 := Cond.before_iff.mp (hsets _ (List.mem_of_getElem? (i := 8) rfl))
  have ev71 := eqI_v js8
  have js10 := Cond.before_iff.mp (hsets _ (List.mem_of_getElem? (i := 10) rfl))
  obtain ⟨s_COMPACT_STRINGS, ev_s_COMPACT_STRINGS⟩ := is_v js10
  have S_COMPACT_STRINGS : Sta s s.heap "java/lang/String" "COMPACT_STRINGS" "Z" (.int s_COMPACT_STRINGS) := Sta.start ev_s_COMPACT_STRINGS (Or.inl (hsets _ (List.mem_of_getElem? (i := 9) rfl)))
  have js11 := Cond.before_iff.mp (hsets _ (List.mem_of_getElem? (i := 11) rfl))
  have hne_s_COMPACT_STRINGS_0 : ¬ (s_COMPACT_STRINGS = (0 : Int32)) := neI_v ev_s_COMPACT_STRINGS js11
  obtain ⟨hl_s__VALUES, hz_s__VALUES⟩ := own_len ev_s__VALUES A_s__VALUES ev3
  have H_s__VALUES : HasL cl_s__VALUES 0 [(.ref s_HITS), (.ref s_RESULTS), (.ref s_VALIDATE)] := ⟨own_el ev_s__VALUES A_s__VALUES ev6, own_el ev_s__VALUES A_s__VALUES ev9, own_el ev_s__VALUES A_s__VALUES ev12, trivial⟩
  have V_s__VALUES : Arv s s.heap s__VALUES cl_s__VALUES.cls (.object "com/example/fair_index/fairindex/csw/ResultType") (3 : Int32) [(.ref s_HITS), (.ref s_RESULTS), (.ref s_VALIDATE)] .null := Arv.start hfit A_s__VALUES hl_s__VALUES hz_s__VALUES (by decide) rfl H_s__VALUES
  obtain ⟨hl_s_HITS_name_value, hz_s_HITS_name_value⟩ := own_len ev_s_HITS_name_value A_s_HITS_name_value ev20
  have H_s_HITS_name_value : HasL cl_s_HITS_name_value 0 [(.int (104 : Int32)), (.int (105 : Int32)), (.int (116 : Int32)), (.int (115 : Int32))] := ⟨own_el ev_s_HITS_name_value A_s_HITS_name_value ev22, own_el ev_s_HITS_name_value A_s_HITS_name_value ev24, own_el ev_s_HITS_name_value A_s_HITS_name_value ev26, own_el ev_s_HITS_name_value A_s_HITS_name_value ev28, trivial⟩
  have V_s_HITS_name_value : Arv s s.heap s_HITS_name_value cl_s_HITS_name_value.cls .byte (4 : Int32) [(.int (104 : Int32)), (.int (105 : Int32)), (.int (116 : Int32)), (.int (115 : Int32))] (.int (0 : Int32)) := Arv.start hfit A_s_HITS_name_value hl_s_HITS_name_value hz_s_HITS_name_value (by decide) rfl H_s_HITS_name_value
  obtain ⟨hl_s_RESULTS_name_value, hz_s_RESULTS_name_value⟩ := own_len ev_s_RESULTS_name_value A_s_RESULTS_name_value ev33
  have H_s_RESULTS_name_value : HasL cl_s_RESULTS_name_value 0 [(.int (114 : Int32)), (.int (101 : Int32)), (.int (115 : Int32)), (.int (117 : Int32)), (.int (108 : Int32)), (.int (116 : Int32)), (.int (115 : Int32))] := ⟨own_el ev_s_RESULTS_name_value A_s_RESULTS_name_value ev43, own_el ev_s_RESULTS_name_value A_s_RESULTS_name_value ev45, own_el ev_s_RESULTS_name_value A_s_RESULTS_name_value ev47, own_el ev_s_RESULTS_name_value A_s_RESULTS_name_value ev49, own_el ev_s_RESULTS_name_value A_s_RESULTS_name_value ev51, own_el ev_s_RESULTS_name_value A_s_RESULTS_name_value ev53, own_el ev_s_RESULTS_name_value A_s_RESULTS_name_value ev55, trivial⟩
  have V_s_RESULTS_name_value : Arv s s.heap s_RESULTS_name_value cl_s_RESULTS_name_value.cls .byte (7 : Int32) [(.int (114 : Int32)), (.int (101 : Int32)), (.int (115 : Int32)), (.int (117 : Int32)), (.int (108 : Int32)), (.int (116 : Int32)), (.int (115 : Int32))] (.int (0 : Int32)) := Arv.start hfit A_s_RESULTS_name_value hl_s_RESULTS_name_value hz_s_RESULTS_name_value (by decide) rfl H_s_RESULTS_name_value
  obtain ⟨hl_s_VALIDATE_name_value, hz_s_VALIDATE_name_value⟩ := own_len ev_s_VALIDATE_name_value A_s_VALIDATE_name_value ev38
  have H_s_VALIDATE_name_value : HasL cl_s_VALIDATE_name_value 0 [(.int (118 : Int32)), (.int (97 : Int32)), (.int (108 : Int32)), (.int (105 : Int32)), (.int (100 : Int32)), (.int (97 : Int32)), (.int (116 : Int32)), (.int (101 : Int32))] := ⟨own_el ev_s_VALIDATE_name_value A_s_VALIDATE_name_value ev57, own_el ev_s_VALIDATE_name_value A_s_VALIDATE_name_value ev59, own_el ev_s_VALIDATE_name_value A_s_VALIDATE_name_value ev61, own_el ev_s_VALIDATE_name_value A_s_VALIDATE_name_value ev63, own_el ev_s_VALIDATE_name_value A_s_VALIDATE_name_value ev65, own_el ev_s_VALIDATE_name_value A_s_VALIDATE_name_value ev67, own_el ev_s_VALIDATE_name_value A_s_VALIDATE_name_value ev69, own_el ev_s_VALIDATE_name_value A_s_VALIDATE_name_value ev70, trivial⟩
  have V_s_VALIDATE_name_value : Arv s s.heap s_VALIDATE_name_value cl_s_VALIDATE_name_value.cls .byte (8 : Int32) [(.int (118 : Int32)), (.int (97 : Int32)), (.int (108 : Int32)), (.int (105 : Int32)), (.int (100 : Int32)), (.int (97 : Int32)), (.int (116 : Int32)), (.int (101 : Int32))] (.int (0 : Int32)) := Arv.start hfit A_s_VALIDATE_name_value hl_s_VALIDATE_name_value hz_s_VALIDATE_name_value (by decide) rfl H_s_VALIDATE_name_value
  obtain ⟨hl_s_DEFAULTCAPACITY_EMPTY_ELEMENTDATA, hz_s_DEFAULTCAPACITY_EMPTY_ELEMENTDATA⟩ := own_len ev_s_DEFAULTCAPACITY_EMPTY_ELEMENTDATA A_s_DEFAULTCAPACITY_EMPTY_ELEMENTDATA ev71
  have H_s_DEFAULTCAPACITY_EMPTY_ELEMENTDATA : HasL cl_s_DEFAULTCAPACITY_EMPTY_ELEMENTDATA 0 [] := trivial
  have V_s_DEFAULTCAPACITY_EMPTY_ELEMENTDATA : Arv s s.heap s_DEFAULTCAPACITY_EMPTY_ELEMENTDATA cl_s_DEFAULTCAPACITY_EMPTY_ELEMENTDATA.cls (.object "java/lang/Object") (0 : Int32) [] .null := Arv.start hfit A_s_DEFAULTCAPACITY_EMPTY_ELEMENTDATA hl_s_DEFAULTCAPACITY_EMPTY_ELEMENTDATA hz_s_DEFAULTCAPACITY_EMPTY_ELEMENTDATA (by decide) rfl H_s_DEFAULTCAPACITY_EMPTY_ELEMENTDATA
  have hCH : CHv s own_EL s.vm s.heap := CHv.start (own_EW hw) (fun p hp => hcalls.1 p hp) (hsets _ (List.mem_of_getElem? (i := 11) rfl)) (hw _ (List.mem_of_getElem? (i := 107) rfl)) (hw _ (List.mem_of_getElem? (i := 103) rfl))
  obtain ⟨n, o, h1, h2, h3, _, L, rfl, ⟨rfl, N, _⟩, -, hq⟩ := rm_law hw ⟨S__VALUES, E_s__VALUES, S_HITS, E_s_HITS, S_RESULTS, E_s_RESULTS, S_VALIDATE, E_s_VALIDATE, F_s_HITS_name, E_s_HITS_name, F_s_RESULTS_name, E_s_RESULTS_name, F_s_VALIDATE_name, E_s_VALIDATE_name, F_s_HITS_name_coder, F_s_HITS_name_value, F_s_RESULTS_name_coder, F_s_RESULTS_name_value, F_s_VALIDATE_name_coder, F_s_VALIDATE_name_value, ne_s_HITS_name_s_RESULTS_name, ne_s_HITS_name_s_VALIDATE_name, ne_s_RESULTS_name_s_VALIDATE_name, S_DEFAULTCAPACITY_EMPTY_ELEMENTDATA, E_s_DEFAULTCAPACITY_EMPTY_ELEMENTDATA, S_COMPACT_STRINGS, hne_s_COMPACT_STRINGS_0, V_s__VALUES, V_s_HITS_name_value, V_s_RESULTS_name_value, V_s_VALIDATE_name_value, V_s_DEFAULTCAPACITY_EMPTY_ELEMENTDATA⟩ i0 s.heap ext_rfl tables_1 p e ha hc hk s m _ below hf ((Spec.applies_iff_loose hf).mp happ).1 ⟨rfl, State.Warmed39.refl s, rfl, hCH⟩ trivial
  refine ⟨n, _, h1, h2, h3, hpost _ _ _ _ _ _ ⟨Cond.after_iff.mpr rfl, Cond.after_iff.mpr (eq_i res_at (Term.int_eval (1)) rfl), trivial⟩ ⟨hq.1, hq.2.1, hq.2.2.1, (hq.2.2.2.sift fun y hy => Or.inr (N y hy)).mono (by decide) (by decide)⟩⟩
theorem main_1_1 : Claimed_1_1 := comes_1 fun _ _ _ _ _ _ h hF => ⟨h.1, hF⟩
theorem main_1_2 : Claimed_1_2 := comes_1 fun _ _ _ _ _ _ h hF => ⟨h.2.1, hF⟩
end Jvm.Pilot.@@N@@
namespace Jvm.Pilot.@@N@@
open Jvm Jvm.ClassFile Sem Op Lib Jvm.Free Jvm.Stand Jvm.Pilot.@@N@@.Jvm.D
/-! MADE BY PROGRAM (witnessworld.py) out of the Statement's table words and the real class files: 30 classes; the members and pool entries that the words name. The judged class is class 1, her method 1. -/
namespace start1
open Jvm.ClassFile
def u (s : String) : CpInfo := .utf8 (stringToUtf16 s)
/-- a pool by its gaps: so many unusable entries, then the entry; so many at the end -/
def gap : Nat → List CpInfo → List CpInfo
  | 0, r => r
  | n + 1, r => .unusable :: gap n r
def poolList (es : List (Nat × CpInfo)) (last : Nat) : List CpInfo := es.foldr (fun e r => gap e.1 (e.2 :: r)) (gap last [])
def pool (es : List (Nat × CpInfo)) (last : Nat) : Array CpInfo := ⟨poolList es last⟩
def fileOf (pool : Array CpInfo) (this : Nat) (attrs : Array Attribute := #[]) (ms : Array MethodInfo := #[]) (fl : Nat := 33) (sup : Nat := 0) (ifs : Array Nat := #[]) (fds : Array FieldInfo := #[]) : ClassFile where
  minorVersion := 0
  majorVersion := 65
  constantPool := pool
  accessFlags := fl
  thisClass := this
  superClass := sup
  interfaces := ifs
  fields := fds
  methods := ms
  attributes := attrs
def plain (name : String) (sup : Option ClassId) : Class where
  name := name
  kind := .ordinary
  loader := none
  accessFlags := 33
  super := sup
  interfaces := #[]
  cf := none
  fields := #[]
  methods := #[]
  instanceTypes := #[]
  staticTypes := #[]
  resolved := #[]
  callSites := []
  init := .initialized
  statics := none
  mirror := none

def pool0 : Array CpInfo := pool [(5, u "<init>"), (0, u "()V"), (1, .class_ 10), (1, u "java/lang/Object"), (85, u "clone"), (0, u "()Ljava/lang/Object;")] 26

def k0c0 : Code := { maxStack := 0, maxLocals := 1, code := object_method_1_code, exceptionTable := #[], attributes := #[] }
def k0m0 : Method := { name := "<init>", desc := "()V", sig := { parameters := [], returnType := none }, accessFlags := 1, code := some k0c0 }
def k0m1 : Method := { name := "clone", desc := "()Ljava/lang/Object;", sig := { parameters := [], returnType := some (.object "java/lang/Object") }, accessFlags := 260, code := none }
/-- java/lang/Object -/
def k0 : Class := { plain "java/lang/Object" none with
  accessFlags := 33
  interfaces := #[]
  cf := some (fileOf pool0 8 #[] #[{ accessFlags := 1, nameIndex := 5, descriptorIndex := 6, attributes := #[] }, { accessFlags := 260, nameIndex := 96, descriptorIndex := 97, attributes := #[] }] 33 0 #[] #[])
  fields := #[]
  methods := #[k0m0, k0m1]
  instanceTypes := #[]
  staticTypes := #[]
  resolved := Array.replicate 124 none
  statics := none }

def pool1 : Array CpInfo := pool [(2, .class_ 4), (1, u "java/lang/Object"), (0, u "<init>"), (0, u "()V"), (0, .methodref 8 9), (0, .class_ 10), (0, .nameAndType 11 12), (0, u "com/example/fair_index/fairindex/csw/ResultType"), (0, u "names"), (0, u "()Ljava/util/List;"), (0, .interfaceMethodref 14 15), (0, .class_ 16), (0, .nameAndType 17 18), (0, u "java/util/List"), (0, u "size"), (0, u "()I"), (0, .methodref 20 21), (0, .class_ 22), (0, .nameAndType 23 24), (0, u "java/lang/String"), (0, u "valueOf"), (0, u "(C)Ljava/lang/String;"), (0, .interfaceMethodref 14 26), (0, .nameAndType 27 28), (0, u "add"), (0, u "(Ljava/lang/Object;)Z"), (0, .interfaceMethodref 14 30), (0, .nameAndType 31 32), (0, u "get"), (0, u "(I)Ljava/lang/Object;"), (0, .string 34), (0, u "hits"), (0, .methodref 20 36), (0, .nameAndType 37 28), (0, u "equals"), (0, .string 39), (0, u "results"), (0, .string 41), (0, u "validate"), (0, .fieldref 8 43), (0, .nameAndType 44 45), (0, u "HITS"), (0, u "Lcom/example/fair_index/fairindex/csw/ResultType;"), (0, .methodref 8 47), (0, .nameAndType 48 49), (0, u "getName"), (0, u "()Ljava/lang/String;"), (0, .fieldref 8 51), (0, .nameAndType 52 45), (0, u "RESULTS"), (0, .fieldref 8 54), (0, .nameAndType 55 45), (0, u "VALIDATE"), (0, .methodref 8 57), (0, .nameAndType 58 59), (0, u "named"), (0, u "(Ljava/lang/String;)Lcom/example/fair_index/fairindex/csw/ResultType;"), (0, .class_ 61), (0, u "com/example/fair_index/fairindex/csw/ResultTypeNamesPinLaw"), (2, u "law"), (0, u "(I)Z")] 3

def k1m0 : Method := { name := "<init>", desc := "()V", sig := { parameters := [], returnType := none }, accessFlags := 1, code := none }
def k1c1 : Code := { maxStack := 3, maxLocals := 6, code := code, exceptionTable := #[], attributes := #[] }
def k1m1 : Method := { name := "law", desc := "(I)Z", sig := { parameters := [.int], returnType := some .boolean }, accessFlags := 9, code := some k1c1 }
/-- com/example/fair_index/fairindex/csw/ResultTypeNamesPinLaw -/
def k1 : Class := { plain "com/example/fair_index/fairindex/csw/ResultTypeNamesPinLaw" (some 0) with
  accessFlags := 49
  interfaces := #[]
  cf := some (fileOf pool1 60 #[] #[{ accessFlags := 1, nameIndex := 5, descriptorIndex := 6, attributes := #[] }, { accessFlags := 9, nameIndex := 64, descriptorIndex := 65, attributes := #[] }] 49 2 #[] #[])
  fields := #[]
  methods := #[k1m0, k1m1]
  instanceTypes := #[]
  staticTypes := #[]
  resolved := Array.replicate 69 none
  statics := none }

def pool2 : Array CpInfo := pool [(1, .class_ 2), (0, u "java/lang/constant/Constable"), (0, .class_ 4), (0, u "java/lang/Object")] 6

/-- java/lang/constant/Constable -/
def k2 : Class := { plain "java/lang/constant/Constable" (some 0) with
  accessFlags := 1537
  interfaces := #[]
  cf := some (fileOf pool2 1 #[] #[] 1537 3 #[] #[])
  fields := #[]
  methods := #[]
  instanceTypes := #[]
  staticTypes := #[]
  resolved := Array.replicate 11 none
  statics := none }

def pool3 : Array CpInfo := pool [(1, .class_ 2), (0, u "java/lang/Comparable"), (0, .class_ 4), (0, u "java/lang/Object")] 7

/-- java/lang/Comparable -/
def k3 : Class := { plain "java/lang/Comparable" (some 0) with
  accessFlags := 1537
  interfaces := #[]
  cf := some (fileOf pool3 1 #[] #[] 1537 3 #[] #[])
  fields := #[]
  methods := #[]
  instanceTypes := #[]
  staticTypes := #[]
  resolved := Array.replicate 12 none
  statics := none }

def pool4 : Array CpInfo := pool [(1, .class_ 2), (0, u "java/io/Serializable"), (0, .class_ 4), (0, u "java/lang/Object")] 2

/-- java/io/Serializable -/
def k4 : Class := { plain "java/io/Serializable" (some 0) with
  accessFlags := 1537
  interfaces := #[]
  cf := some (fileOf pool4 1 #[] #[] 1537 3 #[] #[])
  fields := #[]
  methods := #[]
  instanceTypes := #[]
  staticTypes := #[]
  resolved := Array.replicate 7 none
  statics := none }

def pool5 : Array CpInfo := pool [(2, .class_ 4), (1, u "java/lang/Enum"), (0, u "name"), (0, u "Ljava/lang/String;"), (2, u "ordinal"), (0, u "I"), (1, .class_ 14), (1, u "java/lang/Object"), (4, u "hash"), (86, .class_ 108), (1, u "java/lang/Enum$EnumDesc"), (2, .class_ 112), (0, u "java/lang/constant/Constable"), (0, .class_ 114), (0, u "java/lang/Comparable"), (0, .class_ 116), (0, u "java/io/Serializable")] 87

/-- java/lang/Enum -/
def k5 : Class := { plain "java/lang/Enum" (some 0) with
  accessFlags := 1057
  interfaces := #[2, 3, 4]
  cf := some (fileOf pool5 2 #[.nestMembers #[106]] #[] 1057 12 #[111, 113, 115] #[{ accessFlags := 18, nameIndex := 5, descriptorIndex := 6, attributes := #[] }, { accessFlags := 18, nameIndex := 9, descriptorIndex := 10, attributes := #[] }, { accessFlags := 2, nameIndex := 19, descriptorIndex := 10, attributes := #[] }])
  fields := #[{ name := "name", type := (.object "java/lang/String"), accessFlags := 18, slot := 0, constantValue := 0 }, { name := "ordinal", type := .int, accessFlags := 18, slot := 1, constantValue := 0 }, { name := "hash", type := .int, accessFlags := 2, slot := 2, constantValue := 0 }]
  methods := #[]
  instanceTypes := #[(.object "java/lang/String"), .int, .int]
  staticTypes := #[]
  resolved := Array.replicate 204 none
  statics := none }

def pool6 : Array CpInfo := pool [(1, .class_ 2), (0, u "com/example/fair_index/fairindex/csw/ResultType"), (2, u "HITS"), (0, u "Lcom/example/fair_index/fairindex/csw/ResultType;"), (2, u "RESULTS"), (2, u "VALIDATE"), (0, .fieldref 1 14), (0, .nameAndType 15 16), (0, u "$VALUES"), (0, u "[Lcom/example/fair_index/fairindex/csw/ResultType;"), (0, .methodref 18 19), (0, .class_ 16), (0, .nameAndType 20 21), (0, u "clone"), (0, u "()Ljava/lang/Object;"), (1, .class_ 25), (1, u "java/lang/Enum"), (4, u "<init>"), (1, .fieldref 1 33), (0, .nameAndType 34 35), (0, u "name"), (0, u "Ljava/lang/String;"), (0, .methodref 1 37), (0, .nameAndType 38 39), (0, u "values"), (0, u "()[Lcom/example/fair_index/fairindex/csw/ResultType;"), (0, .methodref 41 42), (0, .class_ 43), (0, .nameAndType 44 45), (0, u "java/lang/String"), (0, u "equals"), (0, u "(Ljava/lang/Object;)Z"), (0, .class_ 47), (0, u "java/util/ArrayList"), (0, .methodref 46 49), (0, .nameAndType 30 50), (0, u "()V"), (0, .interfaceMethodref 52 53), (0, .class_ 54), (0, .nameAndType 55 45), (0, u "java/util/List"), (0, u "add"), (17, u "(Ljava/lang/String;)Lcom/example/fair_index/fairindex/csw/ResultType;"), (3, u "named"), (1, u "names"), (0, u "()Ljava/util/List;"), (1, u "getName"), (0, u "()Ljava/lang/String;")] 4

def k6c0 : Code := { maxStack := 1, maxLocals := 0, code := prog_4_method_1_code, exceptionTable := #[], attributes := #[] }
def k6m0 : Method := { name := "values", desc := "()[Lcom/example/fair_index/fairindex/csw/ResultType;", sig := { parameters := [], returnType := some (.array (.object "com/example/fair_index/fairindex/csw/ResultType")) }, accessFlags := 9, code := some k6c0 }
def k6c1 : Code := { maxStack := 2, maxLocals := 5, code := prog_4_method_4_code, exceptionTable := #[], attributes := #[] }
def k6m1 : Method := { name := "named", desc := "(Ljava/lang/String;)Lcom/example/fair_index/fairindex/csw/ResultType;", sig := { parameters := [(.object "java/lang/String")], returnType := some (.object "com/example/fair_index/fairindex/csw/ResultType") }, accessFlags := 8, code := some k6c1 }
def k6c2 : Code := { maxStack := 2, maxLocals := 5, code := prog_4_method_5_code, exceptionTable := #[], attributes := #[] }
def k6m2 : Method := { name := "names", desc := "()Ljava/util/List;", sig := { parameters := [], returnType := some (.object "java/util/List") }, accessFlags := 8, code := some k6c2 }
def k6c3 : Code := { maxStack := 1, maxLocals := 1, code := prog_4_method_6_code, exceptionTable := #[], attributes := #[] }
def k6m3 : Method := { name := "getName", desc := "()Ljava/lang/String;", sig := { parameters := [], returnType := some (.object "java/lang/String") }, accessFlags := 0, code := some k6c3 }
/-- com/example/fair_index/fairindex/csw/ResultType -/
def k6 : Class := { plain "com/example/fair_index/fairindex/csw/ResultType" (some 5) with
  accessFlags := 16432
  interfaces := #[]
  cf := some (fileOf pool6 1 #[] #[{ accessFlags := 9, nameIndex := 38, descriptorIndex := 39, attributes := #[] }, { accessFlags := 8, nameIndex := 77, descriptorIndex := 73, attributes := #[] }, { accessFlags := 8, nameIndex := 79, descriptorIndex := 80, attributes := #[] }, { accessFlags := 0, nameIndex := 82, descriptorIndex := 83, attributes := #[] }] 16432 23 #[] #[{ accessFlags := 16409, nameIndex := 5, descriptorIndex := 6, attributes := #[] }, { accessFlags := 16409, nameIndex := 9, descriptorIndex := 6, attributes := #[] }, { accessFlags := 16409, nameIndex := 12, descriptorIndex := 6, attributes := #[] }, { accessFlags := 18, nameIndex := 34, descriptorIndex := 35, attributes := #[] }, { accessFlags := 4122, nameIndex := 15, descriptorIndex := 16, attributes := #[] }])
  fields := #[{ name := "HITS", type := (.object "com/example/fair_index/fairindex/csw/ResultType"), accessFlags := 16409, slot := 0, constantValue := 0 }, { name := "RESULTS", type := (.object "com/example/fair_index/fairindex/csw/ResultType"), accessFlags := 16409, slot := 1, constantValue := 0 }, { name := "VALIDATE", type := (.object "com/example/fair_index/fairindex/csw/ResultType"), accessFlags := 16409, slot := 2, constantValue := 0 }, { name := "name", type := (.object "java/lang/String"), accessFlags := 18, slot := 3, constantValue := 0 }, { name := "$VALUES", type := (.array (.object "com/example/fair_index/fairindex/csw/ResultType")), accessFlags := 4122, slot := 3, constantValue := 0 }]
  methods := #[k6m0, k6m1, k6m2, k6m3]
  instanceTypes := #[(.object "java/lang/String"), .int, .int, (.object "java/lang/String")]
  staticTypes := #[(.object "com/example/fair_index/fairindex/csw/ResultType"), (.object "com/example/fair_index/fairindex/csw/ResultType"), (.object "com/example/fair_index/fairindex/csw/ResultType"), (.array (.object "com/example/fair_index/fairindex/csw/ResultType"))]
  resolved := Array.replicate 88 none
  statics := some 0 }

def pool7 : Array CpInfo := pool [(8, .class_ 10), (1, u "java/lang/Iterable"), (24, .class_ 36), (0, u "java/lang/Object")] 25

/-- java/lang/Iterable -/
def k7 : Class := { plain "java/lang/Iterable" (some 0) with
  accessFlags := 1537
  interfaces := #[]
  cf := some (fileOf pool7 8 #[] #[] 1537 35 #[] #[])
  fields := #[]
  methods := #[]
  instanceTypes := #[]
  staticTypes := #[]
  resolved := Array.replicate 62 none
  statics := none }

def pool8 : Array CpInfo := pool [(10, .class_ 12), (1, u "java/util/Collection"), (47, .class_ 61), (0, u "java/lang/Object"), (0, .class_ 63), (0, u "java/lang/Iterable")] 51

/-- java/util/Collection -/
def k8 : Class := { plain "java/util/Collection" (some 0) with
  accessFlags := 1537
  interfaces := #[7]
  cf := some (fileOf pool8 10 #[] #[] 1537 60 #[62] #[])
  fields := #[]
  methods := #[]
  instanceTypes := #[]
  staticTypes := #[]
  resolved := Array.replicate 115 none
  statics := none }

def pool9 : Array CpInfo := pool [(1, .methodref 2 3), (0, .class_ 4), (0, .nameAndType 5 6), (0, u "java/lang/Object"), (0, u "<init>"), (0, u "()V"), (1, .class_ 10), (1, u "java/util/AbstractCollection"), (66, .class_ 78), (0, u "java/util/Collection")] 81

def k9c0 : Code := { maxStack := 1, maxLocals := 1, code := jdk_22_method_1_code, exceptionTable := #[], attributes := #[] }
def k9m0 : Method := { name := "<init>", desc := "()V", sig := { parameters := [], returnType := none }, accessFlags := 4, code := some k9c0 }
/-- java/util/AbstractCollection -/
def k9 : Class := { plain "java/util/AbstractCollection" (some 0) with
  accessFlags := 1057
  interfaces := #[8]
  cf := some (fileOf pool9 8 #[] #[{ accessFlags := 4, nameIndex := 5, descriptorIndex := 6, attributes := #[] }] 1057 2 #[77] #[])
  fields := #[]
  methods := #[k9m0]
  instanceTypes := #[]
  staticTypes := #[]
  resolved := Array.replicate 160 none
  statics := none }

def pool10 : Array CpInfo := pool [(8, .class_ 10), (1, u "java/util/SequencedCollection"), (15, .class_ 27), (0, u "java/lang/Object"), (0, .class_ 29), (0, u "java/util/Collection")] 27

/-- java/util/SequencedCollection -/
def k10 : Class := { plain "java/util/SequencedCollection" (some 0) with
  accessFlags := 1537
  interfaces := #[8]
  cf := some (fileOf pool10 8 #[] #[] 1537 26 #[28] #[])
  fields := #[]
  methods := #[]
  instanceTypes := #[]
  staticTypes := #[]
  resolved := Array.replicate 57 none
  statics := none }

def pool11 : Array CpInfo := pool [(8, .class_ 10), (1, u "java/util/List"), (49, u "add"), (3, u "(Ljava/lang/Object;)Z"), (10, u "get"), (0, u "(I)Ljava/lang/Object;"), (2, u "size"), (0, u "()I"), (22, .class_ 104), (0, u "java/lang/Object"), (15, .class_ 121), (0, u "java/util/SequencedCollection")] 129

def k11m0 : Method := { name := "size", desc := "()I", sig := { parameters := [], returnType := some .int }, accessFlags := 1025, code := none }
def k11m1 : Method := { name := "add", desc := "(Ljava/lang/Object;)Z", sig := { parameters := [(.object "java/lang/Object")], returnType := some .boolean }, accessFlags := 1025, code := none }
def k11m2 : Method := { name := "get", desc := "(I)Ljava/lang/Object;", sig := { parameters := [.int], returnType := some (.object "java/lang/Object") }, accessFlags := 1025, code := none }
/-- java/util/List -/
def k11 : Class := { plain "java/util/List" (some 0) with
  accessFlags := 1537
  interfaces := #[10]
  cf := some (fileOf pool11 8 #[] #[{ accessFlags := 1025, nameIndex := 79, descriptorIndex := 80, attributes := #[] }, { accessFlags := 1025, nameIndex := 60, descriptorIndex := 64, attributes := #[] }, { accessFlags := 1025, nameIndex := 75, descriptorIndex := 76, attributes := #[] }] 1537 103 #[120] #[])
  fields := #[]
  methods := #[k11m0, k11m1, k11m2]
  instanceTypes := #[]
  staticTypes := #[]
  resolved := Array.replicate 251 none
  statics := none }

def pool12 : Array CpInfo := pool [(1, .methodref 2 3), (0, .class_ 4), (0, .nameAndType 5 6), (0, u "java/util/AbstractCollection"), (0, u "<init>"), (0, u "()V"), (0, .fieldref 8 9), (0, .class_ 10), (0, .nameAndType 11 12), (0, u "java/util/AbstractList"), (0, u "modCount"), (0, u "I"), (64, .class_ 78), (0, u "java/util/AbstractList$Itr"), (3, .class_ 83), (0, u "java/util/AbstractList$ListItr"), (9, .class_ 94), (0, u "java/util/AbstractList$RandomAccessSubList"), (3, .class_ 99), (0, u "java/util/AbstractList$SubList"), (33, .class_ 134), (0, u "java/util/List"), (73, .class_ 209), (0, u "java/util/AbstractList$SubList$1"), (0, .class_ 211), (0, u "java/util/AbstractList$RandomAccessSpliterator")] 6

def k12c0 : Code := { maxStack := 2, maxLocals := 1, code := jdk_39_method_1_code, exceptionTable := #[], attributes := #[] }
def k12m0 : Method := { name := "<init>", desc := "()V", sig := { parameters := [], returnType := none }, accessFlags := 4, code := some k12c0 }
/-- java/util/AbstractList -/
def k12 : Class := { plain "java/util/AbstractList" (some 9) with
  accessFlags := 1057
  interfaces := #[11]
  cf := some (fileOf pool12 8 #[.nestMembers #[93, 98, 208, 210, 82, 77]] #[{ accessFlags := 4, nameIndex := 5, descriptorIndex := 6, attributes := #[] }] 1057 2 #[133] #[{ accessFlags := 132, nameIndex := 11, descriptorIndex := 12, attributes := #[] }])
  fields := #[{ name := "modCount", type := .int, accessFlags := 132, slot := 0, constantValue := 0 }]
  methods := #[k12m0]
  instanceTypes := #[.int]
  staticTypes := #[]
  resolved := Array.replicate 218 none
  statics := none }

def pool13 : Array CpInfo := pool [(1, .class_ 2), (0, u "java/util/RandomAccess"), (0, .class_ 4), (0, u "java/lang/Object")] 2

/-- java/util/RandomAccess -/
def k13 : Class := { plain "java/util/RandomAccess" (some 0) with
  accessFlags := 1537
  interfaces := #[]
  cf := some (fileOf pool13 1 #[] #[] 1537 3 #[] #[])
  fields := #[]
  methods := #[]
  instanceTypes := #[]
  staticTypes := #[]
  resolved := Array.replicate 7 none
  statics := none }

def pool14 : Array CpInfo := pool [(1, .class_ 2), (0, u "java/lang/Cloneable"), (0, .class_ 4), (0, u "java/lang/Object")] 2

/-- java/lang/Cloneable -/
def k14 : Class := { plain "java/lang/Cloneable" (some 0) with
  accessFlags := 1537
  interfaces := #[]
  cf := some (fileOf pool14 1 #[] #[] 1537 3 #[] #[])
  fields := #[]
  methods := #[]
  instanceTypes := #[]
  staticTypes := #[]
  resolved := Array.replicate 7 none
  statics := none }

def pool15 : Array CpInfo := pool [(1, .methodref 2 3), (0, .class_ 4), (0, .nameAndType 5 6), (0, u "java/util/AbstractList"), (0, u "<init>"), (0, u "()V"), (0, .class_ 8), (0, u "java/lang/Object"), (0, .fieldref 10 11), (0, .class_ 12), (0, .nameAndType 13 14), (0, u "java/util/ArrayList"), (0, u "elementData"), (0, u "[Ljava/lang/Object;"), (2, u "EMPTY_ELEMENTDATA"), (21, .fieldref 10 40), (0, .nameAndType 41 14), (0, u "DEFAULTCAPACITY_EMPTY_ELEMENTDATA"), (5, u "()[Ljava/lang/Object;"), (0, .fieldref 10 49), (0, .nameAndType 50 51), (0, u "size"), (0, u "I"), (11, .fieldref 10 64), (0, .nameAndType 65 51), (0, u "modCount"), (3, .methodref 10 70), (0, .nameAndType 71 72), (0, u "grow"), (0, u "(I)[Ljava/lang/Object;"), (6, .methodref 80 81), (0, .class_ 82), (0, .nameAndType 83 84), (0, u "java/lang/Math"), (0, u "max"), (0, u "(II)I"), (11, u "(Ljava/lang/Object;)Z"), (21, .methodref 119 120), (0, .class_ 121), (0, .nameAndType 122 84), (0, u "java/util/Objects"), (0, u "checkIndex"), (0, .methodref 10 124), (0, .nameAndType 13 125), (0, u "(I)Ljava/lang/Object;"), (3, .methodref 10 130), (0, .nameAndType 71 47), (0, .methodref 10 132), (0, .nameAndType 133 134), (0, u "add"), (0, u "(Ljava/lang/Object;[Ljava/lang/Object;I)V"), (13, .class_ 149), (0, u "java/util/List"), (36, u "()I"), (75, .class_ 263), (0, u "java/util/ArrayList$ListItr"), (3, .class_ 268), (0, u "java/util/ArrayList$Itr"), (7, .class_ 277), (0, u "java/util/ArrayList$SubList"), (12, .class_ 291), (0, u "java/util/ArrayList$ArrayListSpliterator"), (37, .class_ 330), (0, u "java/util/RandomAccess"), (0, .class_ 332), (0, u "java/lang/Cloneable"), (0, .class_ 334), (0, u "java/io/Serializable"), (0, u "serialVersionUID"), (0, u "J"), (3, u "DEFAULT_CAPACITY"), (40, u "get"), (118, .class_ 501), (0, u "java/util/ArrayList$SubList$2"), (0, .class_ 503), (0, u "java/util/ArrayList$SubList$1")] 5

def k15c0 : Code := { maxStack := 2, maxLocals := 1, code := jdk_38_method_2_code, exceptionTable := #[], attributes := #[] }
def k15m0 : Method := { name := "<init>", desc := "()V", sig := { parameters := [], returnType := none }, accessFlags := 1, code := some k15c0 }
def k15c1 : Code := { maxStack := 4, maxLocals := 4, code := jdk_38_method_6_code, exceptionTable := #[], attributes := #[] }
def k15m1 : Method := { name := "grow", desc := "(I)[Ljava/lang/Object;", sig := { parameters := [.int], returnType := some (.array (.object "java/lang/Object")) }, accessFlags := 2, code := some k15c1 }
def k15c2 : Code := { maxStack := 3, maxLocals := 1, code := jdk_38_method_7_code, exceptionTable := #[], attributes := #[] }
def k15m2 : Method := { name := "grow", desc := "()[Ljava/lang/Object;", sig := { parameters := [], returnType := some (.array (.object "java/lang/Object")) }, accessFlags := 2, code := some k15c2 }
def k15c3 : Code := { maxStack := 1, maxLocals := 1, code := jdk_38_method_8_code, exceptionTable := #[], attributes := #[] }
def k15m3 : Method := { name := "size", desc := "()I", sig := { parameters := [], returnType := some .int }, accessFlags := 1, code := some k15c3 }
def k15c4 : Code := { maxStack := 2, maxLocals := 2, code := jdk_38_method_18_code, exceptionTable := #[], attributes := #[] }
def k15m4 : Method := { name := "elementData", desc := "(I)Ljava/lang/Object;", sig := { parameters := [.int], returnType := some (.object "java/lang/Object") }, accessFlags := 0, code := some k15c4 }
def k15c5 : Code := { maxStack := 2, maxLocals := 2, code := jdk_38_method_20_code, exceptionTable := #[], attributes := #[] }
def k15m5 : Method := { name := "get", desc := "(I)Ljava/lang/Object;", sig := { parameters := [.int], returnType := some (.object "java/lang/Object") }, accessFlags := 1, code := some k15c5 }
def k15c6 : Code := { maxStack := 3, maxLocals := 4, code := jdk_38_method_24_code, exceptionTable := #[], attributes := #[] }
def k15m6 : Method := { name := "add", desc := "(Ljava/lang/Object;[Ljava/lang/Object;I)V", sig := { parameters := [(.object "java/lang/Object"), (.array (.object "java/lang/Object")), .int], returnType := none }, accessFlags := 2, code := some k15c6 }
def k15c7 : Code := { maxStack := 4, maxLocals := 2, code := jdk_38_method_25_code, exceptionTable := #[], attributes := #[] }
def k15m7 : Method := { name := "add", desc := "(Ljava/lang/Object;)Z", sig := { parameters := [(.object "java/lang/Object")], returnType := some .boolean }, accessFlags := 1, code := some k15c7 }
/-- java/util/ArrayList -/
def k15 : Class := { plain "java/util/ArrayList" (some 12) with
  accessFlags := 33
  interfaces := #[11, 13, 14, 4]
  cf := some (fileOf pool15 10 #[.nestMembers #[290, 276, 500, 502, 262, 267]] #[{ accessFlags := 1, nameIndex := 5, descriptorIndex := 6, attributes := #[] }, { accessFlags := 2, nameIndex := 71, descriptorIndex := 72, attributes := #[] }, { accessFlags := 2, nameIndex := 71, descriptorIndex := 47, attributes := #[] }, { accessFlags := 1, nameIndex := 50, descriptorIndex := 186, attributes := #[] }, { accessFlags := 0, nameIndex := 13, descriptorIndex := 125, attributes := #[] }, { accessFlags := 1, nameIndex := 381, descriptorIndex := 125, attributes := #[] }, { accessFlags := 2, nameIndex := 133, descriptorIndex := 134, attributes := #[] }, { accessFlags := 1, nameIndex := 133, descriptorIndex := 96, attributes := #[] }] 33 2 #[148, 329, 331, 333] #[{ accessFlags := 26, nameIndex := 335, descriptorIndex := 336, attributes := #[] }, { accessFlags := 26, nameIndex := 340, descriptorIndex := 51, attributes := #[] }, { accessFlags := 26, nameIndex := 17, descriptorIndex := 14, attributes := #[] }, { accessFlags := 26, nameIndex := 41, descriptorIndex := 14, attributes := #[] }, { accessFlags := 128, nameIndex := 13, descriptorIndex := 14, attributes := #[] }, { accessFlags := 2, nameIndex := 50, descriptorIndex := 51, attributes := #[] }])
  fields := #[{ name := "serialVersionUID", type := .long, accessFlags := 26, slot := 0, constantValue := 0 }, { name := "DEFAULT_CAPACITY", type := .int, accessFlags := 26, slot := 1, constantValue := 0 }, { name := "EMPTY_ELEMENTDATA", type := (.array (.object "java/lang/Object")), accessFlags := 26, slot := 2, constantValue := 0 }, { name := "DEFAULTCAPACITY_EMPTY_ELEMENTDATA", type := (.array (.object "java/lang/Object")), accessFlags := 26, slot := 3, constantValue := 0 }, { name := "elementData", type := (.array (.object "java/lang/Object")), accessFlags := 128, slot := 1, constantValue := 0 }, { name := "size", type := .int, accessFlags := 2, slot := 2, constantValue := 0 }]
  methods := #[k15m0, k15m1, k15m2, k15m3, k15m4, k15m5, k15m6, k15m7]
  instanceTypes := #[.int, (.array (.object "java/lang/Object")), .int]
  staticTypes := #[.long, .int, (.array (.object "java/lang/Object")), (.array (.object "java/lang/Object"))]
  resolved := Array.replicate 509 none
  statics := some 1 }

def pool16 : Array CpInfo := pool [(1, .class_ 2), (0, u "java/lang/Math"), (1, .class_ 6), (1, u "java/lang/Object"), (0, u "<init>"), (0, u "()V"), (89, .class_ 100), (1, u "java/lang/Math$RandomNumberGeneratorHolder"), (71, u "negativeZeroFloatBits"), (0, u "J"), (2, u "negativeZeroDoubleBits"), (21, u "max"), (46, u "$assertionsDisabled"), (0, u "Z"), (88, u "(II)I"), (2, u "twoToTheDoubleScaleDown"), (0, u "D"), (4, u "twoToTheDoubleScaleUp"), (9, u "E"), (3, u "PI"), (2, u "TAU"), (2, u "DEGREES_TO_RADIANS"), (0, u "RADIANS_TO_DEGREES")] 94

def k16m0 : Method := { name := "<init>", desc := "()V", sig := { parameters := [], returnType := none }, accessFlags := 2, code := none }
def k16c1 : Code := { maxStack := 2, maxLocals := 2, code := jdk_29_method_65_code, exceptionTable := #[], attributes := #[] }
def k16m1 : Method := { name := "max", desc := "(II)I", sig := { parameters := [.int, .int], returnType := some .int }, accessFlags := 9, code := some k16c1 }
/-- java/lang/Math -/
def k16 : Class := { plain "java/lang/Math" (some 0) with
  accessFlags := 49
  interfaces := #[]
  cf := some (fileOf pool16 1 #[.nestMembers #[98]] #[{ accessFlags := 2, nameIndex := 7, descriptorIndex := 8, attributes := #[] }, { accessFlags := 9, nameIndex := 198, descriptorIndex := 335, attributes := #[] }] 49 4 #[] #[{ accessFlags := 25, nameIndex := 354, descriptorIndex := 339, attributes := #[] }, { accessFlags := 25, nameIndex := 358, descriptorIndex := 339, attributes := #[] }, { accessFlags := 25, nameIndex := 361, descriptorIndex := 339, attributes := #[] }, { accessFlags := 26, nameIndex := 364, descriptorIndex := 339, attributes := #[] }, { accessFlags := 26, nameIndex := 365, descriptorIndex := 339, attributes := #[] }, { accessFlags := 26, nameIndex := 172, descriptorIndex := 173, attributes := #[] }, { accessFlags := 26, nameIndex := 176, descriptorIndex := 173, attributes := #[] }, { accessFlags := 8, nameIndex := 344, descriptorIndex := 339, attributes := #[] }, { accessFlags := 8, nameIndex := 338, descriptorIndex := 339, attributes := #[] }, { accessFlags := 4120, nameIndex := 245, descriptorIndex := 246, attributes := #[] }])
  fields := #[{ name := "E", type := .double, accessFlags := 25, slot := 0, constantValue := 0 }, { name := "PI", type := .double, accessFlags := 25, slot := 1, constantValue := 0 }, { name := "TAU", type := .double, accessFlags := 25, slot := 2, constantValue := 0 }, { name := "DEGREES_TO_RADIANS", type := .double, accessFlags := 26, slot := 3, constantValue := 0 }, { name := "RADIANS_TO_DEGREES", type := .double, accessFlags := 26, slot := 4, constantValue := 0 }, { name := "negativeZeroFloatBits", type := .long, accessFlags := 26, slot := 5, constantValue := 0 }, { name := "negativeZeroDoubleBits", type := .long, accessFlags := 26, slot := 6, constantValue := 0 }, { name := "twoToTheDoubleScaleUp", type := .double, accessFlags := 8, slot := 7, constantValue := 0 }, { name := "twoToTheDoubleScaleDown", type := .double, accessFlags := 8, slot := 8, constantValue := 0 }, { name := "$assertionsDisabled", type := .boolean, accessFlags := 4120, slot := 9, constantValue := 0 }]
  methods := #[k16m0, k16m1]
  instanceTypes := #[]
  staticTypes := #[.double, .double, .double, .double, .double, .long, .long, .double, .double, .boolean]
  resolved := Array.replicate 460 none
  statics := none }

def pool17 : Array CpInfo := pool [(2, .class_ 4), (1, u "java/lang/CharSequence"), (42, .class_ 48), (0, u "java/lang/CharSequence$1CodePointIterator"), (10, .class_ 60), (0, u "java/lang/CharSequence$1CharIterator"), (5, .class_ 67), (0, u "java/lang/Object")] 63

/-- java/lang/CharSequence -/
def k17 : Class := { plain "java/lang/CharSequence" (some 0) with
  accessFlags := 1537
  interfaces := #[]
  cf := some (fileOf pool17 2 #[.nestMembers #[47, 59]] #[] 1537 66 #[] #[])
  fields := #[]
  methods := #[]
  instanceTypes := #[]
  staticTypes := #[]
  resolved := Array.replicate 131 none
  statics := none }

def pool18 : Array CpInfo := pool [(1, .class_ 2), (0, u "java/lang/constant/ConstantDesc"), (0, .class_ 4), (0, u "java/lang/Object")] 32

/-- java/lang/constant/ConstantDesc -/
def k18 : Class := { plain "java/lang/constant/ConstantDesc" (some 0) with
  accessFlags := 1537
  interfaces := #[]
  cf := some (fileOf pool18 1 #[] #[] 1537 3 #[] #[])
  fields := #[]
  methods := #[]
  instanceTypes := #[]
  staticTypes := #[]
  resolved := Array.replicate 37 none
  statics := none }

def pool19 : Array CpInfo := pool [(1, .methodref 2 3), (0, .class_ 4), (0, .nameAndType 5 6), (0, u "java/lang/Object"), (0, u "<init>"), (0, u "()V"), (2, .fieldref 10 11), (0, .class_ 12), (0, .nameAndType 13 14), (0, u "java/lang/String"), (0, u "value"), (0, u "[B"), (0, .fieldref 10 16), (0, .nameAndType 17 18), (0, u "coder"), (0, u "B"), (2, u "hash"), (0, u "I"), (2, u "hashIsZero"), (0, u "Z"), (11, .fieldref 10 39), (0, .nameAndType 40 26), (0, u "COMPACT_STRINGS"), (12, u "toBytes"), (53, .class_ 109), (1, u "java/lang/StringLatin1"), (99, .methodref 10 210), (0, .nameAndType 5 211), (0, u "([BB)V"), (157, u "(C)Z"), (171, .methodref 107 542), (0, .nameAndType 543 544), (0, u "equals"), (0, u "([B[B)Z"), (28, u "(Ljava/lang/Object;)Z"), (1, .class_ 576), (0, u "java/lang/CharSequence"), (22, u "CASE_INSENSITIVE_ORDER"), (0, u "Ljava/util/Comparator;"), (181, u "valueOf"), (0, u "(C)Ljava/lang/String;"), (231, .methodref 107 1016), (0, .nameAndType 1017 369), (0, u "canEncode"), (0, .methodref 107 1019), (0, .nameAndType 53 1020), (0, u "(C)[B"), (80, u "serialPersistentFields"), (0, u "[Ljava/io/ObjectStreamField;"), (0, .class_ 1104), (0, u "java/lang/String$CaseInsensitiveComparator"), (1, .class_ 1107), (0, u "java/io/Serializable"), (0, .class_ 1109), (0, u "java/lang/Comparable"), (0, .class_ 1111), (0, u "java/lang/constant/Constable"), (0, .class_ 1113), (0, u "java/lang/constant/ConstantDesc"), (2, u "serialVersionUID"), (0, u "J"), (3, u "REPL"), (0, u "C"), (2, u "LATIN1"), (1, u "UTF16")] 323

def k19m0 : Method := { name := "<init>", desc := "()V", sig := { parameters := [], returnType := none }, accessFlags := 1, code := none }
def k19c1 : Code := { maxStack := 2, maxLocals := 3, code := jdk_42_method_66_code, exceptionTable := #[], attributes := #[] }
def k19m1 : Method := { name := "equals", desc := "(Ljava/lang/Object;)Z", sig := { parameters := [(.object "java/lang/Object")], returnType := some .boolean }, accessFlags := 1, code := some k19c1 }
def k19c2 : Code := { maxStack := 4, maxLocals := 1, code := jdk_42_method_139_code, exceptionTable := #[], attributes := #[] }
def k19m2 : Method := { name := "valueOf", desc := "(C)Ljava/lang/String;", sig := { parameters := [.char], returnType := some (.object "java/lang/String") }, accessFlags := 9, code := some k19c2 }
def k19c3 : Code := { maxStack := 2, maxLocals := 3, code := jdk_42_method_151_code, exceptionTable := #[], attributes := #[] }
def k19m3 : Method := { name := "<init>", desc := "([BB)V", sig := { parameters := [(.array .byte), .byte], returnType := none }, accessFlags := 0, code := some k19c3 }
/-- java/lang/String -/
def k19 : Class := { plain "java/lang/String" (some 0) with
  accessFlags := 49
  interfaces := #[4, 3, 17, 2, 18]
  cf := some (fileOf pool19 10 #[.nestMembers #[1103]] #[{ accessFlags := 1, nameIndex := 5, descriptorIndex := 6, attributes := #[] }, { accessFlags := 1, nameIndex := 543, descriptorIndex := 573, attributes := #[] }, { accessFlags := 9, nameIndex := 782, descriptorIndex := 783, attributes := #[] }, { accessFlags := 0, nameIndex := 5, descriptorIndex := 211, attributes := #[] }] 49 2 #[1106, 1108, 575, 1110, 1112] #[{ accessFlags := 18, nameIndex := 13, descriptorIndex := 14, attributes := #[] }, { accessFlags := 18, nameIndex := 17, descriptorIndex := 18, attributes := #[] }, { accessFlags := 2, nameIndex := 21, descriptorIndex := 22, attributes := #[] }, { accessFlags := 2, nameIndex := 25, descriptorIndex := 26, attributes := #[] }, { accessFlags := 26, nameIndex := 1116, descriptorIndex := 1117, attributes := #[] }, { accessFlags := 24, nameIndex := 40, descriptorIndex := 26, attributes := #[] }, { accessFlags := 26, nameIndex := 1101, descriptorIndex := 1102, attributes := #[] }, { accessFlags := 26, nameIndex := 1121, descriptorIndex := 1122, attributes := #[] }, { accessFlags := 25, nameIndex := 599, descriptorIndex := 600, attributes := #[] }, { accessFlags := 24, nameIndex := 1125, descriptorIndex := 18, attributes := #[] }, { accessFlags := 24, nameIndex := 1127, descriptorIndex := 18, attributes := #[] }])
  fields := #[{ name := "value", type := (.array .byte), accessFlags := 18, slot := 0, constantValue := 0 }, { name := "coder", type := .byte, accessFlags := 18, slot := 1, constantValue := 0 }, { name := "hash", type := .int, accessFlags := 2, slot := 2, constantValue := 0 }, { name := "hashIsZero", type := .boolean, accessFlags := 2, slot := 3, constantValue := 0 }, { name := "serialVersionUID", type := .long, accessFlags := 26, slot := 0, constantValue := 0 }, { name := "COMPACT_STRINGS", type := .boolean, accessFlags := 24, slot := 1, constantValue := 0 }, { name := "serialPersistentFields", type := (.array (.object "java/io/ObjectStreamField")), accessFlags := 26, slot := 2, constantValue := 0 }, { name := "REPL", type := .char, accessFlags := 26, slot := 3, constantValue := 0 }, { name := "CASE_INSENSITIVE_ORDER", type := (.object "java/util/Comparator"), accessFlags := 25, slot := 4, constantValue := 0 }, { name := "LATIN1", type := .byte, accessFlags := 24, slot := 5, constantValue := 0 }, { name := "UTF16", type := .byte, accessFlags := 24, slot := 6, constantValue := 0 }]
  methods := #[k19m0, k19m1, k19m2, k19m3]
  instanceTypes := #[(.array .byte), .byte, .int, .boolean]
  staticTypes := #[.long, .boolean, (.array (.object "java/io/ObjectStreamField")), .char, (.object "java/util/Comparator"), .byte, .byte]
  resolved := Array.replicate 1451 none
  statics := some 2 }

def pool20 : Array CpInfo := pool [(4, .class_ 6), (1, u "java/lang/Object"), (0, u "<init>"), (0, u "()V"), (5, .class_ 16), (1, u "java/lang/StringLatin1"), (73, u "canEncode"), (14, u "(C)Z"), (15, u "$assertionsDisabled"), (0, u "Z"), (98, .class_ 223), (1, u "java/lang/StringLatin1$LinesSpliterator"), (57, u "equals"), (0, u "([B[B)Z"), (97, u "toBytes"), (1, u "(C)[B"), (7, .class_ 391), (0, u "java/lang/StringLatin1$CharsSpliterator")] 3

def k20m0 : Method := { name := "<init>", desc := "()V", sig := { parameters := [], returnType := none }, accessFlags := 0, code := none }
def k20c1 : Code := { maxStack := 2, maxLocals := 1, code := jdk_43_method_3_code, exceptionTable := #[], attributes := #[] }
def k20m1 : Method := { name := "canEncode", desc := "(C)Z", sig := { parameters := [.char], returnType := some .boolean }, accessFlags := 9, code := some k20c1 }
def k20c2 : Code := { maxStack := 3, maxLocals := 3, code := jdk_43_method_13_code, exceptionTable := #[], attributes := #[] }
def k20m2 : Method := { name := "equals", desc := "([B[B)Z", sig := { parameters := [(.array .byte), (.array .byte)], returnType := some .boolean }, accessFlags := 9, code := some k20c2 }
def k20c3 : Code := { maxStack := 4, maxLocals := 1, code := jdk_43_method_46_code, exceptionTable := #[], attributes := #[] }
def k20m3 : Method := { name := "toBytes", desc := "(C)[B", sig := { parameters := [.char], returnType := some (.array .byte) }, accessFlags := 9, code := some k20c3 }
/-- java/lang/StringLatin1 -/
def k20 : Class := { plain "java/lang/StringLatin1" (some 0) with
  accessFlags := 48
  interfaces := #[]
  cf := some (fileOf pool20 14 #[.nestMembers #[390, 221]] #[{ accessFlags := 0, nameIndex := 7, descriptorIndex := 8, attributes := #[] }, { accessFlags := 9, nameIndex := 90, descriptorIndex := 105, attributes := #[] }, { accessFlags := 9, nameIndex := 281, descriptorIndex := 282, attributes := #[] }, { accessFlags := 9, nameIndex := 380, descriptorIndex := 382, attributes := #[] }] 48 4 #[] #[{ accessFlags := 4120, nameIndex := 121, descriptorIndex := 122, attributes := #[] }])
  fields := #[{ name := "$assertionsDisabled", type := .boolean, accessFlags := 4120, slot := 0, constantValue := 0 }]
  methods := #[k20m0, k20m1, k20m2, k20m3]
  instanceTypes := #[]
  staticTypes := #[.boolean]
  resolved := Array.replicate 395 none
  statics := none }

def pool21 : Array CpInfo := pool [(2, .class_ 4), (1, u "java/lang/Object"), (0, u "<init>"), (0, u "()V"), (35, .class_ 44), (1, u "java/util/Objects"), (60, .methodref 106 107), (0, .class_ 108), (0, .nameAndType 109 110), (0, u "jdk/internal/util/Preconditions"), (0, u "checkIndex"), (0, u "(IILjava/util/function/BiFunction;)I"), (60, u "(II)I")] 12

def k21m0 : Method := { name := "<init>", desc := "()V", sig := { parameters := [], returnType := none }, accessFlags := 2, code := none }
def k21c1 : Code := { maxStack := 3, maxLocals := 2, code := jdk_31_method_17_code, exceptionTable := #[], attributes := #[] }
def k21m1 : Method := { name := "checkIndex", desc := "(II)I", sig := { parameters := [.int, .int], returnType := some .int }, accessFlags := 9, code := some k21c1 }
/-- java/util/Objects -/
def k21 : Class := { plain "java/util/Objects" (some 0) with
  accessFlags := 49
  interfaces := #[]
  cf := some (fileOf pool21 42 #[] #[{ accessFlags := 2, nameIndex := 5, descriptorIndex := 6, attributes := #[] }, { accessFlags := 9, nameIndex := 109, descriptorIndex := 171, attributes := #[] }] 49 2 #[] #[])
  fields := #[]
  methods := #[k21m0, k21m1]
  instanceTypes := #[]
  staticTypes := #[]
  resolved := Array.replicate 184 none
  statics := none }

def pool22 : Array CpInfo := pool [(2, .class_ 4), (1, u "java/lang/Object"), (0, u "<init>"), (0, u "()V"), (17, .class_ 26), (1, u "jdk/internal/util/Preconditions"), (6, u "checkIndex"), (21, .class_ 56), (0, u "jdk/internal/util/Preconditions$4"), (57, .class_ 115), (0, u "jdk/internal/util/Preconditions$1"), (7, u "SIOOBE_FORMATTER"), (0, u "Ljava/util/function/BiFunction;"), (0, .class_ 126), (0, u "jdk/internal/util/Preconditions$2"), (3, u "AIOOBE_FORMATTER"), (0, .class_ 132), (0, u "jdk/internal/util/Preconditions$3"), (3, u "IOOBE_FORMATTER"), (41, u "(IILjava/util/function/BiFunction;)I")] 15

def k22m0 : Method := { name := "<init>", desc := "()V", sig := { parameters := [], returnType := none }, accessFlags := 1, code := none }
def k22c1 : Code := { maxStack := 3, maxLocals := 3, code := jdk_41_method_11_code, exceptionTable := #[], attributes := #[] }
def k22m1 : Method := { name := "checkIndex", desc := "(IILjava/util/function/BiFunction;)I", sig := { parameters := [.int, .int, (.object "java/util/function/BiFunction")], returnType := some .int }, accessFlags := 9, code := some k22c1 }
/-- jdk/internal/util/Preconditions -/
def k22 : Class := { plain "jdk/internal/util/Preconditions" (some 0) with
  accessFlags := 33
  interfaces := #[]
  cf := some (fileOf pool22 24 #[.nestMembers #[55, 131, 125, 114]] #[{ accessFlags := 1, nameIndex := 5, descriptorIndex := 6, attributes := #[] }, { accessFlags := 9, nameIndex := 33, descriptorIndex := 178, attributes := #[] }] 33 2 #[] #[{ accessFlags := 25, nameIndex := 123, descriptorIndex := 124, attributes := #[] }, { accessFlags := 25, nameIndex := 130, descriptorIndex := 124, attributes := #[] }, { accessFlags := 25, nameIndex := 136, descriptorIndex := 124, attributes := #[] }])
  fields := #[{ name := "SIOOBE_FORMATTER", type := (.object "java/util/function/BiFunction"), accessFlags := 25, slot := 0, constantValue := 0 }, { name := "AIOOBE_FORMATTER", type := (.object "java/util/function/BiFunction"), accessFlags := 25, slot := 1, constantValue := 0 }, { name := "IOOBE_FORMATTER", type := (.object "java/util/function/BiFunction"), accessFlags := 25, slot := 2, constantValue := 0 }]
  methods := #[k22m0, k22m1]
  instanceTypes := #[]
  staticTypes := #[(.object "java/util/function/BiFunction"), (.object "java/util/function/BiFunction"), (.object "java/util/function/BiFunction")]
  resolved := Array.replicate 194 none
  statics := some 3 }

def pool23 : Array CpInfo := pool [(9, u "<init>"), (6, .class_ 18), (1, u "java/lang/Object"), (0, u "()V"), (1, .class_ 23), (1, u "jdk/internal/util/ArraysSupport"), (0, u "LOG2_ARRAY_LONG_INDEX_SCALE"), (0, u "I"), (2, u "U"), (0, u "Ljdk/internal/misc/Unsafe;"), (8, u "BIG_ENDIAN"), (0, u "Z"), (8, u "LOG2_BYTE_BIT_SIZE"), (4, u "LOG2_ARRAY_INT_INDEX_SCALE"), (54, u "JLA"), (0, u "Ljdk/internal/access/JavaLangAccess;"), (11, u "LOG2_ARRAY_BOOLEAN_INDEX_SCALE"), (9, u "LOG2_ARRAY_BYTE_INDEX_SCALE"), (5, u "LOG2_ARRAY_CHAR_INDEX_SCALE"), (5, u "LOG2_ARRAY_SHORT_INDEX_SCALE"), (18, u "LOG2_ARRAY_FLOAT_INDEX_SCALE"), (24, u "LOG2_ARRAY_DOUBLE_INDEX_SCALE"), (89, u "T_BOOLEAN"), (2, u "T_CHAR"), (1, u "T_FLOAT"), (1, u "T_DOUBLE"), (1, u "T_BYTE"), (1, u "T_SHORT"), (1, u "T_INT"), (1, u "T_LONG"), (1, u "SOFT_MAX_ARRAY_LENGTH")] 83

def k23m0 : Method := { name := "<init>", desc := "()V", sig := { parameters := [], returnType := none }, accessFlags := 2, code := none }
/-- jdk/internal/util/ArraysSupport -/
def k23 : Class := { plain "jdk/internal/util/ArraysSupport" (some 0) with
  accessFlags := 33
  interfaces := #[]
  cf := some (fileOf pool23 21 #[] #[{ accessFlags := 2, nameIndex := 9, descriptorIndex := 19, attributes := #[] }] 33 16 #[] #[{ accessFlags := 24, nameIndex := 28, descriptorIndex := 29, attributes := #[] }, { accessFlags := 26, nameIndex := 38, descriptorIndex := 39, attributes := #[] }, { accessFlags := 25, nameIndex := 121, descriptorIndex := 25, attributes := #[] }, { accessFlags := 25, nameIndex := 131, descriptorIndex := 25, attributes := #[] }, { accessFlags := 25, nameIndex := 137, descriptorIndex := 25, attributes := #[] }, { accessFlags := 25, nameIndex := 143, descriptorIndex := 25, attributes := #[] }, { accessFlags := 25, nameIndex := 53, descriptorIndex := 25, attributes := #[] }, { accessFlags := 25, nameIndex := 24, descriptorIndex := 25, attributes := #[] }, { accessFlags := 25, nameIndex := 162, descriptorIndex := 25, attributes := #[] }, { accessFlags := 25, nameIndex := 187, descriptorIndex := 25, attributes := #[] }, { accessFlags := 26, nameIndex := 48, descriptorIndex := 25, attributes := #[] }, { accessFlags := 25, nameIndex := 277, descriptorIndex := 25, attributes := #[] }, { accessFlags := 25, nameIndex := 280, descriptorIndex := 25, attributes := #[] }, { accessFlags := 25, nameIndex := 282, descriptorIndex := 25, attributes := #[] }, { accessFlags := 25, nameIndex := 284, descriptorIndex := 25, attributes := #[] }, { accessFlags := 25, nameIndex := 286, descriptorIndex := 25, attributes := #[] }, { accessFlags := 25, nameIndex := 288, descriptorIndex := 25, attributes := #[] }, { accessFlags := 25, nameIndex := 290, descriptorIndex := 25, attributes := #[] }, { accessFlags := 25, nameIndex := 292, descriptorIndex := 25, attributes := #[] }, { accessFlags := 26, nameIndex := 108, descriptorIndex := 109, attributes := #[] }, { accessFlags := 25, nameIndex := 294, descriptorIndex := 25, attributes := #[] }])
  fields := #[{ name := "U", type := (.object "jdk/internal/misc/Unsafe"), accessFlags := 24, slot := 0, constantValue := 0 }, { name := "BIG_ENDIAN", type := .boolean, accessFlags := 26, slot := 1, constantValue := 0 }, { name := "LOG2_ARRAY_BOOLEAN_INDEX_SCALE", type := .int, accessFlags := 25, slot := 2, constantValue := 0 }, { name := "LOG2_ARRAY_BYTE_INDEX_SCALE", type := .int, accessFlags := 25, slot := 3, constantValue := 0 }, { name := "LOG2_ARRAY_CHAR_INDEX_SCALE", type := .int, accessFlags := 25, slot := 4, constantValue := 0 }, { name := "LOG2_ARRAY_SHORT_INDEX_SCALE", type := .int, accessFlags := 25, slot := 5, constantValue := 0 }, { name := "LOG2_ARRAY_INT_INDEX_SCALE", type := .int, accessFlags := 25, slot := 6, constantValue := 0 }, { name := "LOG2_ARRAY_LONG_INDEX_SCALE", type := .int, accessFlags := 25, slot := 7, constantValue := 0 }, { name := "LOG2_ARRAY_FLOAT_INDEX_SCALE", type := .int, accessFlags := 25, slot := 8, constantValue := 0 }, { name := "LOG2_ARRAY_DOUBLE_INDEX_SCALE", type := .int, accessFlags := 25, slot := 9, constantValue := 0 }, { name := "LOG2_BYTE_BIT_SIZE", type := .int, accessFlags := 26, slot := 10, constantValue := 0 }, { name := "T_BOOLEAN", type := .int, accessFlags := 25, slot := 11, constantValue := 0 }, { name := "T_CHAR", type := .int, accessFlags := 25, slot := 12, constantValue := 0 }, { name := "T_FLOAT", type := .int, accessFlags := 25, slot := 13, constantValue := 0 }, { name := "T_DOUBLE", type := .int, accessFlags := 25, slot := 14, constantValue := 0 }, { name := "T_BYTE", type := .int, accessFlags := 25, slot := 15, constantValue := 0 }, { name := "T_SHORT", type := .int, accessFlags := 25, slot := 16, constantValue := 0 }, { name := "T_INT", type := .int, accessFlags := 25, slot := 17, constantValue := 0 }, { name := "T_LONG", type := .int, accessFlags := 25, slot := 18, constantValue := 0 }, { name := "JLA", type := (.object "jdk/internal/access/JavaLangAccess"), accessFlags := 26, slot := 19, constantValue := 0 }, { name := "SOFT_MAX_ARRAY_LENGTH", type := .int, accessFlags := 25, slot := 20, constantValue := 0 }]
  methods := #[k23m0]
  instanceTypes := #[]
  staticTypes := #[(.object "jdk/internal/misc/Unsafe"), .boolean, .int, .int, .int, .int, .int, .int, .int, .int, .int, .int, .int, .int, .int, .int, .int, .int, .int, (.object "jdk/internal/access/JavaLangAccess"), .int]
  resolved := Array.replicate 378 none
  statics := none }

/-- the primitive byte -/
def k24 : Class := { plain "byte" none with kind := .primitive 'B', accessFlags := 0x411 }
/-- [B -/
def k25 : Class := { plain "[B" (some 0) with kind := .array 24 .byte, interfaces := #[14, 4], accessFlags := 1041 }

/-- the primitive int -/
def k26 : Class := { plain "int" none with kind := .primitive 'I', accessFlags := 0x411 }
/-- [I -/
def k27 : Class := { plain "[I" (some 0) with kind := .array 26 .int, interfaces := #[14, 4], accessFlags := 1041 }

/-- [Lcom/example/fair_index/fairindex/csw/ResultType; -/
def k28 : Class := { plain "[Lcom/example/fair_index/fairindex/csw/ResultType;" (some 0) with kind := .array 6 (.object "com/example/fair_index/fairindex/csw/ResultType"), interfaces := #[14, 4], accessFlags := 1041 }

/-- [Ljava/lang/Object; -/
def k29 : Class := { plain "[Ljava/lang/Object;" (some 0) with kind := .array 0 (.object "java/lang/Object"), interfaces := #[14, 4], accessFlags := 1041 }

def heap : Heap := #[{ cls := 6, slots := #[.ref 5, .ref 6, .ref 7, .ref 4], vm := .statics 6 },
  { cls := 15, slots := #[.long 0, .int 0, .ref 14, .ref 15], vm := .statics 15 },
  { cls := 19, slots := #[.long 0, .int 1, .null, .int 0, .null, .int 0, .int 0], vm := .statics 19 },
  { cls := 22, slots := #[.null, .null, .null], vm := .statics 22 },
  { cls := 28, slots := #[.ref 5, .ref 6, .ref 7], vm := .none },
  { cls := 6, slots := #[.null, .int 0, .int 0, .ref 8], vm := .none },
  { cls := 6, slots := #[.null, .int 1, .int 0, .ref 9], vm := .none },
  { cls := 6, slots := #[.null, .int 2, .int 0, .ref 10], vm := .none },
  { cls := 19, slots := #[.ref 11, .int 0, .int 0, .int 0], vm := .none },
  { cls := 19, slots := #[.ref 12, .int 0, .int 0, .int 0], vm := .none },
  { cls := 19, slots := #[.ref 13, .int 0, .int 0, .int 0], vm := .none },
  { cls := 25, slots := #[.int 104, .int 105, .int 116, .int 115], vm := .none },
  { cls := 25, slots := #[.int 114, .int 101, .int 115, .int 117, .int 108, .int 116, .int 115], vm := .none },
  { cls := 25, slots := #[.int 118, .int 97, .int 108, .int 105, .int 100, .int 97, .int 116, .int 101], vm := .none },
  { cls := 29, slots := #[], vm := .none },
  { cls := 29, slots := #[], vm := .none }]
def classes : Array Class := #[k0, k1, k2, k3, k4, k5, k6, k7, k8, k9, k10, k11, k12, k13, k14, k15, k16, k17, k18, k19, k20, k21, k22, k23, k24, k25, k26, k27, k28, k29]
def interned : List (Array UInt16 × Addr) := []
def slotsUsed : Nat := 64
def theMethod : MethodId := ⟨1, 1⟩
def args0 : Array Value := #[.int 5]
def aboutOver (below : List Frame) : State where
  vm := { classes := classes, interned := interned.toArray }
  heap := heap
  slotsUsed := slotsUsed
  threads := #[{ frames := .invoking theMethod args0 :: below }]
def below0 : List Frame := [.native { method := ⟨0, 0⟩, args := #[] }]
def about1 : State := aboutOver below0
def p0 : Program := .bare "" "" ""
def e0 : Env := launch0.env 0 0 0
theorem w_frames : about1.frames = Frame.invoking theMethod args0 :: below0 := rfl
set_option maxRecDepth 65536 in
theorem w_args : argsFit about1.vm theMethod args0 = true := by decide +kernel
set_option maxRecDepth 65536 in
theorem w_heap : heapFits about1 = true := by decide +kernel
set_option maxRecDepth 65536 in
theorem w_runnable : about1.curStatus? = some .runnable := by decide +kernel
set_option maxRecDepth 65536 in
theorem w_alone : about1.alone = true := by decide +kernel
set_option maxRecDepth 65536 in
theorem w_named : about1.methodNamed? x = some theMethod := by decide +kernel
set_option maxRecDepth 65536 in
theorem w_hears : about1.hears theMethod below0 = true := by decide +kernel
set_option maxRecDepth 65536 in
theorem w_ripe : about1.ripe theMethod args0 below0 = true := by decide +kernel
theorem w_running : about1.status = .running := rfl
set_option maxRecDepth 65536 in
theorem w_room : about1.hasRoom e0.platform room_1 = true :=
  launch0.hasRoom_least _ room_1 (by decide +kernel) (by decide +kernel) (by decide +kernel) (by decide +kernel) (by decide +kernel) (by decide +kernel)
theorem allAtoms_all (ts : List Jvm.Cond) (a : Array Jvm.Value) (st : Jvm.State) : (allAtoms ts).before a st = ts.all (fun c => c.before a st) := by
  induction ts with
  | nil => rfl
  | cons c t ih =>
    show (Jvm.Cond.and c (allAtoms t)).before a st = _
    rw [Jvm.Cond.before_and, ih, List.all_cons]
def words1 : List Jvm.Cond := Jvm.Cond.code x code maxLocals ret :: tables_1
/-- a 'code' word, met by the world's own term for the bytes: nothing is compared byte by byte -/
theorem code_word {y : MethodName} {bytes : ByteArray} {mx : Nat} {rt : Option FieldType} {a : Array Value} {s : State} {m : MethodId} {meth : Method} {c : Code} (h1 : s.methodNamed? y = some m) (h2 : s.vm.method? m = some meth) (h3 : meth.code = some c) (h4 : c.code = bytes)
    (h5 : (c.maxLocals == mx && c.exceptionTable.isEmpty && decide (c.maxStack ≤ mostOperands) && decide (meth.sig.returnType = rt) && !meth.locks && decide (parseMethodDescriptor y.desc = some meth.sig)) = true) : (Jvm.Cond.code y bytes mx rt).before a s = true := by
  simp only [Bool.and_eq_true, beq_iff_eq, Bool.not_eq_true', decide_eq_true_eq] at h5
  obtain ⟨⟨⟨⟨⟨g1, g2⟩, g3⟩, g4⟩, g5⟩, g6⟩ := h5
  simp [Cond.before, Cond.holds, Cond.value, h1, h2, h3, h4, g1, g2, g3, g4, g5, g6]
def isCode : Jvm.Cond → Bool
  | .code _ _ _ _ => true
  | _ => false
theorem all_split {L : List Jvm.Cond} {P : Jvm.Cond → Bool} (h1 : L.all (fun c => isCode c || P c) = true) (h2 : ∀ c ∈ L.filter isCode, P c = true) : L.all P = true := by
  refine List.all_eq_true.mpr fun c hc => ?_
  have h := List.all_eq_true.mp h1 c hc
  rcases Bool.eq_false_or_eq_true (isCode c) with hi | hi
  · exact h2 c (List.mem_filter.mpr ⟨hc, hi⟩)
  · simpa [hi] using h
set_option maxRecDepth 65536 in
theorem w_c0 : (Jvm.Cond.code x code maxLocals ret).before args0 about1 = true := code_word (m := ⟨1, 1⟩) (meth := k1m1) (c := k1c1) (by decide +kernel) rfl rfl rfl (by decide +kernel)
set_option maxRecDepth 65536 in
theorem w_c1 : (Jvm.Cond.code ({ cls := "com/example/fair_index/fairindex/csw/ResultType", name := "names", desc := "()Ljava/util/List;" } : Jvm.MethodName) prog_4_method_5_code (5 : Nat) (Option.some (Jvm.ClassFile.FieldType.object "java/util/List"))).before args0 about1 = true := code_word (m := ⟨6, 2⟩) (meth := k6m2) (c := k6c2) (by decide +kernel) rfl rfl rfl (by decide +kernel)
set_option maxRecDepth 65536 in
theorem w_c2 : (Jvm.Cond.code ({ cls := "java/util/ArrayList", name := "<init>", desc := "()V" } : Jvm.MethodName) jdk_38_method_2_code (1 : Nat) (Option.none : Option Jvm.ClassFile.FieldType)).before args0 about1 = true := code_word (m := ⟨15, 0⟩) (meth := k15m0) (c := k15c0) (by decide +kernel) rfl rfl rfl (by decide +kernel)
set_option maxRecDepth 65536 in
theorem w_c3 : (Jvm.Cond.code ({ cls := "java/util/AbstractList", name := "<init>", desc := "()V" } : Jvm.MethodName) jdk_39_method_1_code (1 : Nat) (Option.none : Option Jvm.ClassFile.FieldType)).before args0 about1 = true := code_word (m := ⟨12, 0⟩) (meth := k12m0) (c := k12c0) (by decide +kernel) rfl rfl rfl (by decide +kernel)
set_option maxRecDepth 65536 in
theorem w_c4 : (Jvm.Cond.code ({ cls := "java/util/AbstractCollection", name := "<init>", desc := "()V" } : Jvm.MethodName) jdk_22_method_1_code (1 : Nat) (Option.none : Option Jvm.ClassFile.FieldType)).before args0 about1 = true := code_word (m := ⟨9, 0⟩) (meth := k9m0) (c := k9c0) (by decide +kernel) rfl rfl rfl (by decide +kernel)
set_option maxRecDepth 65536 in
theorem w_c5 : (Jvm.Cond.code ({ cls := "java/lang/Object", name := "<init>", desc := "()V" } : Jvm.MethodName) object_method_1_code (1 : Nat) (Option.none : Option Jvm.ClassFile.FieldType)).before args0 about1 = true := code_word (m := ⟨0, 0⟩) (meth := k0m0) (c := k0c0) (by decide +kernel) rfl rfl rfl (by decide +kernel)
set_option maxRecDepth 65536 in
theorem w_c6 : (Jvm.Cond.code ({ cls := "com/example/fair_index/fairindex/csw/ResultType", name := "values", desc := "()[Lcom/example/fair_index/fairindex/csw/ResultType;" } : Jvm.MethodName) prog_4_method_1_code (0 : Nat) (Option.some (Jvm.ClassFile.FieldType.array (Jvm.ClassFile.FieldType.object "com/example/fair_index/fairindex/csw/ResultType")))).before args0 about1 = true := code_word (m := ⟨6, 0⟩) (meth := k6m0) (c := k6c0) (by decide +kernel) rfl rfl rfl (by decide +kernel)
set_option maxRecDepth 65536 in
theorem w_c7 : (Jvm.Cond.code ({ cls := "java/util/ArrayList", name := "add", desc := "(Ljava/lang/Object;)Z" } : Jvm.MethodName) jdk_38_method_25_code (2 : Nat) (Option.some Jvm.ClassFile.FieldType.boolean)).before args0 about1 = true := code_word (m := ⟨15, 7⟩) (meth := k15m7) (c := k15c7) (by decide +kernel) rfl rfl rfl (by decide +kernel)
set_option maxRecDepth 65536 in
theorem w_c8 : (Jvm.Cond.code ({ cls := "java/util/ArrayList", name := "add", desc := "(Ljava/lang/Object;[Ljava/lang/Object;I)V" } : Jvm.MethodName) jdk_38_method_24_code (4 : Nat) (Option.none : Option Jvm.ClassFile.FieldType)).before args0 about1 = true := code_word (m := ⟨15, 6⟩) (meth := k15m6) (c := k15c6) (by decide +kernel) rfl rfl rfl (by decide +kernel)
set_option maxRecDepth 65536 in
theorem w_c9 : (Jvm.Cond.code ({ cls := "java/util/ArrayList", name := "grow", desc := "()[Ljava/lang/Object;" } : Jvm.MethodName) jdk_38_method_7_code (1 : Nat) (Option.some (Jvm.ClassFile.FieldType.array (Jvm.ClassFile.FieldType.object "java/lang/Object")))).before args0 about1 = true := code_word (m := ⟨15, 2⟩) (meth := k15m2) (c := k15c2) (by decide +kernel) rfl rfl rfl (by decide +kernel)
set_option maxRecDepth 65536 in
theorem w_c10 : (Jvm.Cond.code ({ cls := "java/util/ArrayList", name := "grow", desc := "(I)[Ljava/lang/Object;" } : Jvm.MethodName) jdk_38_method_6_code (4 : Nat) (Option.some (Jvm.ClassFile.FieldType.array (Jvm.ClassFile.FieldType.object "java/lang/Object")))).before args0 about1 = true := code_word (m := ⟨15, 1⟩) (meth := k15m1) (c := k15c1) (by decide +kernel) rfl rfl rfl (by decide +kernel)
set_option maxRecDepth 65536 in
theorem w_c11 : (Jvm.Cond.code ({ cls := "java/lang/Math", name := "max", desc := "(II)I" } : Jvm.MethodName) jdk_29_method_65_code (2 : Nat) (Option.some Jvm.ClassFile.FieldType.int)).before args0 about1 = true := code_word (m := ⟨16, 1⟩) (meth := k16m1) (c := k16c1) (by decide +kernel) rfl rfl rfl (by decide +kernel)
set_option maxRecDepth 65536 in
theorem w_c12 : (Jvm.Cond.code ({ cls := "java/util/ArrayList", name := "size", desc := "()I" } : Jvm.MethodName) jdk_38_method_8_code (1 : Nat) (Option.some Jvm.ClassFile.FieldType.int)).before args0 about1 = true := code_word (m := ⟨15, 3⟩) (meth := k15m3) (c := k15c3) (by decide +kernel) rfl rfl rfl (by decide +kernel)
set_option maxRecDepth 65536 in
theorem w_c13 : (Jvm.Cond.code ({ cls := "java/lang/String", name := "valueOf", desc := "(C)Ljava/lang/String;" } : Jvm.MethodName) jdk_42_method_139_code (1 : Nat) (Option.some (Jvm.ClassFile.FieldType.object "java/lang/String"))).before args0 about1 = true := code_word (m := ⟨19, 2⟩) (meth := k19m2) (c := k19c2) (by decide +kernel) rfl rfl rfl (by decide +kernel)
set_option maxRecDepth 65536 in
theorem w_c14 : (Jvm.Cond.code ({ cls := "java/lang/StringLatin1", name := "canEncode", desc := "(C)Z" } : Jvm.MethodName) jdk_43_method_3_code (1 : Nat) (Option.some Jvm.ClassFile.FieldType.boolean)).before args0 about1 = true := code_word (m := ⟨20, 1⟩) (meth := k20m1) (c := k20c1) (by decide +kernel) rfl rfl rfl (by decide +kernel)
set_option maxRecDepth 65536 in
theorem w_c15 : (Jvm.Cond.code ({ cls := "java/lang/StringLatin1", name := "toBytes", desc := "(C)[B" } : Jvm.MethodName) jdk_43_method_46_code (1 : Nat) (Option.some (Jvm.ClassFile.FieldType.array Jvm.ClassFile.FieldType.byte))).before args0 about1 = true := code_word (m := ⟨20, 3⟩) (meth := k20m3) (c := k20c3) (by decide +kernel) rfl rfl rfl (by decide +kernel)
set_option maxRecDepth 65536 in
theorem w_c16 : (Jvm.Cond.code ({ cls := "java/lang/String", name := "<init>", desc := "([BB)V" } : Jvm.MethodName) jdk_42_method_151_code (3 : Nat) (Option.none : Option Jvm.ClassFile.FieldType)).before args0 about1 = true := code_word (m := ⟨19, 3⟩) (meth := k19m3) (c := k19c3) (by decide +kernel) rfl rfl rfl (by decide +kernel)
set_option maxRecDepth 65536 in
theorem w_c17 : (Jvm.Cond.code ({ cls := "java/util/ArrayList", name := "get", desc := "(I)Ljava/lang/Object;" } : Jvm.MethodName) jdk_38_method_20_code (2 : Nat) (Option.some (Jvm.ClassFile.FieldType.object "java/lang/Object"))).before args0 about1 = true := code_word (m := ⟨15, 5⟩) (meth := k15m5) (c := k15c5) (by decide +kernel) rfl rfl rfl (by decide +kernel)
set_option maxRecDepth 65536 in
theorem w_c18 : (Jvm.Cond.code ({ cls := "java/util/Objects", name := "checkIndex", desc := "(II)I" } : Jvm.MethodName) jdk_31_method_17_code (2 : Nat) (Option.some Jvm.ClassFile.FieldType.int)).before args0 about1 = true := code_word (m := ⟨21, 1⟩) (meth := k21m1) (c := k21c1) (by decide +kernel) rfl rfl rfl (by decide +kernel)
set_option maxRecDepth 65536 in
theorem w_c19 : (Jvm.Cond.code ({ cls := "jdk/internal/util/Preconditions", name := "checkIndex", desc := "(IILjava/util/function/BiFunction;)I" } : Jvm.MethodName) jdk_41_method_11_code (3 : Nat) (Option.some Jvm.ClassFile.FieldType.int)).before args0 about1 = true := code_word (m := ⟨22, 1⟩) (meth := k22m1) (c := k22c1) (by decide +kernel) rfl rfl rfl (by decide +kernel)
set_option maxRecDepth 65536 in
theorem w_c20 : (Jvm.Cond.code ({ cls := "java/util/ArrayList", name := "elementData", desc := "(I)Ljava/lang/Object;" } : Jvm.MethodName) jdk_38_method_18_code (2 : Nat) (Option.some (Jvm.ClassFile.FieldType.object "java/lang/Object"))).before args0 about1 = true := code_word (m := ⟨15, 4⟩) (meth := k15m4) (c := k15c4) (by decide +kernel) rfl rfl rfl (by decide +kernel)
set_option maxRecDepth 65536 in
theorem w_c21 : (Jvm.Cond.code ({ cls := "java/lang/String", name := "equals", desc := "(Ljava/lang/Object;)Z" } : Jvm.MethodName) jdk_42_method_66_code (3 : Nat) (Option.some Jvm.ClassFile.FieldType.boolean)).before args0 about1 = true := code_word (m := ⟨19, 1⟩) (meth := k19m1) (c := k19c1) (by decide +kernel) rfl rfl rfl (by decide +kernel)
set_option maxRecDepth 65536 in
theorem w_c22 : (Jvm.Cond.code ({ cls := "java/lang/StringLatin1", name := "equals", desc := "([B[B)Z" } : Jvm.MethodName) jdk_43_method_13_code (3 : Nat) (Option.some Jvm.ClassFile.FieldType.boolean)).before args0 about1 = true := code_word (m := ⟨20, 2⟩) (meth := k20m2) (c := k20c2) (by decide +kernel) rfl rfl rfl (by decide +kernel)
set_option maxRecDepth 65536 in
theorem w_c23 : (Jvm.Cond.code ({ cls := "com/example/fair_index/fairindex/csw/ResultType", name := "getName", desc := "()Ljava/lang/String;" } : Jvm.MethodName) prog_4_method_6_code (1 : Nat) (Option.some (Jvm.ClassFile.FieldType.object "java/lang/String"))).before args0 about1 = true := code_word (m := ⟨6, 3⟩) (meth := k6m3) (c := k6c3) (by decide +kernel) rfl rfl rfl (by decide +kernel)
set_option maxRecDepth 65536 in
theorem w_c24 : (Jvm.Cond.code ({ cls := "com/example/fair_index/fairindex/csw/ResultType", name := "named", desc := "(Ljava/lang/String;)Lcom/example/fair_index/fairindex/csw/ResultType;" } : Jvm.MethodName) prog_4_method_4_code (5 : Nat) (Option.some (Jvm.ClassFile.FieldType.object "com/example/fair_index/fairindex/csw/ResultType"))).before args0 about1 = true := code_word (m := ⟨6, 1⟩) (meth := k6m1) (c := k6c1) (by decide +kernel) rfl rfl rfl (by decide +kernel)
def codes1 : List Jvm.Cond := [Jvm.Cond.code x code maxLocals ret, Jvm.Cond.code ({ cls := "com/example/fair_index/fairindex/csw/ResultType", name := "names", desc := "()Ljava/util/List;" } : Jvm.MethodName) prog_4_method_5_code (5 : Nat) (Option.some (Jvm.ClassFile.FieldType.object "java/util/List")), Jvm.Cond.code ({ cls := "java/util/ArrayList", name := "<init>", desc := "()V" } : Jvm.MethodName) jdk_38_method_2_code (1 : Nat) (Option.none : Option Jvm.ClassFile.FieldType), Jvm.Cond.code ({ cls := "java/util/AbstractList", name := "<init>", desc := "()V" } : Jvm.MethodName) jdk_39_method_1_code (1 : Nat) (Option.none : Option Jvm.ClassFile.FieldType), Jvm.Cond.code ({ cls := "java/util/AbstractCollection", name := "<init>", desc := "()V" } : Jvm.MethodName) jdk_22_method_1_code (1 : Nat) (Option.none : Option Jvm.ClassFile.FieldType), Jvm.Cond.code ({ cls := "java/lang/Object", name := "<init>", desc := "()V" } : Jvm.MethodName) object_method_1_code (1 : Nat) (Option.none : Option Jvm.ClassFile.FieldType), Jvm.Cond.code ({ cls := "com/example/fair_index/fairindex/csw/ResultType", name := "values", desc := "()[Lcom/example/fair_index/fairindex/csw/ResultType;" } : Jvm.MethodName) prog_4_method_1_code (0 : Nat) (Option.some (Jvm.ClassFile.FieldType.array (Jvm.ClassFile.FieldType.object "com/example/fair_index/fairindex/csw/ResultType"))), Jvm.Cond.code ({ cls := "java/util/ArrayList", name := "add", desc := "(Ljava/lang/Object;)Z" } : Jvm.MethodName) jdk_38_method_25_code (2 : Nat) (Option.some Jvm.ClassFile.FieldType.boolean), Jvm.Cond.code ({ cls := "java/util/ArrayList", name := "add", desc := "(Ljava/lang/Object;[Ljava/lang/Object;I)V" } : Jvm.MethodName) jdk_38_method_24_code (4 : Nat) (Option.none : Option Jvm.ClassFile.FieldType), Jvm.Cond.code ({ cls := "java/util/ArrayList", name := "grow", desc := "()[Ljava/lang/Object;" } : Jvm.MethodName) jdk_38_method_7_code (1 : Nat) (Option.some (Jvm.ClassFile.FieldType.array (Jvm.ClassFile.FieldType.object "java/lang/Object"))), Jvm.Cond.code ({ cls := "java/util/ArrayList", name := "grow", desc := "(I)[Ljava/lang/Object;" } : Jvm.MethodName) jdk_38_method_6_code (4 : Nat) (Option.some (Jvm.ClassFile.FieldType.array (Jvm.ClassFile.FieldType.object "java/lang/Object"))), Jvm.Cond.code ({ cls := "java/lang/Math", name := "max", desc := "(II)I" } : Jvm.MethodName) jdk_29_method_65_code (2 : Nat) (Option.some Jvm.ClassFile.FieldType.int), Jvm.Cond.code ({ cls := "java/util/ArrayList", name := "size", desc := "()I" } : Jvm.MethodName) jdk_38_method_8_code (1 : Nat) (Option.some Jvm.ClassFile.FieldType.int), Jvm.Cond.code ({ cls := "java/lang/String", name := "valueOf", desc := "(C)Ljava/lang/String;" } : Jvm.MethodName) jdk_42_method_139_code (1 : Nat) (Option.some (Jvm.ClassFile.FieldType.object "java/lang/String")), Jvm.Cond.code ({ cls := "java/lang/StringLatin1", name := "canEncode", desc := "(C)Z" } : Jvm.MethodName) jdk_43_method_3_code (1 : Nat) (Option.some Jvm.ClassFile.FieldType.boolean), Jvm.Cond.code ({ cls := "java/lang/StringLatin1", name := "toBytes", desc := "(C)[B" } : Jvm.MethodName) jdk_43_method_46_code (1 : Nat) (Option.some (Jvm.ClassFile.FieldType.array Jvm.ClassFile.FieldType.byte)), Jvm.Cond.code ({ cls := "java/lang/String", name := "<init>", desc := "([BB)V" } : Jvm.MethodName) jdk_42_method_151_code (3 : Nat) (Option.none : Option Jvm.ClassFile.FieldType), Jvm.Cond.code ({ cls := "java/util/ArrayList", name := "get", desc := "(I)Ljava/lang/Object;" } : Jvm.MethodName) jdk_38_method_20_code (2 : Nat) (Option.some (Jvm.ClassFile.FieldType.object "java/lang/Object")), Jvm.Cond.code ({ cls := "java/util/Objects", name := "checkIndex", desc := "(II)I" } : Jvm.MethodName) jdk_31_method_17_code (2 : Nat) (Option.some Jvm.ClassFile.FieldType.int), Jvm.Cond.code ({ cls := "jdk/internal/util/Preconditions", name := "checkIndex", desc := "(IILjava/util/function/BiFunction;)I" } : Jvm.MethodName) jdk_41_method_11_code (3 : Nat) (Option.some Jvm.ClassFile.FieldType.int), Jvm.Cond.code ({ cls := "java/util/ArrayList", name := "elementData", desc := "(I)Ljava/lang/Object;" } : Jvm.MethodName) jdk_38_method_18_code (2 : Nat) (Option.some (Jvm.ClassFile.FieldType.object "java/lang/Object")), Jvm.Cond.code ({ cls := "java/lang/String", name := "equals", desc := "(Ljava/lang/Object;)Z" } : Jvm.MethodName) jdk_42_method_66_code (3 : Nat) (Option.some Jvm.ClassFile.FieldType.boolean), Jvm.Cond.code ({ cls := "java/lang/StringLatin1", name := "equals", desc := "([B[B)Z" } : Jvm.MethodName) jdk_43_method_13_code (3 : Nat) (Option.some Jvm.ClassFile.FieldType.boolean), Jvm.Cond.code ({ cls := "com/example/fair_index/fairindex/csw/ResultType", name := "getName", desc := "()Ljava/lang/String;" } : Jvm.MethodName) prog_4_method_6_code (1 : Nat) (Option.some (Jvm.ClassFile.FieldType.object "java/lang/String")), Jvm.Cond.code ({ cls := "com/example/fair_index/fairindex/csw/ResultType", name := "named", desc := "(Ljava/lang/String;)Lcom/example/fair_index/fairindex/csw/ResultType;" } : Jvm.MethodName) prog_4_method_4_code (5 : Nat) (Option.some (Jvm.ClassFile.FieldType.object "com/example/fair_index/fairindex/csw/ResultType"))]
set_option maxRecDepth 65536 in
theorem codes_eq : words1.filter isCode = codes1 := rfl
theorem w_codes : ∀ c ∈ words1.filter isCode, c.before args0 about1 = true := by
  rw [codes_eq]
  intro c hc
  simp only [codes1, List.mem_cons, List.not_mem_nil, or_false] at hc
  rcases hc with rfl | rfl | rfl | rfl | rfl | rfl | rfl | rfl | rfl | rfl | rfl | rfl | rfl | rfl | rfl | rfl | rfl | rfl | rfl | rfl | rfl | rfl | rfl | rfl | rfl
  · exact w_c0
  · exact w_c1
  · exact w_c2
  · exact w_c3
  · exact w_c4
  · exact w_c5
  · exact w_c6
  · exact w_c7
  · exact w_c8
  · exact w_c9
  · exact w_c10
  · exact w_c11
  · exact w_c12
  · exact w_c13
  · exact w_c14
  · exact w_c15
  · exact w_c16
  · exact w_c17
  · exact w_c18
  · exact w_c19
  · exact w_c20
  · exact w_c21
  · exact w_c22
  · exact w_c23
  · exact w_c24
set_option maxRecDepth 65536 in
theorem w_t1 : (words1.take 24).all (fun c => isCode c || c.before args0 about1) = true := by decide +kernel
set_option maxRecDepth 65536 in
theorem w_t2 : ((words1.drop 24).take 24).all (fun c => isCode c || c.before args0 about1) = true := by decide +kernel
set_option maxRecDepth 65536 in
theorem w_t3 : (((words1.drop 24).drop 24).take 24).all (fun c => isCode c || c.before args0 about1) = true := by decide +kernel
set_option maxRecDepth 65536 in
theorem w_t4 : ((((words1.drop 24).drop 24).drop 24).take 24).all (fun c => isCode c || c.before args0 about1) = true := by decide +kernel
set_option maxRecDepth 65536 in
theorem w_t5 : (((((words1.drop 24).drop 24).drop 24).drop 24).take 24).all (fun c => isCode c || c.before args0 about1) = true := by decide +kernel
set_option maxRecDepth 65536 in
theorem w_t6 : ((((((words1.drop 24).drop 24).drop 24).drop 24).drop 24).take 24).all (fun c => isCode c || c.before args0 about1) = true := by decide +kernel
set_option maxRecDepth 65536 in
theorem w_t7 : ((((((words1.drop 24).drop 24).drop 24).drop 24).drop 24).drop 24).all (fun c => isCode c || c.before args0 about1) = true := by decide +kernel
theorem w_tables : (allAtoms (Jvm.Cond.code x code maxLocals ret :: tables_1)).before args0 about1 = true := by
  rw [allAtoms_all]
  show words1.all (fun c => c.before args0 about1) = true
  refine all_split ?_ w_codes
  rw [← List.take_append_drop 24 words1, List.all_append, w_t1, ← List.take_append_drop 24 (words1.drop 24), List.all_append, w_t2, ← List.take_append_drop 24 ((words1.drop 24).drop 24), List.all_append, w_t3, ← List.take_append_drop 24 (((words1.drop 24).drop 24).drop 24), List.all_append, w_t4, ← List.take_append_drop 24 ((((words1.drop 24).drop 24).drop 24).drop 24), List.all_append, w_t5, ← List.take_append_drop 24 (((((words1.drop 24).drop 24).drop 24).drop 24).drop 24), List.all_append, w_t6, w_t7]
  rfl
set_option maxRecDepth 65536 in
theorem w_rest : rest_1_c.before args0 about1 = true := by decide +kernel
set_option maxRecDepth 65536 in
theorem w_case : (Jvm.Cond.and given_1 narrow_1).before args0 about1 = true := by decide +kernel
set_option maxRecDepth 65536 in
theorem w_consts : constsHeld consts_1 about1 := Jvm.Lit.constsHeldB_iff.mp (by decide +kernel)
theorem w_applies : (headSpec (Jvm.Cond.code x code maxLocals ret :: tables_1) room_1).applies x e0.platform about1 = true :=
  (Spec.applies_iff w_frames).mpr ⟨w_running, w_runnable, w_alone, w_named, w_hears, w_ripe, w_room, w_tables⟩
theorem atStart : AtStart classFile x code maxLocals ret World_1 tables_1 room_1 Calls_1 rest_1 Pre_1 launch0 p0 e0 about1 theMethod args0 below0 :=
  ⟨lists_1, trivial, launch0.admits_env _ _ _, launch0.least_env, fairChoices_fair.cas, fairChoices_fair.clock, w_frames, w_args, w_heap, w_applies, ⟨w_consts, trivial⟩, w_rest, w_case⟩
end start1
theorem witness_1 : WitnessClaimed_1 := ⟨start1.p0, start1.e0, start1.about1, start1.theMethod, start1.args0, start1.below0, start1.atStart⟩
end Jvm.Pilot.@@N@@
