import JvmDerived
import JvmDerived.Pilot.@@N@@Statement
import JvmDerived.Pilot.@@N@@Code
set_option linter.unusedVariables false
set_option linter.unusedSimpArgs false
namespace Jvm.Pilot.@@N@@
open Jvm Jvm.ClassFile Sem Op Lib Jvm.Free Jvm.Stand Jvm.LawKit Jvm.RoadKit Bundle Jvm.Pilot.@@N@@.Jvm.D

/-! ## own kit: a walk as a tree -/
section OwnKit
variable {p : Program} {l : Launch} {e : Env} {R : Room} {s : State} {m : MethodId} {args : Array Value} {below : List Frame} {meth : Method} {c : Code} {T T' : State} {locs : List Loc} {cells slots : Nat} {Q : Option Value → Heap → List Loc → Prop} {f f' : JFrame} {Z : State} {a0 : Array Value} {h h' : Heap}
/-- from here the body comes to its return, and Q holds there -/
def Go (p : Program) (e : Env) (s : State) (below : List Frame) (R : Room) (Q : Option Value → Heap → List Loc → Prop) (T : State) (f : JFrame) : Prop :=
  ∃ s₂ o, Steps p.tables e below (T.setTop f) s₂ ∧ s₂.status = .running ∧ Ended s₂ below o ∧ ∃ v L, o = .returned v ∧ Q v s₂.heap L ∧ FrameEnd s o s₂ L R.cells R.slots
theorem Go.of (k : ∀ t, Steps p.tables e below (T'.setTop f') t → Steps p.tables e below (T.setTop f) t) (G : Go p e s below R Q T' f') : Go p e s below R Q T f := by
  obtain ⟨s2, o, h1, h2⟩ := G
  exact ⟨s2, o, k _ h1, h2⟩
theorem Go.cast (q : f = f') (G : Go p e s below R Q T f') : Go p e s below R Q T f := q ▸ G
theorem Go.retO (X : Stand p l e R s m args below meth c T locs cells slots) (hx : p.tables.exec = Jvm.exec) (hlk : meth.locks = false) {pc : Nat} {Ls : Array Slot} {w : Value} {t : FieldType} {i : Instr} {rest : List Value} (hret : meth.sig.returnType = some t) (hn : narrow t w = w)
    (hi : (i = .ireturn ∧ (t = .int ∨ t = .boolean ∨ t = .byte ∨ t = .char ∨ t = .short) ∧ ∃ z, w = .int z) ∨ (i = .lreturn ∧ t = .long ∧ ∃ z, w = .long z) ∨ (i = .dreturn ∧ t = .double ∧ ∃ z, w = .double z) ∨ (i = .freturn ∧ t = .float ∧ ∃ z, w = .float z) ∨ (i = .areturn ∧ t.isReference = true ∧ w.isRef = true))
    (hd : decode c.code pc = .ok (i, 1)) (hc : cells ≤ R.cells) (hs : slots ≤ R.slots) (hq : Q (some w) T.heap locs) : Go p e s below R Q T (mkF m pc Ls (w :: rest)) := by
  obtain ⟨fs, hr, hrun, hended, hW, hsame⟩ := X.leave (v := some w) (fun h => by rw [hret] at h; cases h) hlk
  exact ⟨_, _, retOut X hx hret hn hi hd hr, hrun, hended, _, _, rfl, hq, ⟨_, rfl⟩, hW, hsame.mono hc hs⟩
theorem Go.retI (X : Stand p l e R s m args below meth c T locs cells slots) (hx : p.tables.exec = Jvm.exec) (hlk : meth.locks = false) (hret : meth.sig.returnType = some .int) {pc : Nat} {Ls : Array Slot} {z : Int32} {rest : List Value}
    (hd : decode c.code pc = .ok (.ireturn, 1)) (hc : cells ≤ R.cells) (hs : slots ≤ R.slots) (hq : Q (some (.int z)) T.heap locs) : Go p e s below R Q T (mkF m pc Ls (.int z :: rest)) :=
  Go.retO X hx hlk hret rfl (Or.inl ⟨rfl, Or.inl rfl, _, rfl⟩) hd hc hs hq
theorem Go.retJ (X : Stand p l e R s m args below meth c T locs cells slots) (hx : p.tables.exec = Jvm.exec) (hlk : meth.locks = false) (hret : meth.sig.returnType = some .long) {pc : Nat} {Ls : Array Slot} {z : Int64} {rest : List Value}
    (hd : decode c.code pc = .ok (.lreturn, 1)) (hc : cells ≤ R.cells) (hs : slots ≤ R.slots) (hq : Q (some (.long z)) T.heap locs) : Go p e s below R Q T (mkF m pc Ls (.long z :: rest)) :=
  Go.retO X hx hlk hret rfl (Or.inr (Or.inl ⟨rfl, rfl, _, rfl⟩)) hd hc hs hq
theorem Go.retD (X : Stand p l e R s m args below meth c T locs cells slots) (hx : p.tables.exec = Jvm.exec) (hlk : meth.locks = false) (hret : meth.sig.returnType = some .double) {pc : Nat} {Ls : Array Slot} {z : UInt64} {rest : List Value}
    (hd : decode c.code pc = .ok (.dreturn, 1)) (hc : cells ≤ R.cells) (hs : slots ≤ R.slots) (hq : Q (some (.double z)) T.heap locs) : Go p e s below R Q T (mkF m pc Ls (.double z :: rest)) :=
  Go.retO X hx hlk hret rfl (Or.inr (Or.inr (Or.inl ⟨rfl, rfl, _, rfl⟩))) hd hc hs hq
theorem Go.retA (X : Stand p l e R s m args below meth c T locs cells slots) (hx : p.tables.exec = Jvm.exec) (hlk : meth.locks = false) {t : FieldType} (hret : meth.sig.returnType = some t) (ht : t.isReference = true) {pc : Nat} {Ls : Array Slot} {w : Value} {rest : List Value}
    (hw : w.isRef = true) (hd : decode c.code pc = .ok (.areturn, 1)) (hc : cells ≤ R.cells) (hs : slots ≤ R.slots) (hq : Q (some w) T.heap locs) : Go p e s below R Q T (mkF m pc Ls (w :: rest)) :=
  Go.retO X hx hlk hret (by cases t <;> first | (cases ht; done) | rfl) (Or.inr (Or.inr (Or.inr (Or.inr ⟨rfl, ht, hw⟩)))) hd hc hs hq
theorem Go.retB (X : Stand p l e R s m args below meth c T locs cells slots) (hx : p.tables.exec = Jvm.exec) (hlk : meth.locks = false) {t : FieldType} (hret : meth.sig.returnType = some t) (ht : t = .boolean ∨ t = .byte ∨ t = .char ∨ t = .short) {pc : Nat} {Ls : Array Slot} {z : Int32} {rest : List Value}
    (hd : decode c.code pc = .ok (.ireturn, 1)) (hc : cells ≤ R.cells) (hs : slots ≤ R.slots) {z' : Int32} (hz : nar t z = z') (hq : Q (some (.int z')) T.heap locs) : Go p e s below R Q T (mkF m pc Ls (.int z :: rest)) := by
  subst hz
  obtain ⟨fs, hr, hrun, hended, hW, hsame⟩ := X.leave (v := some (.int (nar t z))) (fun h => by rw [hret] at h; cases h) hlk
  exact ⟨_, _, retN X hx hret ht hd hr, hrun, hended, _, _, rfl, hq, ⟨_, rfl⟩, hW, hsame.mono hc hs⟩
theorem Go.retV (X : Stand p l e R s m args below meth c T locs cells slots) (hx : p.tables.exec = Jvm.exec) (hlk : meth.locks = false) (hret : meth.sig.returnType = none) {pc : Nat} {Ls : Array Slot}
    (hd : decode c.code pc = .ok (.return_, 1)) (hc : cells ≤ R.cells) (hs : slots ≤ R.slots) (hq : Q none T.heap locs) : Go p e s below R Q T (mkF m pc Ls []) := by
  obtain ⟨fs, hr, hrun, hended, hW, hsame⟩ := X.leave (v := none) (fun _ => rfl) hlk
  exact ⟨_, _, X.returnOut hx hret hd hr, hrun, hended, _, _, rfl, hq, ⟨_, rfl⟩, hW, hsame.mono hc hs⟩
/-- a body's contract: handed as', over the heap h, it returns and Q holds -/
def Ok (l : Launch) (Z : State) (y : MethodName) (bytes : ByteArray) (maxL : Nat) (ret : Option FieldType) (rm : Room) (as' : Array Value) (h : Heap) (Q : Option Value → Heap → List Loc → Prop) : Prop :=
  ∀ ws : List Jvm.Cond, MetFree l y (head1 (Jvm.Cond.code y bytes maxL ret :: ws) rm) (fun a U => a = as' ∧ Z.Warmed39 U.vm ∧ U.heap = h) (fun _ _ _ _ _ => True) (fun _ U o U' => ∃ v L, o = .returned v ∧ Q v U'.heap L ∧ FrameEnd U o U' L rm.cells rm.slots)
theorem Ok.mk {y : MethodName} {bytes : ByteArray} {maxL : Nat} {ret : Option FieldType} {rm : Room} {as' : Array Value} (hn : plainFor y = true)
    (k : ∀ p e s m below meth c s₁, p.tables.exec = Jvm.exec → c.code = bytes → c.maxLocals = maxL → s.vm.findClass y.cls = some m.cls → meth.name = y.name → meth.sig.returnType = ret → meth.locks = false → Z.Warmed39 s.vm → s₁.heap = h → Stand p l e rm s m as' below meth c s₁ [] 0 0 → Go p e s below rm Q s₁ (entryFrame m as' maxL)) :
    Ok l Z y bytes maxL ret rm as' h Q := by
  intro ws
  refine MetFree.of_bodySF hn hisR ?_
  intro p e s m args below meth c s₁ Bd hml0 hP hK
  obtain ⟨rfl, hZ, hh⟩ := hP
  exact k p e s m below meth c s₁ Bd.exec Bd.bytes hml0 (findClass_of_methodNamed Bd.named) (name_of_methodNamed Bd.named Bd.method).1 Bd.returns Bd.notSynchronized hZ (by rw [← hh, Bd.state]; rfl) (Stand.of_body Bd)
theorem callSt (X : Stand p l e R s m args below meth c T locs cells slots) (hx : p.tables.exec = Jvm.exec) (hZ : Z.Warmed39 s.vm) {own : String} {index : Nat} {y : MethodName} {bytes : ByteArray} {maxL : Nat} {ret : Option FieldType} {rm : Room} {as' : Array Value}
    (hown : s.vm.findClass own = some m.cls) (w1 : (Jvm.Cond.methodLink own index y).before a0 Z = true) (w2 : (Jvm.Cond.static y).before a0 Z = true) (w3 : (Jvm.Cond.initialized y.cls).before a0 Z = true) (w4 : (Jvm.Cond.code y bytes maxL ret).before a0 Z = true)
    (hy : y.cls ≠ "java/lang/invoke/MethodHandle" ∧ y.cls ≠ "java/lang/invoke/VarHandle") (hM : Ok l Z y bytes maxL ret rm as' h Q) (eT : T.heap = h) {W : Nat} (hf : rm.frames + 1 ≤ R.frames) (hl : W + (maxL + 11) + rm.locals ≤ R.locals) (hc : cells + rm.cells ≤ R.cells) (hs : slots + rm.slots ≤ R.slots)
    {g : JFrame} (hg : g.method = m) (hsize : g.locals.size = c.maxLocals) {argsL rest : List Value} (hlen : ∀ sig, parseMethodDescriptor y.desc = some sig → argsL.length = sig.parameters.length) (has : argsL.toArray = as')
    (hstack : g.stack = argsL.reverse ++ rest) (hW : 2 * g.monitorRoom + (rest.map fun v => v.category).sum ≤ W) (hd : decode c.code g.pc = .ok (.invokestatic index, 3)) :
    ∃ T' v L, Stand p l e R s m args below meth c T' (locs ++ L) (cells + rm.cells) (slots + rm.slots) ∧ Q v T'.heap L ∧ ∀ t, Steps p.tables e below (T'.setTop { g with pc := g.pc + 3, stack := v.toList ++ rest }) t → Steps p.tables e below (T.setTop g) t := by
  subst has
  obtain ⟨v, _, ⟨T1, L1, k1, n1⟩, -, X1, ⟨Lc, hQ, l1, y1, z1⟩, st⟩ := Jvm.LawKit.callS X hx (y := y) hown (mvT hZ w1) (mvT hZ w2) (mvT hZ w3) (mvT hZ w4) hy (backOf (W := W) (hM []) hZ w4 w3 hf hl) hg hsize hlen hstack hW hd (fun _ _ => ⟨rfl, eT, hc, hs⟩)
  dsimp only [Pt.U, Pt.locs, Pt.cells, Pt.slots] at X1 l1 y1 z1 st hQ
  subst l1 y1 z1
  exact ⟨T1, v, Lc, X1, hQ, st⟩
theorem callNew (X : Stand p l e R s m args below meth c T locs cells slots) (hx : p.tables.exec = Jvm.exec) (hZ : Z.Warmed39 s.vm) {own : String} {index : Nat} {y : MethodName} {bytes : ByteArray} {maxL : Nat} {rm : Room} {as' : Array Value} (hy1 : y.name = "<init>")
    (hown : s.vm.findClass own = some m.cls) (w1 : (Jvm.Cond.methodLink own index y).before a0 Z = true) (w2 : (Jvm.Cond.instanceMethod y).before a0 Z = true) (w3 : (Jvm.Cond.initialized y.cls).before a0 Z = true) (w4 : (Jvm.Cond.code y bytes maxL none).before a0 Z = true)
    (hy : y.cls ≠ "java/lang/invoke/MethodHandle" ∧ y.cls ≠ "java/lang/invoke/VarHandle") (hM : Ok l Z y bytes maxL none rm as' h Q) (eT : T.heap = h) {W : Nat} (hf : rm.frames + 1 ≤ R.frames) (hl : W + (maxL + 11) + rm.locals ≤ R.locals) (hc : cells + rm.cells ≤ R.cells) (hs : slots + rm.slots ≤ R.slots)
    {g : JFrame} (hg : g.method = m) (hsize : g.locals.size = c.maxLocals) {a : Addr} {argsL rest : List Value} (hlen : ∀ sig, parseMethodDescriptor y.desc = some sig → argsL.length = sig.parameters.length) (has : (.ref a :: argsL).toArray = as')
    (hstack : g.stack = argsL.reverse ++ .ref a :: rest) (hW : 2 * g.monitorRoom + (rest.map fun v => v.category).sum ≤ W) (hd : decode c.code g.pc = .ok (.invokespecial index, 3)) :
    ∃ T' v L, Stand p l e R s m args below meth c T' (locs ++ L) (cells + rm.cells) (slots + rm.slots) ∧ Q v T'.heap L ∧ ∀ t, Steps p.tables e below (T'.setTop { g with pc := g.pc + 3, stack := v.toList ++ rest }) t → Steps p.tables e below (T.setTop g) t := by
  subst has
  obtain ⟨v, _, ⟨T1, L1, k1, n1⟩, -, X1, ⟨Lc, hQ, l1, y1, z1⟩, st⟩ := X.specialBack hx (y := y) hy1 hown (mvT hZ w1) (mvT hZ w2) (mvT hZ w4) hy (backOf (W := W) (hM []) hZ w4 w3 hf hl) hg hsize (Steps.refl _) (a := a) hlen hstack hW hd (fun _ _ => ⟨rfl, eT, hc, hs⟩)
  dsimp only [Pt.U, Pt.locs, Pt.cells, Pt.slots] at X1 l1 y1 z1 st hQ
  subst l1 y1 z1
  exact ⟨T1, v, Lc, X1, hQ, fun t k => st.trans k⟩
theorem callVi (X : Stand p l e R s m args below meth c T locs cells slots) (hx : p.tables.exec = Jvm.exec) (hZ : Z.Warmed39 s.vm) {own C : String} {index : Nat} {y z : MethodName} {bytes : ByteArray} {maxL : Nat} {ret : Option FieldType} {rm : Room} {as' : Array Value}
    (hown : s.vm.findClass own = some m.cls) (w1 : (Jvm.Cond.methodLink own index y).before a0 Z = true) (w2 : (Jvm.Cond.declares y).before a0 Z = true) (nf : NotFace s y) (w3 : (Jvm.Cond.selects C y z).before a0 Z = true) (w4 : (Jvm.Cond.instanceMethod z).before a0 Z = true) (w5 : (Jvm.Cond.code z bytes maxL ret).before a0 Z = true) (w6 : (Jvm.Cond.initialized z.cls).before a0 Z = true)
    (hy : y.cls ≠ "java/lang/invoke/MethodHandle" ∧ y.cls ≠ "java/lang/invoke/VarHandle") (hM : Ok l Z z bytes maxL ret rm as' h Q) (eT : T.heap = h) {W : Nat} (hf : rm.frames + 1 ≤ R.frames) (hl : W + (maxL + 11) + rm.locals ≤ R.locals) (hc : cells + rm.cells ≤ R.cells) (hs : slots + rm.slots ≤ R.slots)
    {a : Addr} (E : Exa Z h a C) {g : JFrame} (hg : g.method = m) (hsize : g.locals.size = c.maxLocals) {argsL rest : List Value} (hlen : ∀ sig, parseMethodDescriptor y.desc = some sig → argsL.length = sig.parameters.length) (has : (.ref a :: argsL).toArray = as')
    (hstack : g.stack = argsL.reverse ++ .ref a :: rest) (hW : 2 * g.monitorRoom + (rest.map fun v => v.category).sum ≤ W) (hd : decode c.code g.pc = .ok (.invokevirtual index, 3)) :
    ∃ T' v L, Stand p l e R s m args below meth c T' (locs ++ L) (cells + rm.cells) (slots + rm.slots) ∧ Q v T'.heap L ∧ ∀ t, Steps p.tables e below (T'.setTop { g with pc := g.pc + 3, stack := v.toList ++ rest }) t → Steps p.tables e below (T.setTop g) t := by
  subst has
  obtain ⟨cq, kq, qa, qb, qc⟩ := isOf hZ eT E
  obtain ⟨v, _, ⟨T1, L1, k1, n1⟩, -, X1, ⟨Lc, hQ, l1, y1, z1⟩, st⟩ := X.virtualBack hx (y := y) (z := z) hown (mvT hZ w1) (mvT hZ w2) nf (mvT hZ w3) (mvT hZ w4) hy (backOf (W := W) (hM []) hZ w5 w6 hf hl) qa qc hg hsize (Steps.refl _) hlen hstack hW hd (fun _ _ => ⟨rfl, eT, hc, hs⟩)
  dsimp only [Pt.U, Pt.locs, Pt.cells, Pt.slots] at X1 l1 y1 z1 st hQ
  subst l1 y1 z1
  exact ⟨T1, v, Lc, X1, hQ, fun t k => st.trans k⟩
/-- a new object at the address a: a fresh name for the heap's end -/
theorem newOb (X : Stand p l e R s m args below meth c T locs cells slots) (hx : p.tables.exec = Jvm.exec) (hZ : Z.Warmed39 s.vm) {own C : String} {index n : Nat} (hown : s.vm.findClass own = some m.cls) (w : (Jvm.Cond.classLink own index C).before a0 Z = true) (wi : (Jvm.Cond.instantiable C n).before a0 Z = true) (wz : (Jvm.Cond.initialized C).before a0 Z = true) (eT : T.heap = h)
    {g : JFrame} (hg : g.method = m) (hd : decode c.code g.pc = .ok (.new index, 3)) (hc : cells + 1 ≤ R.cells) (hl : slots + n ≤ R.slots) :
    ∃ T' h' a, a = h.size ∧ Stand p l e R s m args below meth c T' locs (cells + 1) (slots + n) ∧ T'.heap = h' ∧ Ext h h' ∧ Exa Z h' a C ∧ (∀ {O nm d : String} {ty : FieldType}, Laid Z a0 C O nm d → parseFieldDescriptor d = some ty → Fld Z h' a O nm d (defaultValue ty)) ∧
      ∀ t, Steps p.tables e below (T'.setTop { g with pc := g.pc + 3, stack := .ref a :: g.stack }) t → Steps p.tables e below (T.setTop g) t := by
  obtain ⟨T2, h2, X2, e2, E2, A2, D2, -, st2⟩ := newO X hx hZ hown w wi wz eT hg hd hc hl
  exact ⟨T2, h2, h.size, rfl, X2, e2, E2, A2, D2, st2⟩
theorem Old0.keep {ws : List Addr} (X : Ext Z.heap h) (K : Keep h h' ws) (q : ∀ x ∈ ws, Z.heap.size ≤ x) : Ext Z.heap h' := (Old.keep (n0 := Z.heap.size) ⟨rfl, X⟩ K q).2
theorem Old0.wr {a : Addr} {sl : Nat} {v : Value} (X : Ext Z.heap h) (W : Wr h h' a sl v) (q : Z.heap.size ≤ a) : Ext Z.heap h' := (Old.wr (n0 := Z.heap.size) ⟨rfl, X⟩ W q).2
theorem Old0.ext (X : Ext Z.heap h) (E : Ext h h') : Ext Z.heap h' := (Old.ext (n0 := Z.heap.size) ⟨rfl, X⟩ E).2
theorem ext_rfl : Ext h h := ⟨Nat.le_refl _, fun _ _ q => q⟩
theorem eqI_v {first : State} {o : Option Outcome} {idx : List Nat} {a : Term} {k : Int32} (q : (Jvm.Cond.eq a (.int k)).value args first o s idx = some true) : a.eval args first o idx s = some (.int k) := by
  cases ha : a.eval args first o idx s with
  | none => simp [Jvm.Cond.value, ha] at q
  | some x => cases x <;> simp [Jvm.Cond.value, ha, Term.eval] at q ⊢; exact q
theorem eqJ_v {first : State} {o : Option Outcome} {idx : List Nat} {a : Term} {k : Int64} (q : (Jvm.Cond.eq a (.long k)).value args first o s idx = some true) : a.eval args first o idx s = some (.long k) := by
  cases ha : a.eval args first o idx s with
  | none => simp [Jvm.Cond.value, ha] at q
  | some x => cases x <;> simp [Jvm.Cond.value, ha, Term.eval] at q ⊢; exact q
theorem neI_v {first : State} {o : Option Outcome} {idx : List Nat} {a : Term} {x k : Int32} (ha : a.eval args first o idx s = some (.int x)) (q : (Jvm.Cond.not (.eq a (.int k))).value args first o s idx = some true) : ¬ x = k := by
  have q' := not_v q
  intro e
  subst e
  simp [Jvm.Cond.value, ha, Term.eval] at q'
theorem neR_v {first : State} {o : Option Outcome} {idx : List Nat} {a b : Term} {x y : Addr} (ha : a.eval args first o idx s = some (.ref x)) (hb : b.eval args first o idx s = some (.ref y)) (q : (Jvm.Cond.not (.eq a b)).value args first o s idx = some true) : ¬ x = y := by
  have q' := not_v q
  intro e
  subst e
  simp [Jvm.Cond.value, ha, hb] at q'
theorem eqR_v {first : State} {o : Option Outcome} {idx : List Nat} {a b : Term} {x : Addr} (hb : b.eval args first o idx s = some (.ref x)) (q : (Jvm.Cond.eq a b).value args first o s idx = some true) : a.eval args first o idx s = some (.ref x) := by
  cases ha : a.eval args first o idx s with
  | none => simp [Jvm.Cond.value, ha] at q
  | some x => cases x <;> simp [Jvm.Cond.value, ha, hb] at q ⊢; exact q
theorem callPr (X : Stand p l e R s m args below meth c T locs cells slots) (hx : p.tables.exec = Jvm.exec) (hZ : Z.Warmed39 s.vm) {own : String} {index : Nat} {y : MethodName} {bytes : ByteArray} {maxL : Nat} {ret : Option FieldType} {rm : Room} {as' : Array Value}
    (hown : s.vm.findClass own = some m.cls) (w1 : (Jvm.Cond.methodLink own index y).before a0 Z = true) (w2 : (Jvm.Cond.instanceMethod y).before a0 Z = true) (w3 : (Jvm.Cond.selects y.cls y y).before a0 Z = true) (w4 : (Jvm.Cond.privateMethod y).before a0 Z = true) (w5 : (Jvm.Cond.initialized y.cls).before a0 Z = true) (w6 : (Jvm.Cond.code y bytes maxL ret).before a0 Z = true)
    (hy : y.cls ≠ "java/lang/invoke/MethodHandle" ∧ y.cls ≠ "java/lang/invoke/VarHandle") (hM : Ok l Z y bytes maxL ret rm as' h Q) (eT : T.heap = h) {W : Nat} (hf : rm.frames + 1 ≤ R.frames) (hl : W + (maxL + 11) + rm.locals ≤ R.locals) (hc : cells + rm.cells ≤ R.cells) (hs : slots + rm.slots ≤ R.slots)
    {C : String} {a : Addr} (E : Exa Z h a C) {g : JFrame} (hg : g.method = m) (hsize : g.locals.size = c.maxLocals) {argsL rest : List Value} (hlen : ∀ sig, parseMethodDescriptor y.desc = some sig → argsL.length = sig.parameters.length) (has : (.ref a :: argsL).toArray = as')
    (hstack : g.stack = argsL.reverse ++ .ref a :: rest) (hW : 2 * g.monitorRoom + (rest.map fun v => v.category).sum ≤ W) (hd : decode c.code g.pc = .ok (.invokevirtual index, 3)) :
    ∃ T' v L, Stand p l e R s m args below meth c T' (locs ++ L) (cells + rm.cells) (slots + rm.slots) ∧ Q v T'.heap L ∧ ∀ t, Steps p.tables e below (T'.setTop { g with pc := g.pc + 3, stack := v.toList ++ rest }) t → Steps p.tables e below (T.setTop g) t := by
  subst has
  obtain ⟨cq, q1, q2⟩ := E.cell
  obtain ⟨v, _, ⟨T1, L1, k1, n1⟩, -, X1, ⟨Lc, hQ, l1, y1, z1⟩, st⟩ := X.privateBack hx (y := y) hown (mvT hZ w1) (mvT hZ w2) (mvT hZ w3) (Cond.privateMethod_at (mvP hZ w4 (args := #[]))) (mvT hZ w6) hy (backOf (W := W) (hM []) hZ w6 w5 hf hl) hg hsize (Steps.refl _) (a := a) (by rw [eT]; exact q1) q2 hlen hstack hW hd (fun _ _ => ⟨rfl, eT, hc, hs⟩)
  dsimp only [Pt.U, Pt.locs, Pt.cells, Pt.slots] at X1 l1 y1 z1 st hQ
  subst l1 y1 z1
  exact ⟨T1, v, Lc, X1, hQ, fun t k => st.trans k⟩
theorem callIf (X : Stand p l e R s m args below meth c T locs cells slots) (hx : p.tables.exec = Jvm.exec) (hZ : Z.Warmed39 s.vm) {own C : String} {index count : Nat} {xi y : MethodName} {bytes : ByteArray} {maxL : Nat} {ret : Option FieldType} {rm : Room} {as' : Array Value}
    (hown : s.vm.findClass own = some m.cls) (w1 : (Jvm.Cond.methodLink own index xi).before a0 Z = true) (w2 : (Jvm.Cond.declares xi).before a0 Z = true) (w3 : (Jvm.Cond.interfaceMethod xi.cls xi.cls xi.name xi.desc).before args s = true) (w4 : (Jvm.Cond.selects C xi y).before a0 Z = true) (w5 : (Jvm.Cond.instanceMethod y).before a0 Z = true) (w6 : (Jvm.Cond.publicMethod y).before a0 Z = true) (w7 : (Jvm.Cond.unhidden C xi.name xi.desc).before a0 Z = true) (w8 : (Jvm.Cond.castable C xi.cls).before a0 Z = true) (w9 : (Jvm.Cond.code y bytes maxL ret).before a0 Z = true) (w10 : (Jvm.Cond.initialized y.cls).before a0 Z = true)
    (hy : xi.cls ≠ "java/lang/invoke/MethodHandle" ∧ xi.cls ≠ "java/lang/invoke/VarHandle") (hM : Ok l Z y bytes maxL ret rm as' h Q) (eT : T.heap = h) {W : Nat} (hf : rm.frames + 1 ≤ R.frames) (hl : W + (maxL + 11) + rm.locals ≤ R.locals) (hc : cells + rm.cells ≤ R.cells) (hs : slots + rm.slots ≤ R.slots)
    {a : Addr} (E : Exa Z h a C) {g : JFrame} (hg : g.method = m) (hsize : g.locals.size = c.maxLocals) {argsL rest : List Value} (hlen : ∀ sig, parseMethodDescriptor xi.desc = some sig → argsL.length = sig.parameters.length) (has : (.ref a :: argsL).toArray = as')
    (hstack : g.stack = argsL.reverse ++ .ref a :: rest) (hW : 2 * g.monitorRoom + (rest.map fun v => v.category).sum ≤ W) (hd : decode c.code g.pc = .ok (.invokeinterface index count, 5)) :
    ∃ T' v L, Stand p l e R s m args below meth c T' (locs ++ L) (cells + rm.cells) (slots + rm.slots) ∧ Q v T'.heap L ∧ ∀ t, Steps p.tables e below (T'.setTop { g with pc := g.pc + 5, stack := v.toList ++ rest }) t → Steps p.tables e below (T.setTop g) t := by
  subst has
  obtain ⟨cq, kq, qa, qb, qc⟩ := isOf hZ eT E
  obtain ⟨v, _, ⟨T1, L1, k1, n1⟩, -, X1, ⟨Lc, hQ, l1, y1, z1⟩, st⟩ := X.interfaceBack hx (xi := xi) (y := y) hown (mvT hZ w1) (mvT hZ w2) w3 (mvT hZ w4) (mvT hZ w5) (mvT hZ w6) (mvT hZ w7) (mvT hZ w8) hy (backOf (W := W) (hM []) hZ w9 w10 hf hl) qa qb qc hg hsize (Steps.refl _) hlen hstack hW hd (fun _ _ => ⟨rfl, eT, hc, hs⟩)
  dsimp only [Pt.U, Pt.locs, Pt.cells, Pt.slots] at X1 l1 y1 z1 st hQ
  subst l1 y1 z1
  exact ⟨T1, v, Lc, X1, hQ, fun t k => st.trans k⟩
theorem newAr (X : Stand p l e R s m args below meth c T locs cells slots) (hx : p.tables.exec = Jvm.exec) (hZ : Z.Warmed39 s.vm) {aty : ArrayType} (w : (Jvm.Cond.arrayClass (newarray.typeOf aty)).before a0 Z = true) (eT : T.heap = h) {g : JFrame} (hg : g.method = m) (hd : decode c.code g.pc = .ok (.newarray aty, 2)) {n : Int32} {rest : List Value} (hs : g.stack = .int n :: rest)
    (hn : ¬ n < 0) {cap : Nat} (hcap : n.toNatClampNeg ≤ cap) (hb : cap * 8 ≤ 536870912) (hc : cells + 1 ≤ R.cells) (hl : slots + cap ≤ R.slots) {ad : String} (had : "[" ++ (newarray.typeOf aty).toString = ad) :
    ∃ T' h' k a, a = h.size ∧ Stand p l e R s m args below meth c T' locs (cells + 1) (slots + cap) ∧ T'.heap = h' ∧ Ext h h' ∧ Arv Z h' a k (newarray.typeOf aty) n [] (defaultValue (newarray.typeOf aty)) ∧ Exa Z h' a ad ∧
      ∀ t, Steps p.tables e below (T'.setTop { g with pc := g.pc + 2, stack := .ref a :: rest }) t → Steps p.tables e below (T.setTop g) t := by
  obtain ⟨T2, h2, k, X2, e2, E2, A2, B2, st2⟩ := newPE X hx hZ w eT hg hd hs hn hcap hb hc hl had
  exact ⟨T2, h2, k, h.size, rfl, X2, e2, E2, Arv.new A2 hn, B2, st2⟩
theorem newRr (X : Stand p l e R s m args below meth c T locs cells slots) (hx : p.tables.exec = Jvm.exec) (hZ : Z.Warmed39 s.vm) {own C : String} {index : Nat} (hown : s.vm.findClass own = some m.cls) (w1 : (Jvm.Cond.classLink own index C).before a0 Z = true) (w2 : (Jvm.Cond.arrayOver (.object C)).before a0 Z = true)
    (eT : T.heap = h) {g : JFrame} (hg : g.method = m) (hd : decode c.code g.pc = .ok (.anewarray index, 3)) {n : Int32} {rest : List Value} (hs : g.stack = .int n :: rest) (hn : ¬ n < 0) {cap : Nat} (hcap : n.toNatClampNeg ≤ cap) (hb : cap * 8 ≤ 536870912) (hc : cells + 1 ≤ R.cells) (hl : slots + cap ≤ R.slots) {ad : String} (had : "[" ++ (FieldType.object C).toString = ad) :
    ∃ T' h' k a, a = h.size ∧ Stand p l e R s m args below meth c T' locs (cells + 1) (slots + cap) ∧ T'.heap = h' ∧ Ext h h' ∧ Arv Z h' a k (.object C) n [] .null ∧ Exa Z h' a ad ∧ Ovr Z k C ∧
      ∀ t, Steps p.tables e below (T'.setTop { g with pc := g.pc + 3, stack := .ref a :: rest }) t → Steps p.tables e below (T.setTop g) t := by
  obtain ⟨T2, h2, k, X2, e2, E2, A2, B2, O2, st2⟩ := newRE X hx hZ hown w1 w2 eT hg hd hs hn hcap hb hc hl had
  exact ⟨T2, h2, k, h.size, rfl, X2, e2, E2, Arv.new A2 hn, B2, O2, st2⟩
theorem own_len {t : Term} {a : Addr} {cl : Cell} {ty : FieldType} {k : Int32} (ev : t.eval args s none [] s = some (.ref a)) (A : Arr s s.heap a cl ty) (q : (Term.length t).eval args s none [] s = some (.int k)) : cl.slots.size < 2 ^ 31 ∧ cl.slots.size.toInt32 = k := by
  have ha := Arr.fin (U := s) (Vm.Alike.refl _) A
  simp only [Term.eval, ev] at q
  simp at q
  rw [ha] at q
  simp only [Option.bind_some] at q
  split at q
  · rename_i hlt
    simp only [Option.some.injEq, Value.int.injEq] at q
    exact ⟨hlt, q⟩
  · cases q
theorem own_el {t : Term} {a : Addr} {cl : Cell} {ty : FieldType} {j : Int32} {v : Value} (ev : t.eval args s none [] s = some (.ref a)) (A : Arr s s.heap a cl ty) (q : (Term.elem t (.int j)).eval args s none [] s = some v) : cl.slots[j.toNatClampNeg]? = some v :=
  (elem_in q ev rfl A.1).2
theorem cloneV (X : Stand p l e R s m args below meth c T locs cells slots) (hx : p.tables.exec = Jvm.exec) (hZ : Z.Warmed39 s.vm) {own ad : String} {index : Nat} (hown : s.vm.findClass own = some m.cls)
    (w1 : (Jvm.Cond.methodLink own index ⟨ad, "clone", "()Ljava/lang/Object;"⟩).before a0 Z = true) (w2 : (Jvm.Cond.sameMethod ad "java/lang/Object" "clone" "()Ljava/lang/Object;").before a0 Z = true) (w3 : (Jvm.Cond.native ⟨"java/lang/Object", "clone", "()Ljava/lang/Object;"⟩).before a0 Z = true)
    (w4 : (Jvm.Cond.instanceMethod ⟨"java/lang/Object", "clone", "()Ljava/lang/Object;"⟩).before a0 Z = true) (w5 : (Jvm.Cond.selects ad ⟨ad, "clone", "()Ljava/lang/Object;"⟩ ⟨"java/lang/Object", "clone", "()Ljava/lang/Object;"⟩).before a0 Z = true) (w6 : (Jvm.Cond.castable ad "java/lang/Cloneable").before a0 Z = true)
    (eT : T.heap = h) {b : Addr} {k : ClassId} {ty : FieldType} {z : Int32} {vs : List Value} {dv : Value} (F : Arv Z h b k ty z vs dv) (E : Exa Z h b ad) {g : JFrame} (hg : g.method = m) (hsize : g.locals.size = c.maxLocals) {rest : List Value} (hst : g.stack = .ref b :: rest) (hd : decode c.code g.pc = .ok (.invokevirtual index, 3))
    (hf : 1 ≤ R.frames) {W cap : Nat} (hW : 2 * g.monitorRoom + (rest.map fun v => v.category).sum ≤ W) (hl : W + 14 ≤ R.locals) (hcap : z.toNatClampNeg ≤ cap) (hc : cells + 1 ≤ R.cells) (hsl : slots + cap ≤ R.slots) :
    ∃ T' h' a, a = h.size ∧ Stand p l e R s m args below meth c T' locs (cells + 1) (slots + cap) ∧ T'.heap = h' ∧ Ext h h' ∧ Arv Z h' a k ty z vs dv ∧ Exa Z h' a ad ∧
      ∀ t, Steps p.tables e below (T'.setTop { g with pc := g.pc + 3, stack := .ref a :: rest }) t → Steps p.tables e below (T.setTop g) t := by
  obtain ⟨T2, h2, X2, e2, E2, A2, B2, st2⟩ := cloneH X hx hZ hown w1 w2 w3 w4 w5 w6 eT F.arh E hg hsize hst hd hf hW hl hcap hc hsl
  exact ⟨T2, h2, h.size, rfl, X2, e2, E2, A2, B2, st2⟩
end OwnKit
/-! ## own kit, string constants: the tables may have been warmed by an interned text -/
section OwnKitS
variable {p : Program} {l : Launch} {e : Env} {R : Room} {s : State} {m : MethodId} {args : Array Value} {below : List Frame} {meth : Method} {c : Code} {T T' : State} {locs : List Loc} {cells slots : Nat} {Q : Option Value → Heap → List Loc → Prop} {f f' : JFrame} {Z : State} {a0 : Array Value} {h h' : Heap} {EL : List (String × Nat)} {vm0 : Vm} {k0 : Nat}
def GoS (p : Program) (e : Env) (s : State) (below : List Frame) (R : Room) (Z : State) (EL : List (String × Nat)) (Q : Option Value → Heap → List Loc → Prop) (T : State) (f : JFrame) : Prop :=
  ∃ s₂ o, Steps p.tables e below (T.setTop f) s₂ ∧ s₂.status = .running ∧ Ended s₂ below o ∧ ∃ v L, o = .returned v ∧ Q v s₂.heap L ∧ CHr Z EL s.vm s.heap s₂.vm s₂.heap ∧ ReturnedEndW s o s₂ L R.cells R.slots
theorem GoS.of (k : ∀ t, Steps p.tables e below (T'.setTop f') t → Steps p.tables e below (T.setTop f) t) (G : GoS p e s below R Z EL Q T' f') : GoS p e s below R Z EL Q T f := by
  obtain ⟨s2, o, h1, h2⟩ := G
  exact ⟨s2, o, k _ h1, h2⟩
theorem GoS.cast (q : f = f') (G : GoS p e s below R Z EL Q T f') : GoS p e s below R Z EL Q T f := q ▸ G
theorem GoS.fin (X : Stand p l e R (s.setVm vm0) m args below meth c T locs cells slots) (hlk : meth.locks = false) (hS : s.Since vm0 k0) (hk : k0 ≤ h.size) (hZ : Z.Warmed39 vm0) (hEL : EW Z a0 EL) (C : CHr Z EL s.vm s.heap vm0 h) (eT : T.heap = h) {v : Option Value} (hv : meth.sig.returnType = none → v = none) (hc : cells ≤ R.cells) (hs : slots ≤ R.slots) (hq : Q v T.heap locs)
    (step : ∀ fs, (∀ (f : JFrame) (acts : List Action), f.method = m → f.locked = none → f.entered = [] → (doReturn e (T.setTop f) acts v).1 = T.setFrames fs) → Steps p.tables e below (T.setTop f) (T.setFrames fs)) : GoS p e s below R Z EL Q T f := by
  subst eT
  obtain ⟨fs, hr, hrun, hended, hW⟩ := X.leaveW hS hk hv hlk
  have A := CHv.at X hZ hEL C.1
  exact ⟨_, _, step fs hr, hrun, hended, v, locs, rfl, hq, C.trans A, hW.1, hW.2.1, hW.2.2.1, hW.2.2.2.mono hc hs⟩
theorem GoS.retO (X : Stand p l e R (s.setVm vm0) m args below meth c T locs cells slots) (hx : p.tables.exec = Jvm.exec) (hlk : meth.locks = false) (hS : s.Since vm0 k0) (hk : k0 ≤ h.size) (hZ : Z.Warmed39 vm0) (hEL : EW Z a0 EL) (C : CHr Z EL s.vm s.heap vm0 h) (eT : T.heap = h) {pc : Nat} {Ls : Array Slot} {w : Value} {t : FieldType} {i : Instr} {rest : List Value} (hret : meth.sig.returnType = some t) (hn : narrow t w = w)
    (hi : (i = .ireturn ∧ (t = .int ∨ t = .boolean ∨ t = .byte ∨ t = .char ∨ t = .short) ∧ ∃ z, w = .int z) ∨ (i = .lreturn ∧ t = .long ∧ ∃ z, w = .long z) ∨ (i = .dreturn ∧ t = .double ∧ ∃ z, w = .double z) ∨ (i = .freturn ∧ t = .float ∧ ∃ z, w = .float z) ∨ (i = .areturn ∧ t.isReference = true ∧ w.isRef = true))
    (hd : decode c.code pc = .ok (i, 1)) (hc : cells ≤ R.cells) (hs : slots ≤ R.slots) (hq : Q (some w) T.heap locs) : GoS p e s below R Z EL Q T (mkF m pc Ls (w :: rest)) :=
  GoS.fin X hlk hS hk hZ hEL C eT (fun h => by rw [hret] at h; cases h) hc hs hq (fun fs hr => retOut X hx hret hn hi hd hr)
theorem GoS.retI (X : Stand p l e R (s.setVm vm0) m args below meth c T locs cells slots) (hx : p.tables.exec = Jvm.exec) (hlk : meth.locks = false) (hS : s.Since vm0 k0) (hk : k0 ≤ h.size) (hZ : Z.Warmed39 vm0) (hEL : EW Z a0 EL) (C : CHr Z EL s.vm s.heap vm0 h) (eT : T.heap = h) (hret : meth.sig.returnType = some .int) {pc : Nat} {Ls : Array Slot} {z : Int32} {rest : List Value}
    (hd : decode c.code pc = .ok (.ireturn, 1)) (hc : cells ≤ R.cells) (hs : slots ≤ R.slots) (hq : Q (some (.int z)) T.heap locs) : GoS p e s below R Z EL Q T (mkF m pc Ls (.int z :: rest)) :=
  GoS.retO X hx hlk hS hk hZ hEL C eT hret rfl (Or.inl ⟨rfl, Or.inl rfl, _, rfl⟩) hd hc hs hq
theorem GoS.retA (X : Stand p l e R (s.setVm vm0) m args below meth c T locs cells slots) (hx : p.tables.exec = Jvm.exec) (hlk : meth.locks = false) (hS : s.Since vm0 k0) (hk : k0 ≤ h.size) (hZ : Z.Warmed39 vm0) (hEL : EW Z a0 EL) (C : CHr Z EL s.vm s.heap vm0 h) (eT : T.heap = h) {t : FieldType} (hret : meth.sig.returnType = some t) (ht : t.isReference = true) {pc : Nat} {Ls : Array Slot} {w : Value} {rest : List Value}
    (hw : w.isRef = true) (hd : decode c.code pc = .ok (.areturn, 1)) (hc : cells ≤ R.cells) (hs : slots ≤ R.slots) (hq : Q (some w) T.heap locs) : GoS p e s below R Z EL Q T (mkF m pc Ls (w :: rest)) :=
  GoS.retO X hx hlk hS hk hZ hEL C eT hret (by cases t <;> first | (cases ht; done) | rfl) (Or.inr (Or.inr (Or.inr (Or.inr ⟨rfl, ht, hw⟩)))) hd hc hs hq
theorem GoS.retB (X : Stand p l e R (s.setVm vm0) m args below meth c T locs cells slots) (hx : p.tables.exec = Jvm.exec) (hlk : meth.locks = false) (hS : s.Since vm0 k0) (hk : k0 ≤ h.size) (hZ : Z.Warmed39 vm0) (hEL : EW Z a0 EL) (C : CHr Z EL s.vm s.heap vm0 h) (eT : T.heap = h) {t : FieldType} (hret : meth.sig.returnType = some t) (ht : t = .boolean ∨ t = .byte ∨ t = .char ∨ t = .short) {pc : Nat} {Ls : Array Slot} {z : Int32} {rest : List Value}
    (hd : decode c.code pc = .ok (.ireturn, 1)) (hc : cells ≤ R.cells) (hs : slots ≤ R.slots) {z' : Int32} (hz : nar t z = z') (hq : Q (some (.int z')) T.heap locs) : GoS p e s below R Z EL Q T (mkF m pc Ls (.int z :: rest)) := by
  subst hz
  exact GoS.fin X hlk hS hk hZ hEL C eT (fun h => by rw [hret] at h; cases h) hc hs hq (fun fs hr => retN X hx hret ht hd hr)
theorem GoS.retV (X : Stand p l e R (s.setVm vm0) m args below meth c T locs cells slots) (hx : p.tables.exec = Jvm.exec) (hlk : meth.locks = false) (hS : s.Since vm0 k0) (hk : k0 ≤ h.size) (hZ : Z.Warmed39 vm0) (hEL : EW Z a0 EL) (C : CHr Z EL s.vm s.heap vm0 h) (eT : T.heap = h) (hret : meth.sig.returnType = none) {pc : Nat} {Ls : Array Slot}
    (hd : decode c.code pc = .ok (.return_, 1)) (hc : cells ≤ R.cells) (hs : slots ≤ R.slots) (hq : Q none T.heap locs) : GoS p e s below R Z EL Q T (mkF m pc Ls []) :=
  GoS.fin X hlk hS hk hZ hEL C eT (fun _ => rfl) hc hs hq (fun fs hr => X.returnOut hx hret hd hr)
def OkS (l : Launch) (Z : State) (EL : List (String × Nat)) (y : MethodName) (bytes : ByteArray) (maxL : Nat) (ret : Option FieldType) (rm : Room) (as' : Array Value) (h : Heap) (Q : Option Value → Heap → List Loc → Prop) : Prop :=
  ∀ ws : List Jvm.Cond, MetFree l y (head1 (Jvm.Cond.code y bytes maxL ret :: ws) rm) (fun a U => a = as' ∧ Z.Warmed39 U.vm ∧ U.heap = h ∧ CHv Z EL U.vm h) (fun _ _ _ _ _ => True) (fun _ U o U' => ∃ v L, o = .returned v ∧ Q v U'.heap L ∧ CHr Z EL U.vm U.heap U'.vm U'.heap ∧ ReturnedEndW U o U' L rm.cells rm.slots)
theorem OkS.mk {y : MethodName} {bytes : ByteArray} {maxL : Nat} {ret : Option FieldType} {rm : Room} {as' : Array Value} (hn : plainFor y = true)
    (k : ∀ p e s m below meth c s₁, p.tables.exec = Jvm.exec → c.code = bytes → c.maxLocals = maxL → s.vm.findClass y.cls = some m.cls → meth.name = y.name → meth.sig.returnType = ret → meth.locks = false → Z.Warmed39 s.vm → s₁.heap = h → CHr Z EL s.vm s.heap s.vm h → s.Since s.vm 0 → Stand p l e rm (s.setVm s.vm) m as' below meth c s₁ [] 0 0 → GoS p e s below rm Z EL Q s₁ (entryFrame m as' maxL)) :
    OkS l Z EL y bytes maxL ret rm as' h Q := by
  intro ws
  refine MetFree.of_bodySF hn hisR ?_
  intro p e s m args below meth c s₁ Bd hml0 hP hK
  obtain ⟨rfl, hZ, hh, hC⟩ := hP
  exact k p e s m below meth c s₁ Bd.exec Bd.bytes hml0 (findClass_of_methodNamed Bd.named) (name_of_methodNamed Bd.named Bd.method).1 Bd.returns Bd.notSynchronized hZ (by rw [← hh, Bd.state]; rfl) (by rw [hh]; exact CHr.refl hC) ((State.WarmedH.refl s).since 0) (Stand.of_body Bd)
theorem callStS (X : Stand p l e R (s.setVm vm0) m args below meth c T locs cells slots) (hx : p.tables.exec = Jvm.exec) (hZ : Z.Warmed39 vm0) {own : String} {index : Nat} {y : MethodName} {bytes : ByteArray} {maxL : Nat} {ret : Option FieldType} {rm : Room} {as' : Array Value}
    (hS : s.Since vm0 k0) (hk : k0 ≤ h.size) (hEL : EW Z a0 EL) (H : CHv Z EL vm0 h)
    (hown : vm0.findClass own = some m.cls) (w1 : (Jvm.Cond.methodLink own index y).before a0 Z = true) (w2 : (Jvm.Cond.static y).before a0 Z = true) (w3 : (Jvm.Cond.initialized y.cls).before a0 Z = true) (w4 : (Jvm.Cond.code y bytes maxL ret).before a0 Z = true)
    (hy : y.cls ≠ "java/lang/invoke/MethodHandle" ∧ y.cls ≠ "java/lang/invoke/VarHandle") (hM : OkS l Z EL y bytes maxL ret rm as' h Q) (eT : T.heap = h) {W : Nat} (hf : rm.frames + 1 ≤ R.frames) (hl : W + (maxL + 11) + rm.locals ≤ R.locals) (hc : cells + rm.cells ≤ R.cells) (hs : slots + rm.slots ≤ R.slots)
    {g : JFrame} (hg : g.method = m) (hsize : g.locals.size = c.maxLocals) {argsL rest : List Value} (hlen : ∀ sig, parseMethodDescriptor y.desc = some sig → argsL.length = sig.parameters.length) (has : argsL.toArray = as')
    (hstack : g.stack = argsL.reverse ++ rest) (hW : 2 * g.monitorRoom + (rest.map fun v => v.category).sum ≤ W) (hd : decode c.code g.pc = .ok (.invokestatic index, 3)) :
    ∃ T' v L, Stand p l e R (s.setVm T'.vm) m args below meth c T' (locs ++ L) (cells + rm.cells) (slots + rm.slots) ∧ Q v T'.heap L ∧ s.Since T'.vm T'.heap.size ∧ h.size ≤ T'.heap.size ∧ Z.Warmed39 T'.vm ∧ T'.vm.findClass own = some m.cls ∧ CHr Z EL vm0 h T'.vm T'.heap ∧ ∀ t, Steps p.tables e below (T'.setTop { g with pc := g.pc + 3, stack := v.toList ++ rest }) t → Steps p.tables e below (T.setTop g) t := by
  subst has
  subst eT
  obtain ⟨v, _, ⟨T1, L1, k1, n1⟩, -, X1, S1, g1, ⟨Lc, hQ, l1, y1, z1, c1⟩, st⟩ := callSS X hx (y := y) hown (mvT (s := s.setVm vm0) hZ w1) (mvT (s := s.setVm vm0) hZ w2) (mvT (s := s.setVm vm0) hZ w3) (mvT (s := s.setVm vm0) hZ w4) hy (backOfSH (W := W) (hM []) hZ w4 w3 hf hl hEL H) hg hsize hlen hstack hW hd (fun _ _ => ⟨rfl, rfl, hc, hs⟩)
  dsimp only [Pt.U, Pt.locs, Pt.cells, Pt.slots] at X1 l1 y1 z1 st hQ S1 g1 c1
  subst l1 y1 z1
  exact ⟨T1, v, Lc, X1, hQ, foldS hS hk S1 g1, g1, State.Warmed39.trans (t := s.setVm vm0) hZ S1.1, by rw [S1.1.alike.findClass]; exact hown, c1, fun t k => st.trans k⟩
theorem callNewS (X : Stand p l e R (s.setVm vm0) m args below meth c T locs cells slots) (hx : p.tables.exec = Jvm.exec) (hZ : Z.Warmed39 vm0) {own : String} {index : Nat} {y : MethodName} {bytes : ByteArray} {maxL : Nat} {rm : Room} {as' : Array Value} (hy1 : y.name = "<init>")
    (hS : s.Since vm0 k0) (hk : k0 ≤ h.size) (hEL : EW Z a0 EL) (H : CHv Z EL vm0 h)
    (hown : vm0.findClass own = some m.cls) (w1 : (Jvm.Cond.methodLink own index y).before a0 Z = true) (w2 : (Jvm.Cond.instanceMethod y).before a0 Z = true) (w3 : (Jvm.Cond.initialized y.cls).before a0 Z = true) (w4 : (Jvm.Cond.code y bytes maxL none).before a0 Z = true)
    (hy : y.cls ≠ "java/lang/invoke/MethodHandle" ∧ y.cls ≠ "java/lang/invoke/VarHandle") (hM : OkS l Z EL y bytes maxL none rm as' h Q) (eT : T.heap = h) {W : Nat} (hf : rm.frames + 1 ≤ R.frames) (hl : W + (maxL + 11) + rm.locals ≤ R.locals) (hc : cells + rm.cells ≤ R.cells) (hs : slots + rm.slots ≤ R.slots)
    {g : JFrame} (hg : g.method = m) (hsize : g.locals.size = c.maxLocals) {a : Addr} {argsL rest : List Value} (hlen : ∀ sig, parseMethodDescriptor y.desc = some sig → argsL.length = sig.parameters.length) (has : (.ref a :: argsL).toArray = as')
    (hstack : g.stack = argsL.reverse ++ .ref a :: rest) (hW : 2 * g.monitorRoom + (rest.map fun v => v.category).sum ≤ W) (hd : decode c.code g.pc = .ok (.invokespecial index, 3)) :
    ∃ T' v L, Stand p l e R (s.setVm T'.vm) m args below meth c T' (locs ++ L) (cells + rm.cells) (slots + rm.slots) ∧ Q v T'.heap L ∧ s.Since T'.vm T'.heap.size ∧ h.size ≤ T'.heap.size ∧ Z.Warmed39 T'.vm ∧ T'.vm.findClass own = some m.cls ∧ CHr Z EL vm0 h T'.vm T'.heap ∧ ∀ t, Steps p.tables e below (T'.setTop { g with pc := g.pc + 3, stack := v.toList ++ rest }) t → Steps p.tables e below (T.setTop g) t := by
  subst has
  subst eT
  obtain ⟨v, _, ⟨T1, L1, k1, n1⟩, -, X1, S1, g1, ⟨Lc, hQ, l1, y1, z1, c1⟩, st⟩ := X.specialBackS hx (y := y) hy1 hown (mvT (s := s.setVm vm0) hZ w1) (mvT (s := s.setVm vm0) hZ w2) (mvT (s := s.setVm vm0) hZ w4) hy (backOfSH (W := W) (hM []) hZ w4 w3 hf hl hEL H) hg hsize (Steps.refl _) (a := a) hlen hstack hW hd (fun _ _ => ⟨rfl, rfl, hc, hs⟩)
  dsimp only [Pt.U, Pt.locs, Pt.cells, Pt.slots] at X1 l1 y1 z1 st hQ S1 g1 c1
  subst l1 y1 z1
  exact ⟨T1, v, Lc, X1, hQ, foldS hS hk S1 g1, g1, State.Warmed39.trans (t := s.setVm vm0) hZ S1.1, by rw [S1.1.alike.findClass]; exact hown, c1, fun t k => st.trans k⟩
theorem callViS (X : Stand p l e R (s.setVm vm0) m args below meth c T locs cells slots) (hx : p.tables.exec = Jvm.exec) (hZ : Z.Warmed39 vm0) {own C : String} {index : Nat} {y z : MethodName} {bytes : ByteArray} {maxL : Nat} {ret : Option FieldType} {rm : Room} {as' : Array Value}
    (hS : s.Since vm0 k0) (hk : k0 ≤ h.size) (hEL : EW Z a0 EL) (H : CHv Z EL vm0 h)
    (hown : vm0.findClass own = some m.cls) (w1 : (Jvm.Cond.methodLink own index y).before a0 Z = true) (w2 : (Jvm.Cond.declares y).before a0 Z = true) (nf : NotFace (s.setVm vm0) y) (w3 : (Jvm.Cond.selects C y z).before a0 Z = true) (w4 : (Jvm.Cond.instanceMethod z).before a0 Z = true) (w5 : (Jvm.Cond.code z bytes maxL ret).before a0 Z = true) (w6 : (Jvm.Cond.initialized z.cls).before a0 Z = true)
    (hy : y.cls ≠ "java/lang/invoke/MethodHandle" ∧ y.cls ≠ "java/lang/invoke/VarHandle") (hM : OkS l Z EL z bytes maxL ret rm as' h Q) (eT : T.heap = h) {W : Nat} (hf : rm.frames + 1 ≤ R.frames) (hl : W + (maxL + 11) + rm.locals ≤ R.locals) (hc : cells + rm.cells ≤ R.cells) (hs : slots + rm.slots ≤ R.slots)
    {a : Addr} (E : Exa Z h a C) {g : JFrame} (hg : g.method = m) (hsize : g.locals.size = c.maxLocals) {argsL rest : List Value} (hlen : ∀ sig, parseMethodDescriptor y.desc = some sig → argsL.length = sig.parameters.length) (has : (.ref a :: argsL).toArray = as')
    (hstack : g.stack = argsL.reverse ++ .ref a :: rest) (hW : 2 * g.monitorRoom + (rest.map fun v => v.category).sum ≤ W) (hd : decode c.code g.pc = .ok (.invokevirtual index, 3)) :
    ∃ T' v L, Stand p l e R (s.setVm T'.vm) m args below meth c T' (locs ++ L) (cells + rm.cells) (slots + rm.slots) ∧ Q v T'.heap L ∧ s.Since T'.vm T'.heap.size ∧ h.size ≤ T'.heap.size ∧ Z.Warmed39 T'.vm ∧ T'.vm.findClass own = some m.cls ∧ CHr Z EL vm0 h T'.vm T'.heap ∧ ∀ t, Steps p.tables e below (T'.setTop { g with pc := g.pc + 3, stack := v.toList ++ rest }) t → Steps p.tables e below (T.setTop g) t := by
  subst has
  subst eT
  obtain ⟨cq, kq, qa, qb, qc⟩ := isOf (s := s.setVm vm0) hZ rfl E
  obtain ⟨v, _, ⟨T1, L1, k1, n1⟩, -, X1, S1, g1, ⟨Lc, hQ, l1, y1, z1, c1⟩, st⟩ := X.virtualBackS hx (y := y) (z := z) hown (mvT (s := s.setVm vm0) hZ w1) (mvT (s := s.setVm vm0) hZ w2) nf (mvT (s := s.setVm vm0) hZ w3) (mvT (s := s.setVm vm0) hZ w4) hy (backOfSH (W := W) (hM []) hZ w5 w6 hf hl hEL H) qa qc hg hsize (Steps.refl _) hlen hstack hW hd (fun _ _ => ⟨rfl, rfl, hc, hs⟩)
  dsimp only [Pt.U, Pt.locs, Pt.cells, Pt.slots] at X1 l1 y1 z1 st hQ S1 g1 c1
  subst l1 y1 z1
  exact ⟨T1, v, Lc, X1, hQ, foldS hS hk S1 g1, g1, State.Warmed39.trans (t := s.setVm vm0) hZ S1.1, by rw [S1.1.alike.findClass]; exact hown, c1, fun t k => st.trans k⟩
open Jvm.Free.SB Jvm.Free.SBG in
theorem own_safeNull {x : Addr} {vm : Vm} (hal : Z.vm.Alike vm) (E : Exa Z h x "java/lang/String") (F : Fld Z h x "java/lang/String" "value" "[B" .null) : Safe Z EL vm h x := fun B => by
  obtain ⟨cell, k, e1, e2, e3, -, -⟩ := E
  obtain ⟨p, -, u, a, -, q, -, G, rfl | rfl⟩ := B
  · have hh := (show h[q.sa]? = some q.sC from G.ha)
    obtain ⟨cell', cf, k', i, f, f1, f2, f3, f4, f5, f6, f7⟩ := F
    cases hh.symm.trans f1
    obtain ⟨cS, ⟨⟨s1, s2, s3, ⟨cv, kv, iv, s4, s4'⟩, s5, s6, s7, s8, r⟩, -⟩, -⟩ := G
    obtain ⟨kv', z4⟩ := ff_back (U := Wst Z vm h) hal s4
    cases f2.symm.trans z4
    rw [s8] at f7; cases f7
  · cases (show h[q.sd]? = some q.SA from G.hd).symm.trans e1
    obtain ⟨cS, -, -, fB, -⟩ := G
    have fB : vm.findClass "[B" = some q.SA.cls := fB
    rw [hal.findClass] at fB
    obtain ⟨k1, q1, q2⟩ := Vm.findClass_spec fB
    obtain ⟨k2, q3, q4⟩ := Vm.findClass_spec e2
    cases q1.symm.trans q3
    exact absurd (q2.symm.trans q4) (by decide)
end OwnKitS
theorem own_c255 (x : Int32) : nar .char (x &&& 255).toUInt32.toUInt16.toUInt32.toInt32 = x &&& 255 := by
  rw [i2c_mask]
  exact i2c_mask x
theorem own_f255 (x : Int32) : fits .char (.int (x &&& 255)) = true := by
  rw [← own_c255]
  exact fits_nar_char _
theorem own_b8 (x : Int32) : nar .byte x.toInt8.toInt32 = x.toInt8.toInt32 := by
  show x.toInt8.toInt32.toInt8.toInt32 = _
  rw [Int8.toInt8_toInt32]
theorem own_le255 (x : Int32) : ¬ ((255 : Int32) < (x &&& (255 : Int32))) := by
  have h1 := c_mask x 255 8 (by decide) (by decide)
  rw [Int32.lt_iff_toInt_lt, h1]
  show ¬ (255 : Int) < _
  omega
def own_Ctx (Z : State) (s_FLAG : Addr) (s_COMPACT_STRINGS : Int32) : Prop :=
  (Sta Z Z.heap "com/example/sealwright/sealwright/Arguments$Kind" "FLAG" "Lcom/example/sealwright/sealwright/Arguments$Kind;" (.ref s_FLAG)) ∧
  (Exa Z Z.heap s_FLAG "com/example/sealwright/sealwright/Arguments$Kind") ∧
  (Sta Z Z.heap "java/lang/String" "COMPACT_STRINGS" "Z" (.int s_COMPACT_STRINGS)) ∧
  (¬ (s_COMPACT_STRINGS = (0 : Int32)))
def own_EL : List (String × Nat) := [("java/lang/String", 7)]
theorem own_EW {Z : State} {a0 : Array Value} (hw : ∀ d ∈ tables_1, d.before a0 Z = true) : EW Z a0 own_EL := (EW.cons (hw _ (List.mem_of_getElem? (i := 68) rfl)) (by decide +kernel) EW.nil)
theorem own_wS {Z : State} {a0 : Array Value} (hw : ∀ d ∈ tables_1, d.before a0 Z = true) : ∀ a ∈ Bundle.stringAtoms, a.before a0 Z = true := by
  intro a ha
  simp only [Bundle.stringAtoms, List.mem_cons, List.not_mem_nil, or_false] at ha
  rcases ha with rfl | rfl | rfl | rfl | rfl | rfl | rfl
  · exact (hw _ (List.mem_of_getElem? (i := 3) rfl))
  · exact (hw _ (List.mem_of_getElem? (i := 2) rfl))
  · exact (hw _ (List.mem_of_getElem? (i := 19) rfl))
  · exact (hw _ (List.mem_of_getElem? (i := 29) rfl))
  · exact (hw _ (List.mem_of_getElem? (i := 27) rfl))
  · exact (hw _ (List.mem_of_getElem? (i := 69) rfl))
  · exact (hw _ (List.mem_of_getElem? (i := 70) rfl))
theorem d_jdk_52_method_21_code_0 : decode jdk_52_method_21_code 0 = .ok (.iconst 0, 1) := by decide +kernel
theorem d_jdk_52_method_21_code_1 : decode jdk_52_method_21_code 1 = .ok (.istore 5, 2) := by decide +kernel
theorem d_jdk_52_method_21_code_3 : decode jdk_52_method_21_code 3 = .ok (.iload 5, 2) := by decide +kernel
theorem d_jdk_52_method_21_code_5 : decode jdk_52_method_21_code 5 = .ok (.iload 4, 2) := by decide +kernel
theorem d_jdk_52_method_21_code_7 : decode jdk_52_method_21_code 7 = .ok (.if_icmp .ge 37, 3) := by decide +kernel
theorem d_jdk_52_method_21_code_10 : decode jdk_52_method_21_code 10 = .ok (.aload_n 0, 1) := by decide +kernel
theorem d_jdk_52_method_21_code_11 : decode jdk_52_method_21_code 11 = .ok (.iload_n 1, 1) := by decide +kernel
theorem d_jdk_52_method_21_code_12 : decode jdk_52_method_21_code 12 = .ok (.caload, 1) := by decide +kernel
theorem d_jdk_52_method_21_code_13 : decode jdk_52_method_21_code 13 = .ok (.istore 6, 2) := by decide +kernel
theorem d_jdk_52_method_21_code_15 : decode jdk_52_method_21_code 15 = .ok (.iload 6, 2) := by decide +kernel
theorem d_jdk_52_method_21_code_17 : decode jdk_52_method_21_code 17 = .ok (.sipush 255, 3) := by decide +kernel
theorem d_jdk_52_method_21_code_20 : decode jdk_52_method_21_code 20 = .ok (.if_icmp .le 6, 3) := by decide +kernel
theorem d_jdk_52_method_21_code_26 : decode jdk_52_method_21_code 26 = .ok (.aload_n 2, 1) := by decide +kernel
theorem d_jdk_52_method_21_code_27 : decode jdk_52_method_21_code 27 = .ok (.iload_n 3, 1) := by decide +kernel
theorem d_jdk_52_method_21_code_28 : decode jdk_52_method_21_code 28 = .ok (.iload 6, 2) := by decide +kernel
theorem d_jdk_52_method_21_code_30 : decode jdk_52_method_21_code 30 = .ok (.i2b, 1) := by decide +kernel
theorem d_jdk_52_method_21_code_31 : decode jdk_52_method_21_code 31 = .ok (.bastore, 1) := by decide +kernel
theorem d_jdk_52_method_21_code_32 : decode jdk_52_method_21_code 32 = .ok (.iinc 1 1, 3) := by decide +kernel
theorem d_jdk_52_method_21_code_35 : decode jdk_52_method_21_code 35 = .ok (.iinc 3 1, 3) := by decide +kernel
theorem d_jdk_52_method_21_code_38 : decode jdk_52_method_21_code 38 = .ok (.iinc 5 1, 3) := by decide +kernel
theorem d_jdk_52_method_21_code_41 : decode jdk_52_method_21_code 41 = .ok (.goto (-38), 3) := by decide +kernel
theorem d_jdk_52_method_21_code_44 : decode jdk_52_method_21_code 44 = .ok (.iload 4, 2) := by decide +kernel
theorem d_jdk_52_method_21_code_46 : decode jdk_52_method_21_code 46 = .ok (.ireturn, 1) := by decide +kernel
theorem ef_rm_comp5_1 (m : MethodId) (sa : Addr) (da : Addr) : entryFrame m #[(.ref sa), (.int (0 : Int32)), (.ref da), (.int (0 : Int32)), (.int (1 : Int32))] 7 = mkF m 0 #[.val (.ref sa), .val (.int (0 : Int32)), .val (.ref da), .val (.int (0 : Int32)), .val (.int (1 : Int32)), .unset, .unset] [] := by first | (simp [entryFrame, mkF, argsToLocals, Value.category]; done) | rfl
theorem pn_java_lang_StringUTF16_compress___CI_BII_I : plainFor (⟨"java/lang/StringUTF16", "compress", "([CI[BII)I"⟩ : MethodName) = true := by first | exact plainFor_of_name (by first | (simp [plainName, overriddenIn]; done) | decide +kernel) | decide +kernel
set_option maxRecDepth 65536 in
set_option maxHeartbeats 40000000 in
theorem rm_comp5_1 {l : Launch} {Z : State} {a0 : Array Value} {s_FLAG : Addr} {s_COMPACT_STRINGS : Int32} (hw : ∀ d ∈ tables_1, d.before a0 Z = true) (G : own_Ctx Z s_FLAG s_COMPACT_STRINGS) (sa : Addr) (da : Addr) (ks : ClassId) (x0 : Int32) (kd : ClassId) (h0 : Heap) (O0 : Ext Z.heap h0) (prem0 : ¬ ((255 : Int32) < x0)) (prem1 : Arv Z h0 sa ks .char (1 : Int32) [(.int x0)] (.int (0 : Int32))) (prem2 : Arv Z h0 da kd .byte (1 : Int32) [(.int (0 : Int32))] (.int (0 : Int32))) (prem3 : Z.heap.size ≤ da) (prem4 : sa ≠ da) :
    Ok l Z (⟨"java/lang/StringUTF16", "compress", "([CI[BII)I"⟩ : MethodName) jdk_52_method_21_code 7 (some .int) ({ frames := 0, cells := 0, slots := 0, locals := 0 } : Room) #[(.ref sa), (.int (0 : Int32)), (.ref da), (.int (0 : Int32)), (.int (1 : Int32))] h0
      (fun v h L => v = some (.int (1 : Int32)) ∧ (Fr Z.heap.size L) ∧ (Keep h0 h [da]) ∧ (Arv Z h da kd .byte (1 : Int32) [(.int (x0.toInt8.toInt32))] (.int (0 : Int32)))) := by
  refine Ok.mk pn_java_lang_StringUTF16_compress___CI_BII_I ?_
  intro p e s m below meth c T0 hx hby hml hown hnm hret hlk hZ e0 X0
  refine Go.cast (ef_rm_comp5_1 m sa da) ?_
  obtain ⟨S_FLAG, E_s_FLAG, S_COMPACT_STRINGS, hne_s_COMPACT_STRINGS_0⟩ := id G
  have N0 := Fr.nil Z.heap.size
  have K0 : Keep h0 h0 [da] := Keep.refl _ _
  refine Go.of (T' := T0) (f' := (mkF m 1 #[.val (.ref sa), .val (.int (0 : Int32)), .val (.ref da), .val (.int (0 : Int32)), .val (.int (1 : Int32)), .unset, .unset] [(.int (0 : Int32))])) (fun _ k => XS.iconst X0.here hx rfl (hb hby d_jdk_52_method_21_code_0) k) ?_
  refine Go.of (T' := T0) (f' := (mkF m 3 #[.val (.ref sa), .val (.int (0 : Int32)), .val (.ref da), .val (.int (0 : Int32)), .val (.int (1 : Int32)), .val (.int (0 : Int32)), .unset] [])) (fun _ k => XS.istore X0.here hx rfl (hb hby d_jdk_52_method_21_code_1) rfl (l' := #[.val (.ref sa), .val (.int (0 : Int32)), .val (.ref da), .val (.int (0 : Int32)), .val (.int (1 : Int32)), .val (.int (0 : Int32)), .unset]) rfl k) ?_
  refine Go.of (T' := T0) (f' := (mkF m 5 #[.val (.ref sa), .val (.int (0 : Int32)), .val (.ref da), .val (.int (0 : Int32)), .val (.int (1 : Int32)), .val (.int (0 : Int32)), .unset] [(.int (0 : Int32))])) (fun _ k => XS.iload X0.here hx rfl (hb hby d_jdk_52_method_21_code_3) rfl k) ?_
  refine Go.of (T' := T0) (f' := (mkF m 7 #[.val (.ref sa), .val (.int (0 : Int32)), .val (.ref da), .val (.int (0 : Int32)), .val (.int (1 : Int32)), .val (.int (0 : Int32)), .unset] [(.int (1 : Int32)), (.int (0 : Int32))])) (fun _ k => XS.iload X0.here hx rfl (hb hby d_jdk_52_method_21_code_5) rfl k) ?_
  refine Go.of (T' := T0) (f' := (mkF m 10 #[.val (.ref sa), .val (.int (0 : Int32)), .val (.ref da), .val (.int (0 : Int32)), .val (.int (1 : Int32)), .val (.int (0 : Int32)), .unset] [])) (fun _ k => XS.icmpNo X0.here hx rfl (hb hby d_jdk_52_method_21_code_7) rfl (tlt (by decide : (0 : Int32) < (1 : Int32))).2.1 k) ?_
  refine Go.of (T' := T0) (f' := (mkF m 11 #[.val (.ref sa), .val (.int (0 : Int32)), .val (.ref da), .val (.int (0 : Int32)), .val (.int (1 : Int32)), .val (.int (0 : Int32)), .unset] [(.ref sa)])) (fun _ k => XS.aloadN X0.here hx rfl (hb hby d_jdk_52_method_21_code_10) rfl rfl k) ?_
  refine Go.of (T' := T0) (f' := (mkF m 12 #[.val (.ref sa), .val (.int (0 : Int32)), .val (.ref da), .val (.int (0 : Int32)), .val (.int (1 : Int32)), .val (.int (0 : Int32)), .unset] [(.int (0 : Int32)), (.ref sa)])) (fun _ k => XS.iloadN X0.here hx rfl (hb hby d_jdk_52_method_21_code_11) rfl k) ?_
  obtain ⟨cl2, Ar2, qk2, S2, Ng2, H2, G2⟩ := id prem1
  have hin2 := inb_of (j := (0 : Int32)) S2 ⟨by decide, by decide⟩
  refine Go.of (T' := T0) (f' := (mkF m 13 #[.val (.ref sa), .val (.int (0 : Int32)), .val (.ref da), .val (.int (0 : Int32)), .val (.int (1 : Int32)), .val (.int (0 : Int32)), .unset] [(.int x0)])) (fun _ k => X0.caload hx (j := (0 : Int32)) (v := (.int x0)) (by rw [e0]; exact Ar2.1) (State.isArrayOf_alike hZ.alike Ar2.2.1) Ar2.2.2 hin2 (H2.at hin2 rfl) (g := (mkF m 12 #[.val (.ref sa), .val (.int (0 : Int32)), .val (.ref da), .val (.int (0 : Int32)), .val (.int (1 : Int32)), .val (.int (0 : Int32)), .unset] [(.int (0 : Int32)), (.ref sa)])) rfl rfl (hb hby d_jdk_52_method_21_code_12) _ k) ?_
  refine Go.of (T' := T0) (f' := (mkF m 15 #[.val (.ref sa), .val (.int (0 : Int32)), .val (.ref da), .val (.int (0 : Int32)), .val (.int (1 : Int32)), .val (.int (0 : Int32)), .val (.int x0)] [])) (fun _ k => XS.istore X0.here hx rfl (hb hby d_jdk_52_method_21_code_13) rfl (l' := #[.val (.ref sa), .val (.int (0 : Int32)), .val (.ref da), .val (.int (0 : Int32)), .val (.int (1 : Int32)), .val (.int (0 : Int32)), .val (.int x0)]) rfl k) ?_
  refine Go.of (T' := T0) (f' := (mkF m 17 #[.val (.ref sa), .val (.int (0 : Int32)), .val (.ref da), .val (.int (0 : Int32)), .val (.int (1 : Int32)), .val (.int (0 : Int32)), .val (.int x0)] [(.int x0)])) (fun _ k => XS.iload X0.here hx rfl (hb hby d_jdk_52_method_21_code_15) rfl k) ?_
  refine Go.of (T' := T0) (f' := (mkF m 20 #[.val (.ref sa), .val (.int (0 : Int32)), .val (.ref da), .val (.int (0 : Int32)), .val (.int (1 : Int32)), .val (.int (0 : Int32)), .val (.int x0)] [(.int (255 : Int32)), (.int x0)])) (fun _ k => XS.sipush X0.here hx rfl (hb hby d_jdk_52_method_21_code_17) k) ?_
  have hc3 : ¬ ((255 : Int32) < x0) := prem0
  refine Go.of (T' := T0) (f' := (mkF m 26 #[.val (.ref sa), .val (.int (0 : Int32)), .val (.ref da), .val (.int (0 : Int32)), .val (.int (1 : Int32)), .val (.int (0 : Int32)), .val (.int x0)] [])) (fun _ k => XS.icmpYes X0.here hx rfl (pc0 := 20) (pc' := 26) rfl (hb hby d_jdk_52_method_21_code_20) rfl (flt hc3).2.2.2 (by decide) (by decide) k) ?_
  refine Go.of (T' := T0) (f' := (mkF m 27 #[.val (.ref sa), .val (.int (0 : Int32)), .val (.ref da), .val (.int (0 : Int32)), .val (.int (1 : Int32)), .val (.int (0 : Int32)), .val (.int x0)] [(.ref da)])) (fun _ k => XS.aloadN X0.here hx rfl (hb hby d_jdk_52_method_21_code_26) rfl rfl k) ?_
  refine Go.of (T' := T0) (f' := (mkF m 28 #[.val (.ref sa), .val (.int (0 : Int32)), .val (.ref da), .val (.int (0 : Int32)), .val (.int (1 : Int32)), .val (.int (0 : Int32)), .val (.int x0)] [(.int (0 : Int32)), (.ref da)])) (fun _ k => XS.iloadN X0.here hx rfl (hb hby d_jdk_52_method_21_code_27) rfl k) ?_
  refine Go.of (T' := T0) (f' := (mkF m 30 #[.val (.ref sa), .val (.int (0 : Int32)), .val (.ref da), .val (.int (0 : Int32)), .val (.int (1 : Int32)), .val (.int (0 : Int32)), .val (.int x0)] [(.int x0), (.int (0 : Int32)), (.ref da)])) (fun _ k => XS.iload X0.here hx rfl (hb hby d_jdk_52_method_21_code_28) rfl k) ?_
  refine Go.of (T' := T0) (f' := (mkF m 31 #[.val (.ref sa), .val (.int (0 : Int32)), .val (.ref da), .val (.int (0 : Int32)), .val (.int (1 : Int32)), .val (.int (0 : Int32)), .val (.int x0)] [(.int (x0.toInt8.toInt32)), (.int (0 : Int32)), (.ref da)])) (fun _ k => XS.i2b X0.here hx rfl (hb hby d_jdk_52_method_21_code_30) rfl k) ?_
  obtain ⟨cl4, Ar4, qk4, S4, Ng4, H4, G4⟩ := id prem2
  obtain ⟨T4, h4, X4, e4, W4, st4⟩ := stB X0 hx hZ e0 Ar4 (j := (0 : Int32)) (inb_of S4 ⟨by decide, by decide⟩) (g := (mkF m 31 #[.val (.ref sa), .val (.int (0 : Int32)), .val (.ref da), .val (.int (0 : Int32)), .val (.int (1 : Int32)), .val (.int (0 : Int32)), .val (.int x0)] [(.int (x0.toInt8.toInt32)), (.int (0 : Int32)), (.ref da)])) rfl rfl (hb hby d_jdk_52_method_21_code_31)
  have W4 : Wr h0 h4 da ((0 : Int32)).toNatClampNeg (.int (x0.toInt8.toInt32)) := Eq.mp (congrArg (fun z => Wr h0 h4 da ((0 : Int32)).toNatClampNeg (Value.int z)) (own_b8 x0)) W4
  have O5 := Old0.wr O0 W4 prem3
  have K5 := Keep.wr K0 W4 (Or.inl (List.mem_of_getElem? (i := 0) rfl))
  have f4 : Arv Z h4 da kd .byte (1 : Int32) [(.int (x0.toInt8.toInt32))] (.int (0 : Int32)) := Arv.set Ar4 qk4 S4 Ng4 H4 G4 (v := (.int (x0.toInt8.toInt32))) (fits_nar_byte _) W4 0 rfl (Nat.le_of_ble_eq_true rfl)
  have N4 := Fr.snoc X4 N0 prem3
  refine Go.of (T' := T4) (f' := (mkF m 32 #[.val (.ref sa), .val (.int (0 : Int32)), .val (.ref da), .val (.int (0 : Int32)), .val (.int (1 : Int32)), .val (.int (0 : Int32)), .val (.int x0)] [])) (fun _ k => st4 _ k) ?_
  refine Go.of (T' := T4) (f' := (mkF m 35 #[.val (.ref sa), .val (.int (1 : Int32)), .val (.ref da), .val (.int (0 : Int32)), .val (.int (1 : Int32)), .val (.int (0 : Int32)), .val (.int x0)] [])) (fun _ k => XS.iinc X4.here hx rfl (hb hby d_jdk_52_method_21_code_32) rfl (l' := #[.val (.ref sa), .val (.int (1 : Int32)), .val (.ref da), .val (.int (0 : Int32)), .val (.int (1 : Int32)), .val (.int (0 : Int32)), .val (.int x0)]) rfl k) ?_
  refine Go.of (T' := T4) (f' := (mkF m 38 #[.val (.ref sa), .val (.int (1 : Int32)), .val (.ref da), .val (.int (1 : Int32)), .val (.int (1 : Int32)), .val (.int (0 : Int32)), .val (.int x0)] [])) (fun _ k => XS.iinc X4.here hx rfl (hb hby d_jdk_52_method_21_code_35) rfl (l' := #[.val (.ref sa), .val (.int (1 : Int32)), .val (.ref da), .val (.int (1 : Int32)), .val (.int (1 : Int32)), .val (.int (0 : Int32)), .val (.int x0)]) rfl k) ?_
  refine Go.of (T' := T4) (f' := (mkF m 41 #[.val (.ref sa), .val (.int (1 : Int32)), .val (.ref da), .val (.int (1 : Int32)), .val (.int (1 : Int32)), .val (.int (1 : Int32)), .val (.int x0)] [])) (fun _ k => XS.iinc X4.here hx rfl (hb hby d_jdk_52_method_21_code_38) rfl (l' := #[.val (.ref sa), .val (.int (1 : Int32)), .val (.ref da), .val (.int (1 : Int32)), .val (.int (1 : Int32)), .val (.int (1 : Int32)), .val (.int x0)]) rfl k) ?_
  refine Go.of (T' := T4) (f' := (mkF m 3 #[.val (.ref sa), .val (.int (1 : Int32)), .val (.ref da), .val (.int (1 : Int32)), .val (.int (1 : Int32)), .val (.int (1 : Int32)), .val (.int x0)] [])) (fun _ k => XS.goto X4.here hx rfl (pc0 := 41) (pc' := 3) rfl (hb hby d_jdk_52_method_21_code_41) (by decide) (by decide) k) ?_
  refine Go.of (T' := T4) (f' := (mkF m 5 #[.val (.ref sa), .val (.int (1 : Int32)), .val (.ref da), .val (.int (1 : Int32)), .val (.int (1 : Int32)), .val (.int (1 : Int32)), .val (.int x0)] [(.int (1 : Int32))])) (fun _ k => XS.iload X4.here hx rfl (hb hby d_jdk_52_method_21_code_3) rfl k) ?_
  refine Go.of (T' := T4) (f' := (mkF m 7 #[.val (.ref sa), .val (.int (1 : Int32)), .val (.ref da), .val (.int (1 : Int32)), .val (.int (1 : Int32)), .val (.int (1 : Int32)), .val (.int x0)] [(.int (1 : Int32)), (.int (1 : Int32))])) (fun _ k => XS.iload X4.here hx rfl (hb hby d_jdk_52_method_21_code_5) rfl k) ?_
  refine Go.of (T' := T4) (f' := (mkF m 44 #[.val (.ref sa), .val (.int (1 : Int32)), .val (.ref da), .val (.int (1 : Int32)), .val (.int (1 : Int32)), .val (.int (1 : Int32)), .val (.int x0)] [])) (fun _ k => XS.icmpYes X4.here hx rfl (pc0 := 7) (pc' := 44) rfl (hb hby d_jdk_52_method_21_code_7) rfl (flt (by decide : ¬ ((1 : Int32) < (1 : Int32)))).2.1 (by decide) (by decide) k) ?_
  refine Go.of (T' := T4) (f' := (mkF m 46 #[.val (.ref sa), .val (.int (1 : Int32)), .val (.ref da), .val (.int (1 : Int32)), .val (.int (1 : Int32)), .val (.int (1 : Int32)), .val (.int x0)] [(.int (1 : Int32))])) (fun _ k => XS.iload X4.here hx rfl (hb hby d_jdk_52_method_21_code_44) rfl k) ?_
  exact Go.retI X4 hx hlk hret (hb hby d_jdk_52_method_21_code_46) (by decide) (by decide) (by rw [e4]; exact ⟨rfl, N4, K5, f4⟩)
theorem d_jdk_52_method_16_code_0 : decode jdk_52_method_16_code 0 = .ok (.iload_n 2, 1) := by decide +kernel
theorem d_jdk_52_method_16_code_1 : decode jdk_52_method_16_code 1 = .ok (.newarray .byte, 2) := by decide +kernel
theorem d_jdk_52_method_16_code_3 : decode jdk_52_method_16_code 3 = .ok (.astore_n 3, 1) := by decide +kernel
theorem d_jdk_52_method_16_code_4 : decode jdk_52_method_16_code 4 = .ok (.aload_n 0, 1) := by decide +kernel
theorem d_jdk_52_method_16_code_5 : decode jdk_52_method_16_code 5 = .ok (.iload_n 1, 1) := by decide +kernel
theorem d_jdk_52_method_16_code_6 : decode jdk_52_method_16_code 6 = .ok (.aload_n 3, 1) := by decide +kernel
theorem d_jdk_52_method_16_code_7 : decode jdk_52_method_16_code 7 = .ok (.iconst 0, 1) := by decide +kernel
theorem d_jdk_52_method_16_code_8 : decode jdk_52_method_16_code 8 = .ok (.iload_n 2, 1) := by decide +kernel
theorem d_jdk_52_method_16_code_9 : decode jdk_52_method_16_code 9 = .ok (.invokestatic 115, 3) := by decide +kernel
theorem pd___CI_BII_I : parseMethodDescriptor "([CI[BII)I" = some ⟨[(.array .char), .int, (.array .byte), .int, .int], some .int⟩ := by decide +kernel
theorem d_jdk_52_method_16_code_12 : decode jdk_52_method_16_code 12 = .ok (.istore 4, 2) := by decide +kernel
theorem d_jdk_52_method_16_code_14 : decode jdk_52_method_16_code 14 = .ok (.iload 4, 2) := by decide +kernel
theorem d_jdk_52_method_16_code_16 : decode jdk_52_method_16_code 16 = .ok (.iload_n 2, 1) := by decide +kernel
theorem d_jdk_52_method_16_code_17 : decode jdk_52_method_16_code 17 = .ok (.if_icmp .eq 40, 3) := by decide +kernel
theorem d_jdk_52_method_16_code_57 : decode jdk_52_method_16_code 57 = .ok (.aload_n 3, 1) := by decide +kernel
theorem d_jdk_52_method_16_code_58 : decode jdk_52_method_16_code 58 = .ok (.areturn, 1) := by decide +kernel
theorem ef_rm_comp3_1 (m : MethodId) (sa : Addr) : entryFrame m #[(.ref sa), (.int (0 : Int32)), (.int (1 : Int32))] 6 = mkF m 0 #[.val (.ref sa), .val (.int (0 : Int32)), .val (.int (1 : Int32)), .unset, .unset, .unset] [] := by first | (simp [entryFrame, mkF, argsToLocals, Value.category]; done) | rfl
theorem pn_java_lang_StringUTF16_compress___CII__B : plainFor (⟨"java/lang/StringUTF16", "compress", "([CII)[B"⟩ : MethodName) = true := by first | exact plainFor_of_name (by first | (simp [plainName, overriddenIn]; done) | decide +kernel) | decide +kernel
set_option maxRecDepth 65536 in
set_option maxHeartbeats 40000000 in
theorem rm_comp3_1 {l : Launch} {Z : State} {a0 : Array Value} {s_FLAG : Addr} {s_COMPACT_STRINGS : Int32} (hw : ∀ d ∈ tables_1, d.before a0 Z = true) (G : own_Ctx Z s_FLAG s_COMPACT_STRINGS) (sa : Addr) (ks : ClassId) (x0 : Int32) (h0 : Heap) (O0 : Ext Z.heap h0) (prem0 : ¬ ((255 : Int32) < x0)) (prem1 : Arv Z h0 sa ks .char (1 : Int32) [(.int x0)] (.int (0 : Int32))) :
    Ok l Z (⟨"java/lang/StringUTF16", "compress", "([CII)[B"⟩ : MethodName) jdk_52_method_16_code 6 (some (.array .byte)) ({ frames := 1, cells := 1, slots := 1, locals := 18 } : Room) #[(.ref sa), (.int (0 : Int32)), (.int (1 : Int32))] h0
      (fun v h L => ∃ da : Addr, ∃ kd : ClassId, v = some (.ref da) ∧ (Fr Z.heap.size L) ∧ (Keep h0 h []) ∧ (h0.size ≤ da) ∧ (Arv Z h da kd .byte (1 : Int32) [(.int (x0.toInt8.toInt32))] (.int (0 : Int32))) ∧ (Exa Z h da "[B")) := by
  refine Ok.mk pn_java_lang_StringUTF16_compress___CII__B ?_
  intro p e s m below meth c T0 hx hby hml hown hnm hret hlk hZ e0 X0
  refine Go.cast (ef_rm_comp3_1 m sa) ?_
  obtain ⟨S_FLAG, E_s_FLAG, S_COMPACT_STRINGS, hne_s_COMPACT_STRINGS_0⟩ := id G
  have N0 := Fr.nil Z.heap.size
  have K0 : Keep h0 h0 [] := Keep.refl _ _
  refine Go.of (T' := T0) (f' := (mkF m 1 #[.val (.ref sa), .val (.int (0 : Int32)), .val (.int (1 : Int32)), .unset, .unset, .unset] [(.int (1 : Int32))])) (fun _ k => XS.iloadN X0.here hx rfl (hb hby d_jdk_52_method_16_code_0) rfl k) ?_
  obtain ⟨T7, h7, k7, b7, q7, X7, e7, E7, V7, A7, st7⟩ := newAr X0 hx hZ (hw _ (List.mem_of_getElem? (i := 19) rfl)) e0 (g := (mkF m 1 #[.val (.ref sa), .val (.int (0 : Int32)), .val (.int (1 : Int32)), .unset, .unset, .unset] [(.int (1 : Int32))])) rfl (hb hby d_jdk_52_method_16_code_1) rfl (by decide) (cap := 1) (by decide) (by decide) (by decide) (by decide) (ad := "[B") (by decide)
  have O8 := Old0.ext O0 E7
  have K8 := Keep.ext K0 E7
  have g_b7 : Z.heap.size ≤ b7 := q7 ▸ O0.1
  have z_b7 : h0.size ≤ b7 := q7 ▸ K0.1
  have ne_sa_b7 : sa ≠ b7 := q7 ▸ Nat.ne_of_lt prem1.lt
  have f9 : Arv Z h7 b7 k7 .byte (1 : Int32) [(.int (0 : Int32))] (.int (0 : Int32)) := Arv.pad V7 (pad_rep [] (.int (0 : Int32)) 1)
  refine Go.of (T' := T7) (f' := (mkF m 3 #[.val (.ref sa), .val (.int (0 : Int32)), .val (.int (1 : Int32)), .unset, .unset, .unset] [(.ref b7)])) (fun _ k => st7 _ k) ?_
  refine Go.of (T' := T7) (f' := (mkF m 4 #[.val (.ref sa), .val (.int (0 : Int32)), .val (.int (1 : Int32)), .val (.ref b7), .unset, .unset] [])) (fun _ k => XS.astoreN X7.here hx rfl (hb hby d_jdk_52_method_16_code_3) rfl rfl (l' := #[.val (.ref sa), .val (.int (0 : Int32)), .val (.int (1 : Int32)), .val (.ref b7), .unset, .unset]) rfl k) ?_
  refine Go.of (T' := T7) (f' := (mkF m 5 #[.val (.ref sa), .val (.int (0 : Int32)), .val (.int (1 : Int32)), .val (.ref b7), .unset, .unset] [(.ref sa)])) (fun _ k => XS.aloadN X7.here hx rfl (hb hby d_jdk_52_method_16_code_4) rfl rfl k) ?_
  refine Go.of (T' := T7) (f' := (mkF m 6 #[.val (.ref sa), .val (.int (0 : Int32)), .val (.int (1 : Int32)), .val (.ref b7), .unset, .unset] [(.int (0 : Int32)), (.ref sa)])) (fun _ k => XS.iloadN X7.here hx rfl (hb hby d_jdk_52_method_16_code_5) rfl k) ?_
  refine Go.of (T' := T7) (f' := (mkF m 7 #[.val (.ref sa), .val (.int (0 : Int32)), .val (.int (1 : Int32)), .val (.ref b7), .unset, .unset] [(.ref b7), (.int (0 : Int32)), (.ref sa)])) (fun _ k => XS.aloadN X7.here hx rfl (hb hby d_jdk_52_method_16_code_6) rfl rfl k) ?_
  refine Go.of (T' := T7) (f' := (mkF m 8 #[.val (.ref sa), .val (.int (0 : Int32)), .val (.int (1 : Int32)), .val (.ref b7), .unset, .unset] [(.int (0 : Int32)), (.ref b7), (.int (0 : Int32)), (.ref sa)])) (fun _ k => XS.iconst X7.here hx rfl (hb hby d_jdk_52_method_16_code_7) k) ?_
  refine Go.of (T' := T7) (f' := (mkF m 9 #[.val (.ref sa), .val (.int (0 : Int32)), .val (.int (1 : Int32)), .val (.ref b7), .unset, .unset] [(.int (1 : Int32)), (.int (0 : Int32)), (.ref b7), (.int (0 : Int32)), (.ref sa)])) (fun _ k => XS.iloadN X7.here hx rfl (hb hby d_jdk_52_method_16_code_8) rfl k) ?_
  have f11 : Arv Z h7 sa ks .char (1 : Int32) [(.int x0)] (.int (0 : Int32)) := (Arv.ext prem1 E7)
  obtain ⟨T10, v10, L10, X10, q10, st10⟩ := callSt X7 hx hZ (y := (⟨"java/lang/StringUTF16", "compress", "([CI[BII)I"⟩ : MethodName)) hown (hw _ (List.mem_of_getElem? (i := 20) rfl)) (hw _ (List.mem_of_getElem? (i := 21) rfl)) (hw _ (List.mem_of_getElem? (i := 17) rfl)) (hw _ (List.mem_of_getElem? (i := 22) rfl)) (by decide) (rm_comp5_1 hw G sa b7 ks x0 k7 h7 O8 (prem0) f11 f9 g_b7 ne_sa_b7) e7 (W := 0) (by decide) (by decide) (by decide) (by decide) (g := (mkF m 9 #[.val (.ref sa), .val (.int (0 : Int32)), .val (.int (1 : Int32)), .val (.ref b7), .unset, .unset] [(.int (1 : Int32)), (.int (0 : Int32)), (.ref b7), (.int (0 : Int32)), (.ref sa)])) rfl (by rw [hml]; rfl) (argsL := [(.ref sa), (.int (0 : Int32)), (.ref b7), (.int (0 : Int32)), (.int (1 : Int32))]) (rest := []) (lenOf pd___CI_BII_I rfl) rfl rfl (by show 2 * 0 + _ ≤ _; exact Nat.le_of_eq rfl) (hb hby d_jdk_52_method_16_code_9)
  obtain ⟨rfl, N10q, K10q, p10_0⟩ := q10
  have N10 := Fr.app N0 N10q
  have O12 := Old0.keep O8 K10q (allS g_b7 all0)
  have K12 := Keep.trans K8 K10q (allS (Or.inr z_b7) all0)
  refine Go.of (T' := T10) (f' := (mkF m 12 #[.val (.ref sa), .val (.int (0 : Int32)), .val (.int (1 : Int32)), .val (.ref b7), .unset, .unset] [(.int (1 : Int32))])) (fun _ k => st10 _ k) ?_
  refine Go.of (T' := T10) (f' := (mkF m 14 #[.val (.ref sa), .val (.int (0 : Int32)), .val (.int (1 : Int32)), .val (.ref b7), .val (.int (1 : Int32)), .unset] [])) (fun _ k => XS.istore X10.here hx rfl (hb hby d_jdk_52_method_16_code_12) rfl (l' := #[.val (.ref sa), .val (.int (0 : Int32)), .val (.int (1 : Int32)), .val (.ref b7), .val (.int (1 : Int32)), .unset]) rfl k) ?_
  refine Go.of (T' := T10) (f' := (mkF m 16 #[.val (.ref sa), .val (.int (0 : Int32)), .val (.int (1 : Int32)), .val (.ref b7), .val (.int (1 : Int32)), .unset] [(.int (1 : Int32))])) (fun _ k => XS.iload X10.here hx rfl (hb hby d_jdk_52_method_16_code_14) rfl k) ?_
  refine Go.of (T' := T10) (f' := (mkF m 17 #[.val (.ref sa), .val (.int (0 : Int32)), .val (.int (1 : Int32)), .val (.ref b7), .val (.int (1 : Int32)), .unset] [(.int (1 : Int32)), (.int (1 : Int32))])) (fun _ k => XS.iloadN X10.here hx rfl (hb hby d_jdk_52_method_16_code_16) rfl k) ?_
  refine Go.of (T' := T10) (f' := (mkF m 57 #[.val (.ref sa), .val (.int (0 : Int32)), .val (.int (1 : Int32)), .val (.ref b7), .val (.int (1 : Int32)), .unset] [])) (fun _ k => XS.icmpYes X10.here hx rfl (pc0 := 17) (pc' := 57) rfl (hb hby d_jdk_52_method_16_code_17) rfl (teq (by decide : (1 : Int32) = (1 : Int32))).1 (by decide) (by decide) k) ?_
  refine Go.of (T' := T10) (f' := (mkF m 58 #[.val (.ref sa), .val (.int (0 : Int32)), .val (.int (1 : Int32)), .val (.ref b7), .val (.int (1 : Int32)), .unset] [(.ref b7)])) (fun _ k => XS.aloadN X10.here hx rfl (hb hby d_jdk_52_method_16_code_57) rfl rfl k) ?_
  have f14 : Exa Z T10.heap b7 "[B" := (Exa.keep A7 K10q)
  exact Go.retA X10 hx hlk hret rfl rfl (hb hby d_jdk_52_method_16_code_58) (by decide) (by decide) ⟨b7, k7, rfl, N10, K12, z_b7, p10_0, f14⟩
theorem d_jdk_52_method_15_code_0 : decode jdk_52_method_15_code 0 = .ok (.iload_n 1, 1) := by decide +kernel
theorem d_jdk_52_method_15_code_1 : decode jdk_52_method_15_code 1 = .ok (.aload_n 0, 1) := by decide +kernel
theorem d_jdk_52_method_15_code_2 : decode jdk_52_method_15_code 2 = .ok (.arraylength, 1) := by decide +kernel
theorem d_jdk_52_method_15_code_3 : decode jdk_52_method_15_code 3 = .ok (.isub, 1) := by decide +kernel
theorem d_jdk_52_method_15_code_4 : decode jdk_52_method_15_code 4 = .ok (.bipush 31, 2) := by decide +kernel
theorem d_jdk_52_method_15_code_6 : decode jdk_52_method_15_code 6 = .ok (.iushr, 1) := by decide +kernel
theorem d_jdk_52_method_15_code_7 : decode jdk_52_method_15_code 7 = .ok (.i2b, 1) := by decide +kernel
theorem d_jdk_52_method_15_code_8 : decode jdk_52_method_15_code 8 = .ok (.ireturn, 1) := by decide +kernel
theorem ef_rm_cfal_1 (m : MethodId) (da : Addr) : entryFrame m #[(.ref da), (.int (1 : Int32))] 2 = mkF m 0 #[.val (.ref da), .val (.int (1 : Int32))] [] := by first | (simp [entryFrame, mkF, argsToLocals, Value.category]; done) | rfl
theorem pn_java_lang_StringUTF16_coderFromArrayLen___BI_B : plainFor (⟨"java/lang/StringUTF16", "coderFromArrayLen", "([BI)B"⟩ : MethodName) = true := by first | exact plainFor_of_name (by first | (simp [plainName, overriddenIn]; done) | decide +kernel) | decide +kernel
set_option maxRecDepth 65536 in
set_option maxHeartbeats 40000000 in
theorem rm_cfal_1 {l : Launch} {Z : State} {a0 : Array Value} {s_FLAG : Addr} {s_COMPACT_STRINGS : Int32} (hw : ∀ d ∈ tables_1, d.before a0 Z = true) (G : own_Ctx Z s_FLAG s_COMPACT_STRINGS) (da : Addr) (kd : ClassId) (vs : List Value) (h0 : Heap) (O0 : Ext Z.heap h0) (prem0 : Arv Z h0 da kd .byte (1 : Int32) vs (.int (0 : Int32))) :
    Ok l Z (⟨"java/lang/StringUTF16", "coderFromArrayLen", "([BI)B"⟩ : MethodName) jdk_52_method_15_code 2 (some .byte) ({ frames := 0, cells := 0, slots := 0, locals := 0 } : Room) #[(.ref da), (.int (1 : Int32))] h0
      (fun v h L => v = some (.int (0 : Int32)) ∧ (h = h0) ∧ (L = [])) := by
  refine Ok.mk pn_java_lang_StringUTF16_coderFromArrayLen___BI_B ?_
  intro p e s m below meth c T0 hx hby hml hown hnm hret hlk hZ e0 X0
  refine Go.cast (ef_rm_cfal_1 m da) ?_
  obtain ⟨S_FLAG, E_s_FLAG, S_COMPACT_STRINGS, hne_s_COMPACT_STRINGS_0⟩ := id G
  have N0 := Fr.nil Z.heap.size
  have K0 : Keep h0 h0 [] := Keep.refl _ _
  refine Go.of (T' := T0) (f' := (mkF m 1 #[.val (.ref da), .val (.int (1 : Int32))] [(.int (1 : Int32))])) (fun _ k => XS.iloadN X0.here hx rfl (hb hby d_jdk_52_method_15_code_0) rfl k) ?_
  refine Go.of (T' := T0) (f' := (mkF m 2 #[.val (.ref da), .val (.int (1 : Int32))] [(.ref da), (.int (1 : Int32))])) (fun _ k => XS.aloadN X0.here hx rfl (hb hby d_jdk_52_method_15_code_1) rfl rfl k) ?_
  obtain ⟨cl15, Ar15, qk15, S15, Ng15, H15, G15⟩ := id prem0
  refine Go.of (T' := T0) (f' := (mkF m 3 #[.val (.ref da), .val (.int (1 : Int32))] [(.int (1 : Int32)), (.int (1 : Int32))])) (fun _ k => X0.arraylength hx (by rw [e0]; exact Ar15.1) (State.isArrayOf_alike hZ.alike Ar15.2.1) (g := (mkF m 2 #[.val (.ref da), .val (.int (1 : Int32))] [(.ref da), (.int (1 : Int32))])) rfl rfl (hb hby d_jdk_52_method_15_code_2) _ (by rw [len_of S15 Ng15]; exact k)) ?_
  refine Go.of (T' := T0) (f' := (mkF m 4 #[.val (.ref da), .val (.int (1 : Int32))] [(.int (0 : Int32))])) (fun _ k => XS.isub X0.here hx rfl (hb hby d_jdk_52_method_15_code_3) rfl k) ?_
  refine Go.of (T' := T0) (f' := (mkF m 6 #[.val (.ref da), .val (.int (1 : Int32))] [(.int (31 : Int32)), (.int (0 : Int32))])) (fun _ k => XS.bipush X0.here hx rfl (hb hby d_jdk_52_method_15_code_4) k) ?_
  refine Go.of (T' := T0) (f' := (mkF m 7 #[.val (.ref da), .val (.int (1 : Int32))] [(.int (0 : Int32))])) (fun _ k => XS.iushr X0.here hx rfl (hb hby d_jdk_52_method_15_code_6) rfl k) ?_
  refine Go.of (T' := T0) (f' := (mkF m 8 #[.val (.ref da), .val (.int (1 : Int32))] [(.int ((0 : Int32).toInt8.toInt32))])) (fun _ k => XS.i2b X0.here hx rfl (hb hby d_jdk_52_method_15_code_7) rfl k) ?_
  exact Go.retB X0 hx hlk hret (by simp) (hb hby d_jdk_52_method_15_code_8) (by decide) (by decide) rfl (by rw [e0]; exact ⟨rfl, rfl, by simp⟩)
theorem d_jdk_42_method_149_code_0 : decode jdk_42_method_149_code 0 = .ok (.aload_n 0, 1) := by decide +kernel
theorem d_jdk_42_method_149_code_1 : decode jdk_42_method_149_code 1 = .ok (.invokespecial 1, 3) := by decide +kernel
theorem d_jdk_42_method_149_code_4 : decode jdk_42_method_149_code 4 = .ok (.iload_n 3, 1) := by decide +kernel
theorem d_jdk_42_method_149_code_5 : decode jdk_42_method_149_code 5 = .ok (.ifCond .ne 22, 3) := by decide +kernel
theorem d_jdk_42_method_149_code_27 : decode jdk_42_method_149_code 27 = .ok (.getstatic 38, 3) := by decide +kernel
theorem d_jdk_42_method_149_code_30 : decode jdk_42_method_149_code 30 = .ok (.ifCond .eq 28, 3) := by decide +kernel
theorem d_jdk_42_method_149_code_33 : decode jdk_42_method_149_code 33 = .ok (.aload_n 1, 1) := by decide +kernel
theorem d_jdk_42_method_149_code_34 : decode jdk_42_method_149_code 34 = .ok (.iload_n 2, 1) := by decide +kernel
theorem d_jdk_42_method_149_code_35 : decode jdk_42_method_149_code 35 = .ok (.iload_n 3, 1) := by decide +kernel
theorem d_jdk_42_method_149_code_36 : decode jdk_42_method_149_code 36 = .ok (.invokestatic 177, 3) := by decide +kernel
theorem pd___CII__B : parseMethodDescriptor "([CII)[B" = some ⟨[(.array .char), .int, .int], some (.array .byte)⟩ := by decide +kernel
theorem d_jdk_42_method_149_code_39 : decode jdk_42_method_149_code 39 = .ok (.astore 5, 2) := by decide +kernel
theorem d_jdk_42_method_149_code_41 : decode jdk_42_method_149_code 41 = .ok (.aload_n 0, 1) := by decide +kernel
theorem d_jdk_42_method_149_code_42 : decode jdk_42_method_149_code 42 = .ok (.aload 5, 2) := by decide +kernel
theorem d_jdk_42_method_149_code_44 : decode jdk_42_method_149_code 44 = .ok (.iload_n 3, 1) := by decide +kernel
theorem d_jdk_42_method_149_code_45 : decode jdk_42_method_149_code 45 = .ok (.invokestatic 47, 3) := by decide +kernel
theorem pd___BI_B : parseMethodDescriptor "([BI)B" = some ⟨[(.array .byte), .int], some .byte⟩ := by decide +kernel
theorem d_jdk_42_method_149_code_48 : decode jdk_42_method_149_code 48 = .ok (.putfield 15, 3) := by decide +kernel
theorem d_jdk_42_method_149_code_51 : decode jdk_42_method_149_code 51 = .ok (.aload_n 0, 1) := by decide +kernel
theorem d_jdk_42_method_149_code_52 : decode jdk_42_method_149_code 52 = .ok (.aload 5, 2) := by decide +kernel
theorem d_jdk_42_method_149_code_54 : decode jdk_42_method_149_code 54 = .ok (.putfield 9, 3) := by decide +kernel
theorem d_jdk_42_method_149_code_57 : decode jdk_42_method_149_code 57 = .ok (.return_, 1) := by decide +kernel
theorem ef_rm_str4_1 (m : MethodId) (so : Addr) (sa : Addr) : entryFrame m #[(.ref so), (.ref sa), (.int (0 : Int32)), (.int (1 : Int32)), .null] 6 = mkF m 0 #[.val (.ref so), .val (.ref sa), .val (.int (0 : Int32)), .val (.int (1 : Int32)), .val .null, .unset] [] := by first | (simp [entryFrame, mkF, argsToLocals, Value.category]; done) | rfl
theorem pn_java_lang_String__init____CIILjava_lang_Void__V : plainFor (⟨"java/lang/String", "<init>", "([CIILjava/lang/Void;)V"⟩ : MethodName) = true := by first | exact plainFor_of_name (by first | (simp [plainName, overriddenIn]; done) | decide +kernel) | decide +kernel
set_option maxRecDepth 65536 in
set_option maxHeartbeats 40000000 in
theorem rm_str4_1 {l : Launch} {Z : State} {a0 : Array Value} {s_FLAG : Addr} {s_COMPACT_STRINGS : Int32} (hw : ∀ d ∈ tables_1, d.before a0 Z = true) (G : own_Ctx Z s_FLAG s_COMPACT_STRINGS) (so : Addr) (sa : Addr) (ks : ClassId) (x0 : Int32) (h0 : Heap) (O0 : Ext Z.heap h0) (prem0 : ¬ ((255 : Int32) < x0)) (prem1 : Exa Z h0 so "java/lang/String") (prem2 : Fld Z h0 so "java/lang/String" "value" "[B" .null) (prem3 : Fld Z h0 so "java/lang/String" "coder" "B" (.int (0 : Int32))) (prem4 : Z.heap.size ≤ so) (prem5 : Arv Z h0 sa ks .char (1 : Int32) [(.int x0)] (.int (0 : Int32))) (prem6 : so ≠ sa) :
    Ok l Z (⟨"java/lang/String", "<init>", "([CIILjava/lang/Void;)V"⟩ : MethodName) jdk_42_method_149_code 6 none ({ frames := 2, cells := 1, slots := 1, locals := 35 } : Room) #[(.ref so), (.ref sa), (.int (0 : Int32)), (.int (1 : Int32)), .null] h0
      (fun v h L => ∃ da : Addr, ∃ kd : ClassId, v = none ∧ (Fr Z.heap.size L) ∧ (Keep h0 h [so]) ∧ (h0.size ≤ da) ∧ (Fld Z h so "java/lang/String" "value" "[B" (.ref da)) ∧ (Fld Z h so "java/lang/String" "coder" "B" (.int (0 : Int32))) ∧ (Arv Z h da kd .byte (1 : Int32) [(.int (x0.toInt8.toInt32))] (.int (0 : Int32))) ∧ (Exa Z h da "[B")) := by
  refine Ok.mk pn_java_lang_String__init____CIILjava_lang_Void__V ?_
  intro p e s m below meth c T0 hx hby hml hown hnm hret hlk hZ e0 X0
  refine Go.cast (ef_rm_str4_1 m so sa) ?_
  obtain ⟨S_FLAG, E_s_FLAG, S_COMPACT_STRINGS, hne_s_COMPACT_STRINGS_0⟩ := id G
  have N0 := Fr.nil Z.heap.size
  have K0 : Keep h0 h0 [so] := Keep.refl _ _
  refine Go.of (T' := T0) (f' := (mkF m 1 #[.val (.ref so), .val (.ref sa), .val (.int (0 : Int32)), .val (.int (1 : Int32)), .val .null, .unset] [(.ref so)])) (fun _ k => XS.aloadN X0.here hx rfl (hb hby d_jdk_42_method_149_code_0) rfl rfl k) ?_
  obtain ⟨T16, X16, e16, st16⟩ := initO X0 hx hZ hown (hw _ (List.mem_of_getElem? (i := 11) rfl)) (hw _ (List.mem_of_getElem? (i := 12) rfl)) (hw _ (List.mem_of_getElem? (i := 13) rfl)) e0 (g := (mkF m 1 #[.val (.ref so), .val (.ref sa), .val (.int (0 : Int32)), .val (.int (1 : Int32)), .val .null, .unset] [(.ref so)])) rfl (by rw [hml]; rfl) rfl (hb hby d_jdk_42_method_149_code_1) (by decide) (W := 0) (by show 2 * 0 + _ ≤ _; exact Nat.le_of_eq rfl) (by decide)
  refine Go.of (T' := T16) (f' := (mkF m 4 #[.val (.ref so), .val (.ref sa), .val (.int (0 : Int32)), .val (.int (1 : Int32)), .val .null, .unset] [])) (fun _ k => st16 _ k) ?_
  refine Go.of (T' := T16) (f' := (mkF m 5 #[.val (.ref so), .val (.ref sa), .val (.int (0 : Int32)), .val (.int (1 : Int32)), .val .null, .unset] [(.int (1 : Int32))])) (fun _ k => XS.iloadN X16.here hx rfl (hb hby d_jdk_42_method_149_code_4) rfl k) ?_
  refine Go.of (T' := T16) (f' := (mkF m 27 #[.val (.ref so), .val (.ref sa), .val (.int (0 : Int32)), .val (.int (1 : Int32)), .val .null, .unset] [])) (fun _ k => XS.ifYes X16.here hx rfl (pc0 := 5) (pc' := 27) rfl (hb hby d_jdk_42_method_149_code_5) rfl ((if0 _ _).trans (feq (by decide : ¬ ((1 : Int32) = (0 : Int32)))).2) (by decide) (by decide) k) ?_
  obtain ⟨T18, X18, e18, st18⟩ := getS2 X16 hx hZ hown (host := "") (Or.inl (hw _ (List.mem_of_getElem? (i := 14) rfl))) Via.refl e16 (Sta.ext O0 S_COMPACT_STRINGS) (g := (mkF m 27 #[.val (.ref so), .val (.ref sa), .val (.int (0 : Int32)), .val (.int (1 : Int32)), .val .null, .unset] [])) rfl (hb hby d_jdk_42_method_149_code_27)
  refine Go.of (T' := T18) (f' := (mkF m 30 #[.val (.ref so), .val (.ref sa), .val (.int (0 : Int32)), .val (.int (1 : Int32)), .val .null, .unset] [(.int s_COMPACT_STRINGS)])) (fun _ k => st18 _ k) ?_
  have hc19 : ¬ (s_COMPACT_STRINGS = (0 : Int32)) := hne_s_COMPACT_STRINGS_0
  refine Go.of (T' := T18) (f' := (mkF m 33 #[.val (.ref so), .val (.ref sa), .val (.int (0 : Int32)), .val (.int (1 : Int32)), .val .null, .unset] [])) (fun _ k => XS.ifNo X18.here hx rfl (hb hby d_jdk_42_method_149_code_30) rfl ((if0 _ _).trans (feq hc19).1) k) ?_
  refine Go.of (T' := T18) (f' := (mkF m 34 #[.val (.ref so), .val (.ref sa), .val (.int (0 : Int32)), .val (.int (1 : Int32)), .val .null, .unset] [(.ref sa)])) (fun _ k => XS.aloadN X18.here hx rfl (hb hby d_jdk_42_method_149_code_33) rfl rfl k) ?_
  refine Go.of (T' := T18) (f' := (mkF m 35 #[.val (.ref so), .val (.ref sa), .val (.int (0 : Int32)), .val (.int (1 : Int32)), .val .null, .unset] [(.int (0 : Int32)), (.ref sa)])) (fun _ k => XS.iloadN X18.here hx rfl (hb hby d_jdk_42_method_149_code_34) rfl k) ?_
  refine Go.of (T' := T18) (f' := (mkF m 36 #[.val (.ref so), .val (.ref sa), .val (.int (0 : Int32)), .val (.int (1 : Int32)), .val .null, .unset] [(.int (1 : Int32)), (.int (0 : Int32)), (.ref sa)])) (fun _ k => XS.iloadN X18.here hx rfl (hb hby d_jdk_42_method_149_code_35) rfl k) ?_
  obtain ⟨T20, v20, L20, X20, q20, st20⟩ := callSt X18 hx hZ (y := (⟨"java/lang/StringUTF16", "compress", "([CII)[B"⟩ : MethodName)) hown (hw _ (List.mem_of_getElem? (i := 15) rfl)) (hw _ (List.mem_of_getElem? (i := 16) rfl)) (hw _ (List.mem_of_getElem? (i := 17) rfl)) (hw _ (List.mem_of_getElem? (i := 18) rfl)) (by decide) (rm_comp3_1 hw G sa ks x0 h0 O0 (prem0) prem5) e18 (W := 0) (by decide) (by decide) (by decide) (by decide) (g := (mkF m 36 #[.val (.ref so), .val (.ref sa), .val (.int (0 : Int32)), .val (.int (1 : Int32)), .val .null, .unset] [(.int (1 : Int32)), (.int (0 : Int32)), (.ref sa)])) rfl (by rw [hml]; rfl) (argsL := [(.ref sa), (.int (0 : Int32)), (.int (1 : Int32))]) (rest := []) (lenOf pd___CII__B rfl) rfl rfl (by show 2 * 0 + _ ≤ _; exact Nat.le_of_eq rfl) (hb hby d_jdk_42_method_149_code_36)
  obtain ⟨da_20, kd_20, rfl, N20q, K20q, p20_0, p20_1, p20_2⟩ := q20
  have N20 := Fr.app N0 N20q
  have O21 := Old0.keep O0 K20q all0
  have K21 := Keep.trans K0 K20q all0
  have z_da_20 : h0.size ≤ da_20 := Nat.le_trans K0.1 p20_0
  have g_da_20 : Z.heap.size ≤ da_20 := Nat.le_trans O0.1 p20_0
  have ne_so_da_20 : so ≠ da_20 := Nat.ne_of_lt (Nat.lt_of_lt_of_le prem1.lt p20_0)
  have ne_sa_da_20 : sa ≠ da_20 := Nat.ne_of_lt (Nat.lt_of_lt_of_le prem5.lt p20_0)
  refine Go.of (T' := T20) (f' := (mkF m 39 #[.val (.ref so), .val (.ref sa), .val (.int (0 : Int32)), .val (.int (1 : Int32)), .val .null, .unset] [(.ref da_20)])) (fun _ k => st20 _ k) ?_
  refine Go.of (T' := T20) (f' := (mkF m 41 #[.val (.ref so), .val (.ref sa), .val (.int (0 : Int32)), .val (.int (1 : Int32)), .val .null, .val (.ref da_20)] [])) (fun _ k => XS.astore X20.here hx rfl (hb hby d_jdk_42_method_149_code_39) rfl rfl (l' := #[.val (.ref so), .val (.ref sa), .val (.int (0 : Int32)), .val (.int (1 : Int32)), .val .null, .val (.ref da_20)]) rfl k) ?_
  refine Go.of (T' := T20) (f' := (mkF m 42 #[.val (.ref so), .val (.ref sa), .val (.int (0 : Int32)), .val (.int (1 : Int32)), .val .null, .val (.ref da_20)] [(.ref so)])) (fun _ k => XS.aloadN X20.here hx rfl (hb hby d_jdk_42_method_149_code_41) rfl rfl k) ?_
  refine Go.of (T' := T20) (f' := (mkF m 44 #[.val (.ref so), .val (.ref sa), .val (.int (0 : Int32)), .val (.int (1 : Int32)), .val .null, .val (.ref da_20)] [(.ref da_20), (.ref so)])) (fun _ k => XS.aload X20.here hx rfl (hb hby d_jdk_42_method_149_code_42) rfl rfl k) ?_
  refine Go.of (T' := T20) (f' := (mkF m 45 #[.val (.ref so), .val (.ref sa), .val (.int (0 : Int32)), .val (.int (1 : Int32)), .val .null, .val (.ref da_20)] [(.int (1 : Int32)), (.ref da_20), (.ref so)])) (fun _ k => XS.iloadN X20.here hx rfl (hb hby d_jdk_42_method_149_code_44) rfl k) ?_
  obtain ⟨T22, v22, L22, X22, q22, st22⟩ := callSt X20 hx hZ (y := (⟨"java/lang/StringUTF16", "coderFromArrayLen", "([BI)B"⟩ : MethodName)) hown (hw _ (List.mem_of_getElem? (i := 23) rfl)) (hw _ (List.mem_of_getElem? (i := 24) rfl)) (hw _ (List.mem_of_getElem? (i := 17) rfl)) (hw _ (List.mem_of_getElem? (i := 25) rfl)) (by decide) (rm_cfal_1 hw G da_20 kd_20 ([(.int (x0.toInt8.toInt32))]) T20.heap O21 p20_1) rfl (W := 1) (by decide) (by decide) (by decide) (by decide) (g := (mkF m 45 #[.val (.ref so), .val (.ref sa), .val (.int (0 : Int32)), .val (.int (1 : Int32)), .val .null, .val (.ref da_20)] [(.int (1 : Int32)), (.ref da_20), (.ref so)])) rfl (by rw [hml]; rfl) (argsL := [(.ref da_20), (.int (1 : Int32))]) (rest := [(.ref so)]) (lenOf pd___BI_B rfl) rfl rfl (by show 2 * 0 + _ ≤ _; exact Nat.le_of_eq rfl) (hb hby d_jdk_42_method_149_code_45)
  obtain ⟨rfl, e22, rfl⟩ := q22
  have N22 := Fr.app N20 (Fr.nil _)
  refine Go.of (T' := T22) (f' := (mkF m 48 #[.val (.ref so), .val (.ref sa), .val (.int (0 : Int32)), .val (.int (1 : Int32)), .val .null, .val (.ref da_20)] [(.int (0 : Int32)), (.ref so)])) (fun _ k => st22 _ k) ?_
  have f24 : Exa Z T20.heap so "java/lang/String" := (Exa.keep prem1 K20q)
  have f25 : Fld Z T20.heap so "java/lang/String" "coder" "B" (.int (0 : Int32)) := (Fld.keep prem3 K20q nin0)
  obtain ⟨T23, h23, X23, e23, W23, st23⟩ := putFN X22 hx hZ hown (hw _ (List.mem_of_getElem? (i := 26) rfl)) Via.refl e22 f25 f24 (Or.inr ⟨(hw _ (List.mem_of_getElem? (i := 27) rfl)), rfl, hnm⟩) (hw _ (List.mem_of_getElem? (i := 2) rfl)) (ty := .byte) (v' := (.int (0 : Int32))) (by decide) rfl rfl (g := (mkF m 48 #[.val (.ref so), .val (.ref sa), .val (.int (0 : Int32)), .val (.int (1 : Int32)), .val .null, .val (.ref da_20)] [(.int (0 : Int32)), (.ref so)])) rfl rfl (hb hby d_jdk_42_method_149_code_48)
  have O26 := Old0.wr O21 W23 prem4
  have K26 := Keep.wr K21 W23 (Or.inl (List.mem_of_getElem? (i := 0) rfl))
  have N23 := Fr.snoc X23 N22 prem4
  have f23 : Fld Z h23 so "java/lang/String" "coder" "B" (.int (0 : Int32)) := Fld.same W23 f25
  refine Go.of (T' := T23) (f' := (mkF m 51 #[.val (.ref so), .val (.ref sa), .val (.int (0 : Int32)), .val (.int (1 : Int32)), .val .null, .val (.ref da_20)] [])) (fun _ k => st23 _ k) ?_
  refine Go.of (T' := T23) (f' := (mkF m 52 #[.val (.ref so), .val (.ref sa), .val (.int (0 : Int32)), .val (.int (1 : Int32)), .val .null, .val (.ref da_20)] [(.ref so)])) (fun _ k => XS.aloadN X23.here hx rfl (hb hby d_jdk_42_method_149_code_51) rfl rfl k) ?_
  refine Go.of (T' := T23) (f' := (mkF m 54 #[.val (.ref so), .val (.ref sa), .val (.int (0 : Int32)), .val (.int (1 : Int32)), .val .null, .val (.ref da_20)] [(.ref da_20), (.ref so)])) (fun _ k => XS.aload X23.here hx rfl (hb hby d_jdk_42_method_149_code_52) rfl rfl k) ?_
  have f28 : Exa Z h23 so "java/lang/String" := (Exa.wr W23 f24)
  have f29 : Fld Z h23 so "java/lang/String" "value" "[B" .null := (Fld.other W23 (Fld.keep prem2 K20q nin0) (Or.inr (slot_ne (Or.inr (hw _ (List.mem_of_getElem? (i := 29) rfl))) (Or.inr (hw _ (List.mem_of_getElem? (i := 27) rfl))) (by decide) (t := (.array .byte)) (t' := .byte) (by decide) (by decide))))
  obtain ⟨T27, h27, X27, e27, W27, st27⟩ := putF X23 hx hZ hown (host := "") (Or.inl (hw _ (List.mem_of_getElem? (i := 28) rfl))) Via.refl e23 f29 f28 (Or.inr ⟨(hw _ (List.mem_of_getElem? (i := 29) rfl)), rfl, hnm⟩) (hw _ (List.mem_of_getElem? (i := 2) rfl)) (ty := (.array .byte)) (by decide) rfl rfl (g := (mkF m 54 #[.val (.ref so), .val (.ref sa), .val (.int (0 : Int32)), .val (.int (1 : Int32)), .val .null, .val (.ref da_20)] [(.ref da_20), (.ref so)])) rfl rfl (hb hby d_jdk_42_method_149_code_54)
  have O30 := Old0.wr O26 W27 prem4
  have K30 := Keep.wr K26 W27 (Or.inl (List.mem_of_getElem? (i := 0) rfl))
  have N27 := Fr.snoc X27 N23 prem4
  have f27 : Fld Z h27 so "java/lang/String" "value" "[B" (.ref da_20) := Fld.same W27 f29
  refine Go.of (T' := T27) (f' := (mkF m 57 #[.val (.ref so), .val (.ref sa), .val (.int (0 : Int32)), .val (.int (1 : Int32)), .val .null, .val (.ref da_20)] [])) (fun _ k => st27 _ k) ?_
  have f31 : Fld Z h27 so "java/lang/String" "coder" "B" (.int (0 : Int32)) := (Fld.other W27 f23 (Or.inr (slot_ne (Or.inr (hw _ (List.mem_of_getElem? (i := 27) rfl))) (Or.inr (hw _ (List.mem_of_getElem? (i := 29) rfl))) (by decide) (t := .byte) (t' := (.array .byte)) (by decide) (by decide))))
  have f32 : Arv Z h27 da_20 kd_20 .byte (1 : Int32) [(.int (x0.toInt8.toInt32))] (.int (0 : Int32)) := (Arv.other (Arv.other p20_1 W23 (Ne.symm ne_so_da_20)) W27 (Ne.symm ne_so_da_20))
  have f33 : Exa Z h27 da_20 "[B" := (Exa.wr W27 (Exa.wr W23 p20_2))
  exact Go.retV X27 hx hlk hret (hb hby d_jdk_42_method_149_code_57) (by decide) (by decide) (by rw [e27]; exact ⟨da_20, kd_20, rfl, N27, K30, z_da_20, f27, f31, f32, f33⟩)
theorem d_jdk_42_method_3_code_0 : decode jdk_42_method_3_code 0 = .ok (.aload_n 0, 1) := by decide +kernel
theorem d_jdk_42_method_3_code_1 : decode jdk_42_method_3_code 1 = .ok (.aload_n 1, 1) := by decide +kernel
theorem d_jdk_42_method_3_code_2 : decode jdk_42_method_3_code 2 = .ok (.iconst 0, 1) := by decide +kernel
theorem d_jdk_42_method_3_code_3 : decode jdk_42_method_3_code 3 = .ok (.aload_n 1, 1) := by decide +kernel
theorem d_jdk_42_method_3_code_4 : decode jdk_42_method_3_code 4 = .ok (.arraylength, 1) := by decide +kernel
theorem d_jdk_42_method_3_code_5 : decode jdk_42_method_3_code 5 = .ok (.aconst_null, 1) := by decide +kernel
theorem d_jdk_42_method_3_code_6 : decode jdk_42_method_3_code 6 = .ok (.invokespecial 27, 3) := by decide +kernel
theorem pd___CIILjava_lang_Void__V : parseMethodDescriptor "([CIILjava/lang/Void;)V" = some ⟨[(.array .char), .int, .int, (.object "java/lang/Void")], none⟩ := by decide +kernel
theorem d_jdk_42_method_3_code_9 : decode jdk_42_method_3_code 9 = .ok (.return_, 1) := by decide +kernel
theorem ef_rm_str_1 (m : MethodId) (so : Addr) (sa : Addr) : entryFrame m #[(.ref so), (.ref sa)] 2 = mkF m 0 #[.val (.ref so), .val (.ref sa)] [] := by first | (simp [entryFrame, mkF, argsToLocals, Value.category]; done) | rfl
theorem pn_java_lang_String__init____C_V : plainFor (⟨"java/lang/String", "<init>", "([C)V"⟩ : MethodName) = true := by first | exact plainFor_of_name (by first | (simp [plainName, overriddenIn]; done) | decide +kernel) | decide +kernel
set_option maxRecDepth 65536 in
set_option maxHeartbeats 40000000 in
theorem rm_str_1 {l : Launch} {Z : State} {a0 : Array Value} {s_FLAG : Addr} {s_COMPACT_STRINGS : Int32} (hw : ∀ d ∈ tables_1, d.before a0 Z = true) (G : own_Ctx Z s_FLAG s_COMPACT_STRINGS) (so : Addr) (sa : Addr) (ks : ClassId) (x0 : Int32) (h0 : Heap) (O0 : Ext Z.heap h0) (prem0 : ¬ ((255 : Int32) < x0)) (prem1 : Exa Z h0 so "java/lang/String") (prem2 : Fld Z h0 so "java/lang/String" "value" "[B" .null) (prem3 : Fld Z h0 so "java/lang/String" "coder" "B" (.int (0 : Int32))) (prem4 : Z.heap.size ≤ so) (prem5 : Arv Z h0 sa ks .char (1 : Int32) [(.int x0)] (.int (0 : Int32))) (prem6 : so ≠ sa) :
    Ok l Z (⟨"java/lang/String", "<init>", "([C)V"⟩ : MethodName) jdk_42_method_3_code 2 none ({ frames := 3, cells := 1, slots := 1, locals := 52 } : Room) #[(.ref so), (.ref sa)] h0
      (fun v h L => ∃ da : Addr, ∃ kd : ClassId, v = none ∧ (Fr Z.heap.size L) ∧ (Keep h0 h [so]) ∧ (h0.size ≤ da) ∧ (Fld Z h so "java/lang/String" "value" "[B" (.ref da)) ∧ (Fld Z h so "java/lang/String" "coder" "B" (.int (0 : Int32))) ∧ (Arv Z h da kd .byte (1 : Int32) [(.int (x0.toInt8.toInt32))] (.int (0 : Int32))) ∧ (Exa Z h da "[B")) := by
  refine Ok.mk pn_java_lang_String__init____C_V ?_
  intro p e s m below meth c T0 hx hby hml hown hnm hret hlk hZ e0 X0
  refine Go.cast (ef_rm_str_1 m so sa) ?_
  obtain ⟨S_FLAG, E_s_FLAG, S_COMPACT_STRINGS, hne_s_COMPACT_STRINGS_0⟩ := id G
  have N0 := Fr.nil Z.heap.size
  have K0 : Keep h0 h0 [so] := Keep.refl _ _
  refine Go.of (T' := T0) (f' := (mkF m 1 #[.val (.ref so), .val (.ref sa)] [(.ref so)])) (fun _ k => XS.aloadN X0.here hx rfl (hb hby d_jdk_42_method_3_code_0) rfl rfl k) ?_
  refine Go.of (T' := T0) (f' := (mkF m 2 #[.val (.ref so), .val (.ref sa)] [(.ref sa), (.ref so)])) (fun _ k => XS.aloadN X0.here hx rfl (hb hby d_jdk_42_method_3_code_1) rfl rfl k) ?_
  refine Go.of (T' := T0) (f' := (mkF m 3 #[.val (.ref so), .val (.ref sa)] [(.int (0 : Int32)), (.ref sa), (.ref so)])) (fun _ k => XS.iconst X0.here hx rfl (hb hby d_jdk_42_method_3_code_2) k) ?_
  refine Go.of (T' := T0) (f' := (mkF m 4 #[.val (.ref so), .val (.ref sa)] [(.ref sa), (.int (0 : Int32)), (.ref sa), (.ref so)])) (fun _ k => XS.aloadN X0.here hx rfl (hb hby d_jdk_42_method_3_code_3) rfl rfl k) ?_
  obtain ⟨cl34, Ar34, qk34, S34, Ng34, H34, G34⟩ := id prem5
  refine Go.of (T' := T0) (f' := (mkF m 5 #[.val (.ref so), .val (.ref sa)] [(.int (1 : Int32)), (.int (0 : Int32)), (.ref sa), (.ref so)])) (fun _ k => X0.arraylength hx (by rw [e0]; exact Ar34.1) (State.isArrayOf_alike hZ.alike Ar34.2.1) (g := (mkF m 4 #[.val (.ref so), .val (.ref sa)] [(.ref sa), (.int (0 : Int32)), (.ref sa), (.ref so)])) rfl rfl (hb hby d_jdk_42_method_3_code_4) _ (by rw [len_of S34 Ng34]; exact k)) ?_
  refine Go.of (T' := T0) (f' := (mkF m 6 #[.val (.ref so), .val (.ref sa)] [.null, (.int (1 : Int32)), (.int (0 : Int32)), (.ref sa), (.ref so)])) (fun _ k => XS.aconstNull X0.here hx rfl (hb hby d_jdk_42_method_3_code_5) k) ?_
  obtain ⟨T35, v35, L35, X35, q35, st35⟩ := callNew X0 hx hZ (y := (⟨"java/lang/String", "<init>", "([CIILjava/lang/Void;)V"⟩ : MethodName)) rfl hown (hw _ (List.mem_of_getElem? (i := 7) rfl)) (hw _ (List.mem_of_getElem? (i := 8) rfl)) (hw _ (List.mem_of_getElem? (i := 3) rfl)) (hw _ (List.mem_of_getElem? (i := 10) rfl)) (by decide) (rm_str4_1 hw G so sa ks x0 h0 O0 (prem0) prem1 prem2 prem3 prem4 prem5 prem6) e0 (W := 0) (by decide) (by decide) (by decide) (by decide) (g := (mkF m 6 #[.val (.ref so), .val (.ref sa)] [.null, (.int (1 : Int32)), (.int (0 : Int32)), (.ref sa), (.ref so)])) rfl (by rw [hml]; rfl) (a := so) (argsL := [(.ref sa), (.int (0 : Int32)), (.int (1 : Int32)), .null]) (rest := []) (lenOf pd___CIILjava_lang_Void__V rfl) rfl rfl (by show 2 * 0 + _ ≤ _; exact Nat.le_of_eq rfl) (hb hby d_jdk_42_method_3_code_6)
  obtain ⟨da_35, kd_35, rfl, N35q, K35q, p35_0, p35_1, p35_2, p35_3, p35_4⟩ := q35
  have N35 := Fr.app N0 N35q
  have O36 := Old0.keep O0 K35q (allS prem4 all0)
  have K36 := Keep.trans K0 K35q (allS (Or.inl (List.mem_of_getElem? (i := 0) rfl)) all0)
  have z_da_35 : h0.size ≤ da_35 := Nat.le_trans K0.1 p35_0
  have g_da_35 : Z.heap.size ≤ da_35 := Nat.le_trans O0.1 p35_0
  have ne_so_da_35 : so ≠ da_35 := Nat.ne_of_lt (Nat.lt_of_lt_of_le prem1.lt p35_0)
  have ne_sa_da_35 : sa ≠ da_35 := Nat.ne_of_lt (Nat.lt_of_lt_of_le prem5.lt p35_0)
  refine Go.of (T' := T35) (f' := (mkF m 9 #[.val (.ref so), .val (.ref sa)] [])) (fun _ k => st35 _ k) ?_
  exact Go.retV X35 hx hlk hret (hb hby d_jdk_42_method_3_code_9) (by decide) (by decide) ⟨da_35, kd_35, rfl, N35, K36, z_da_35, p35_1, p35_2, p35_3, p35_4⟩
theorem ef_rm_comp5_2 (m : MethodId) (sa : Addr) (da : Addr) : entryFrame m #[(.ref sa), (.int (0 : Int32)), (.ref da), (.int (0 : Int32)), (.int (2 : Int32))] 7 = mkF m 0 #[.val (.ref sa), .val (.int (0 : Int32)), .val (.ref da), .val (.int (0 : Int32)), .val (.int (2 : Int32)), .unset, .unset] [] := by first | (simp [entryFrame, mkF, argsToLocals, Value.category]; done) | rfl
set_option maxRecDepth 65536 in
set_option maxHeartbeats 40000000 in
theorem rm_comp5_2 {l : Launch} {Z : State} {a0 : Array Value} {s_FLAG : Addr} {s_COMPACT_STRINGS : Int32} (hw : ∀ d ∈ tables_1, d.before a0 Z = true) (G : own_Ctx Z s_FLAG s_COMPACT_STRINGS) (sa : Addr) (da : Addr) (ks : ClassId) (x0 : Int32) (x1 : Int32) (kd : ClassId) (h0 : Heap) (O0 : Ext Z.heap h0) (prem0 : ¬ ((255 : Int32) < x0)) (prem1 : ¬ ((255 : Int32) < x1)) (prem2 : Arv Z h0 sa ks .char (2 : Int32) [(.int x0), (.int x1)] (.int (0 : Int32))) (prem3 : Arv Z h0 da kd .byte (2 : Int32) [(.int (0 : Int32)), (.int (0 : Int32))] (.int (0 : Int32))) (prem4 : Z.heap.size ≤ da) (prem5 : sa ≠ da) :
    Ok l Z (⟨"java/lang/StringUTF16", "compress", "([CI[BII)I"⟩ : MethodName) jdk_52_method_21_code 7 (some .int) ({ frames := 0, cells := 0, slots := 0, locals := 0 } : Room) #[(.ref sa), (.int (0 : Int32)), (.ref da), (.int (0 : Int32)), (.int (2 : Int32))] h0
      (fun v h L => v = some (.int (2 : Int32)) ∧ (Fr Z.heap.size L) ∧ (Keep h0 h [da]) ∧ (Arv Z h da kd .byte (2 : Int32) [(.int (x0.toInt8.toInt32)), (.int (x1.toInt8.toInt32))] (.int (0 : Int32)))) := by
  refine Ok.mk pn_java_lang_StringUTF16_compress___CI_BII_I ?_
  intro p e s m below meth c T0 hx hby hml hown hnm hret hlk hZ e0 X0
  refine Go.cast (ef_rm_comp5_2 m sa da) ?_
  obtain ⟨S_FLAG, E_s_FLAG, S_COMPACT_STRINGS, hne_s_COMPACT_STRINGS_0⟩ := id G
  have N0 := Fr.nil Z.heap.size
  have K0 : Keep h0 h0 [da] := Keep.refl _ _
  refine Go.of (T' := T0) (f' := (mkF m 1 #[.val (.ref sa), .val (.int (0 : Int32)), .val (.ref da), .val (.int (0 : Int32)), .val (.int (2 : Int32)), .unset, .unset] [(.int (0 : Int32))])) (fun _ k => XS.iconst X0.here hx rfl (hb hby d_jdk_52_method_21_code_0) k) ?_
  refine Go.of (T' := T0) (f' := (mkF m 3 #[.val (.ref sa), .val (.int (0 : Int32)), .val (.ref da), .val (.int (0 : Int32)), .val (.int (2 : Int32)), .val (.int (0 : Int32)), .unset] [])) (fun _ k => XS.istore X0.here hx rfl (hb hby d_jdk_52_method_21_code_1) rfl (l' := #[.val (.ref sa), .val (.int (0 : Int32)), .val (.ref da), .val (.int (0 : Int32)), .val (.int (2 : Int32)), .val (.int (0 : Int32)), .unset]) rfl k) ?_
  refine Go.of (T' := T0) (f' := (mkF m 5 #[.val (.ref sa), .val (.int (0 : Int32)), .val (.ref da), .val (.int (0 : Int32)), .val (.int (2 : Int32)), .val (.int (0 : Int32)), .unset] [(.int (0 : Int32))])) (fun _ k => XS.iload X0.here hx rfl (hb hby d_jdk_52_method_21_code_3) rfl k) ?_
  refine Go.of (T' := T0) (f' := (mkF m 7 #[.val (.ref sa), .val (.int (0 : Int32)), .val (.ref da), .val (.int (0 : Int32)), .val (.int (2 : Int32)), .val (.int (0 : Int32)), .unset] [(.int (2 : Int32)), (.int (0 : Int32))])) (fun _ k => XS.iload X0.here hx rfl (hb hby d_jdk_52_method_21_code_5) rfl k) ?_
  refine Go.of (T' := T0) (f' := (mkF m 10 #[.val (.ref sa), .val (.int (0 : Int32)), .val (.ref da), .val (.int (0 : Int32)), .val (.int (2 : Int32)), .val (.int (0 : Int32)), .unset] [])) (fun _ k => XS.icmpNo X0.here hx rfl (hb hby d_jdk_52_method_21_code_7) rfl (tlt (by decide : (0 : Int32) < (2 : Int32))).2.1 k) ?_
  refine Go.of (T' := T0) (f' := (mkF m 11 #[.val (.ref sa), .val (.int (0 : Int32)), .val (.ref da), .val (.int (0 : Int32)), .val (.int (2 : Int32)), .val (.int (0 : Int32)), .unset] [(.ref sa)])) (fun _ k => XS.aloadN X0.here hx rfl (hb hby d_jdk_52_method_21_code_10) rfl rfl k) ?_
  refine Go.of (T' := T0) (f' := (mkF m 12 #[.val (.ref sa), .val (.int (0 : Int32)), .val (.ref da), .val (.int (0 : Int32)), .val (.int (2 : Int32)), .val (.int (0 : Int32)), .unset] [(.int (0 : Int32)), (.ref sa)])) (fun _ k => XS.iloadN X0.here hx rfl (hb hby d_jdk_52_method_21_code_11) rfl k) ?_
  obtain ⟨cl38, Ar38, qk38, S38, Ng38, H38, G38⟩ := id prem2
  have hin38 := inb_of (j := (0 : Int32)) S38 ⟨by decide, by decide⟩
  refine Go.of (T' := T0) (f' := (mkF m 13 #[.val (.ref sa), .val (.int (0 : Int32)), .val (.ref da), .val (.int (0 : Int32)), .val (.int (2 : Int32)), .val (.int (0 : Int32)), .unset] [(.int x0)])) (fun _ k => X0.caload hx (j := (0 : Int32)) (v := (.int x0)) (by rw [e0]; exact Ar38.1) (State.isArrayOf_alike hZ.alike Ar38.2.1) Ar38.2.2 hin38 (H38.at hin38 rfl) (g := (mkF m 12 #[.val (.ref sa), .val (.int (0 : Int32)), .val (.ref da), .val (.int (0 : Int32)), .val (.int (2 : Int32)), .val (.int (0 : Int32)), .unset] [(.int (0 : Int32)), (.ref sa)])) rfl rfl (hb hby d_jdk_52_method_21_code_12) _ k) ?_
  refine Go.of (T' := T0) (f' := (mkF m 15 #[.val (.ref sa), .val (.int (0 : Int32)), .val (.ref da), .val (.int (0 : Int32)), .val (.int (2 : Int32)), .val (.int (0 : Int32)), .val (.int x0)] [])) (fun _ k => XS.istore X0.here hx rfl (hb hby d_jdk_52_method_21_code_13) rfl (l' := #[.val (.ref sa), .val (.int (0 : Int32)), .val (.ref da), .val (.int (0 : Int32)), .val (.int (2 : Int32)), .val (.int (0 : Int32)), .val (.int x0)]) rfl k) ?_
  refine Go.of (T' := T0) (f' := (mkF m 17 #[.val (.ref sa), .val (.int (0 : Int32)), .val (.ref da), .val (.int (0 : Int32)), .val (.int (2 : Int32)), .val (.int (0 : Int32)), .val (.int x0)] [(.int x0)])) (fun _ k => XS.iload X0.here hx rfl (hb hby d_jdk_52_method_21_code_15) rfl k) ?_
  refine Go.of (T' := T0) (f' := (mkF m 20 #[.val (.ref sa), .val (.int (0 : Int32)), .val (.ref da), .val (.int (0 : Int32)), .val (.int (2 : Int32)), .val (.int (0 : Int32)), .val (.int x0)] [(.int (255 : Int32)), (.int x0)])) (fun _ k => XS.sipush X0.here hx rfl (hb hby d_jdk_52_method_21_code_17) k) ?_
  have hc39 : ¬ ((255 : Int32) < x0) := prem0
  refine Go.of (T' := T0) (f' := (mkF m 26 #[.val (.ref sa), .val (.int (0 : Int32)), .val (.ref da), .val (.int (0 : Int32)), .val (.int (2 : Int32)), .val (.int (0 : Int32)), .val (.int x0)] [])) (fun _ k => XS.icmpYes X0.here hx rfl (pc0 := 20) (pc' := 26) rfl (hb hby d_jdk_52_method_21_code_20) rfl (flt hc39).2.2.2 (by decide) (by decide) k) ?_
  refine Go.of (T' := T0) (f' := (mkF m 27 #[.val (.ref sa), .val (.int (0 : Int32)), .val (.ref da), .val (.int (0 : Int32)), .val (.int (2 : Int32)), .val (.int (0 : Int32)), .val (.int x0)] [(.ref da)])) (fun _ k => XS.aloadN X0.here hx rfl (hb hby d_jdk_52_method_21_code_26) rfl rfl k) ?_
  refine Go.of (T' := T0) (f' := (mkF m 28 #[.val (.ref sa), .val (.int (0 : Int32)), .val (.ref da), .val (.int (0 : Int32)), .val (.int (2 : Int32)), .val (.int (0 : Int32)), .val (.int x0)] [(.int (0 : Int32)), (.ref da)])) (fun _ k => XS.iloadN X0.here hx rfl (hb hby d_jdk_52_method_21_code_27) rfl k) ?_
  refine Go.of (T' := T0) (f' := (mkF m 30 #[.val (.ref sa), .val (.int (0 : Int32)), .val (.ref da), .val (.int (0 : Int32)), .val (.int (2 : Int32)), .val (.int (0 : Int32)), .val (.int x0)] [(.int x0), (.int (0 : Int32)), (.ref da)])) (fun _ k => XS.iload X0.here hx rfl (hb hby d_jdk_52_method_21_code_28) rfl k) ?_
  refine Go.of (T' := T0) (f' := (mkF m 31 #[.val (.ref sa), .val (.int (0 : Int32)), .val (.ref da), .val (.int (0 : Int32)), .val (.int (2 : Int32)), .val (.int (0 : Int32)), .val (.int x0)] [(.int (x0.toInt8.toInt32)), (.int (0 : Int32)), (.ref da)])) (fun _ k => XS.i2b X0.here hx rfl (hb hby d_jdk_52_method_21_code_30) rfl k) ?_
  obtain ⟨cl40, Ar40, qk40, S40, Ng40, H40, G40⟩ := id prem3
  obtain ⟨T40, h40, X40, e40, W40, st40⟩ := stB X0 hx hZ e0 Ar40 (j := (0 : Int32)) (inb_of S40 ⟨by decide, by decide⟩) (g := (mkF m 31 #[.val (.ref sa), .val (.int (0 : Int32)), .val (.ref da), .val (.int (0 : Int32)), .val (.int (2 : Int32)), .val (.int (0 : Int32)), .val (.int x0)] [(.int (x0.toInt8.toInt32)), (.int (0 : Int32)), (.ref da)])) rfl rfl (hb hby d_jdk_52_method_21_code_31)
  have W40 : Wr h0 h40 da ((0 : Int32)).toNatClampNeg (.int (x0.toInt8.toInt32)) := Eq.mp (congrArg (fun z => Wr h0 h40 da ((0 : Int32)).toNatClampNeg (Value.int z)) (own_b8 x0)) W40
  have O41 := Old0.wr O0 W40 prem4
  have K41 := Keep.wr K0 W40 (Or.inl (List.mem_of_getElem? (i := 0) rfl))
  have f40 : Arv Z h40 da kd .byte (2 : Int32) [(.int (x0.toInt8.toInt32)), (.int (0 : Int32))] (.int (0 : Int32)) := Arv.set Ar40 qk40 S40 Ng40 H40 G40 (v := (.int (x0.toInt8.toInt32))) (fits_nar_byte _) W40 0 rfl (Nat.le_of_ble_eq_true rfl)
  have N40 := Fr.snoc X40 N0 prem4
  refine Go.of (T' := T40) (f' := (mkF m 32 #[.val (.ref sa), .val (.int (0 : Int32)), .val (.ref da), .val (.int (0 : Int32)), .val (.int (2 : Int32)), .val (.int (0 : Int32)), .val (.int x0)] [])) (fun _ k => st40 _ k) ?_
  refine Go.of (T' := T40) (f' := (mkF m 35 #[.val (.ref sa), .val (.int (1 : Int32)), .val (.ref da), .val (.int (0 : Int32)), .val (.int (2 : Int32)), .val (.int (0 : Int32)), .val (.int x0)] [])) (fun _ k => XS.iinc X40.here hx rfl (hb hby d_jdk_52_method_21_code_32) rfl (l' := #[.val (.ref sa), .val (.int (1 : Int32)), .val (.ref da), .val (.int (0 : Int32)), .val (.int (2 : Int32)), .val (.int (0 : Int32)), .val (.int x0)]) rfl k) ?_
  refine Go.of (T' := T40) (f' := (mkF m 38 #[.val (.ref sa), .val (.int (1 : Int32)), .val (.ref da), .val (.int (1 : Int32)), .val (.int (2 : Int32)), .val (.int (0 : Int32)), .val (.int x0)] [])) (fun _ k => XS.iinc X40.here hx rfl (hb hby d_jdk_52_method_21_code_35) rfl (l' := #[.val (.ref sa), .val (.int (1 : Int32)), .val (.ref da), .val (.int (1 : Int32)), .val (.int (2 : Int32)), .val (.int (0 : Int32)), .val (.int x0)]) rfl k) ?_
  refine Go.of (T' := T40) (f' := (mkF m 41 #[.val (.ref sa), .val (.int (1 : Int32)), .val (.ref da), .val (.int (1 : Int32)), .val (.int (2 : Int32)), .val (.int (1 : Int32)), .val (.int x0)] [])) (fun _ k => XS.iinc X40.here hx rfl (hb hby d_jdk_52_method_21_code_38) rfl (l' := #[.val (.ref sa), .val (.int (1 : Int32)), .val (.ref da), .val (.int (1 : Int32)), .val (.int (2 : Int32)), .val (.int (1 : Int32)), .val (.int x0)]) rfl k) ?_
  refine Go.of (T' := T40) (f' := (mkF m 3 #[.val (.ref sa), .val (.int (1 : Int32)), .val (.ref da), .val (.int (1 : Int32)), .val (.int (2 : Int32)), .val (.int (1 : Int32)), .val (.int x0)] [])) (fun _ k => XS.goto X40.here hx rfl (pc0 := 41) (pc' := 3) rfl (hb hby d_jdk_52_method_21_code_41) (by decide) (by decide) k) ?_
  refine Go.of (T' := T40) (f' := (mkF m 5 #[.val (.ref sa), .val (.int (1 : Int32)), .val (.ref da), .val (.int (1 : Int32)), .val (.int (2 : Int32)), .val (.int (1 : Int32)), .val (.int x0)] [(.int (1 : Int32))])) (fun _ k => XS.iload X40.here hx rfl (hb hby d_jdk_52_method_21_code_3) rfl k) ?_
  refine Go.of (T' := T40) (f' := (mkF m 7 #[.val (.ref sa), .val (.int (1 : Int32)), .val (.ref da), .val (.int (1 : Int32)), .val (.int (2 : Int32)), .val (.int (1 : Int32)), .val (.int x0)] [(.int (2 : Int32)), (.int (1 : Int32))])) (fun _ k => XS.iload X40.here hx rfl (hb hby d_jdk_52_method_21_code_5) rfl k) ?_
  refine Go.of (T' := T40) (f' := (mkF m 10 #[.val (.ref sa), .val (.int (1 : Int32)), .val (.ref da), .val (.int (1 : Int32)), .val (.int (2 : Int32)), .val (.int (1 : Int32)), .val (.int x0)] [])) (fun _ k => XS.icmpNo X40.here hx rfl (hb hby d_jdk_52_method_21_code_7) rfl (tlt (by decide : (1 : Int32) < (2 : Int32))).2.1 k) ?_
  refine Go.of (T' := T40) (f' := (mkF m 11 #[.val (.ref sa), .val (.int (1 : Int32)), .val (.ref da), .val (.int (1 : Int32)), .val (.int (2 : Int32)), .val (.int (1 : Int32)), .val (.int x0)] [(.ref sa)])) (fun _ k => XS.aloadN X40.here hx rfl (hb hby d_jdk_52_method_21_code_10) rfl rfl k) ?_
  refine Go.of (T' := T40) (f' := (mkF m 12 #[.val (.ref sa), .val (.int (1 : Int32)), .val (.ref da), .val (.int (1 : Int32)), .val (.int (2 : Int32)), .val (.int (1 : Int32)), .val (.int x0)] [(.int (1 : Int32)), (.ref sa)])) (fun _ k => XS.iloadN X40.here hx rfl (hb hby d_jdk_52_method_21_code_11) rfl k) ?_
  have f44 : Arv Z h40 sa ks .char (2 : Int32) [(.int x0), (.int x1)] (.int (0 : Int32)) := (Arv.other prem2 W40 prem5)
  obtain ⟨cl43, Ar43, qk43, S43, Ng43, H43, G43⟩ := id f44
  have hin43 := inb_of (j := (1 : Int32)) S43 ⟨by decide, by decide⟩
  refine Go.of (T' := T40) (f' := (mkF m 13 #[.val (.ref sa), .val (.int (1 : Int32)), .val (.ref da), .val (.int (1 : Int32)), .val (.int (2 : Int32)), .val (.int (1 : Int32)), .val (.int x0)] [(.int x1)])) (fun _ k => X40.caload hx (j := (1 : Int32)) (v := (.int x1)) (by rw [e40]; exact Ar43.1) (State.isArrayOf_alike hZ.alike Ar43.2.1) Ar43.2.2 hin43 (H43.at hin43 rfl) (g := (mkF m 12 #[.val (.ref sa), .val (.int (1 : Int32)), .val (.ref da), .val (.int (1 : Int32)), .val (.int (2 : Int32)), .val (.int (1 : Int32)), .val (.int x0)] [(.int (1 : Int32)), (.ref sa)])) rfl rfl (hb hby d_jdk_52_method_21_code_12) _ k) ?_
  refine Go.of (T' := T40) (f' := (mkF m 15 #[.val (.ref sa), .val (.int (1 : Int32)), .val (.ref da), .val (.int (1 : Int32)), .val (.int (2 : Int32)), .val (.int (1 : Int32)), .val (.int x1)] [])) (fun _ k => XS.istore X40.here hx rfl (hb hby d_jdk_52_method_21_code_13) rfl (l' := #[.val (.ref sa), .val (.int (1 : Int32)), .val (.ref da), .val (.int (1 : Int32)), .val (.int (2 : Int32)), .val (.int (1 : Int32)), .val (.int x1)]) rfl k) ?_
  refine Go.of (T' := T40) (f' := (mkF m 17 #[.val (.ref sa), .val (.int (1 : Int32)), .val (.ref da), .val (.int (1 : Int32)), .val (.int (2 : Int32)), .val (.int (1 : Int32)), .val (.int x1)] [(.int x1)])) (fun _ k => XS.iload X40.here hx rfl (hb hby d_jdk_52_method_21_code_15) rfl k) ?_
  refine Go.of (T' := T40) (f' := (mkF m 20 #[.val (.ref sa), .val (.int (1 : Int32)), .val (.ref da), .val (.int (1 : Int32)), .val (.int (2 : Int32)), .val (.int (1 : Int32)), .val (.int x1)] [(.int (255 : Int32)), (.int x1)])) (fun _ k => XS.sipush X40.here hx rfl (hb hby d_jdk_52_method_21_code_17) k) ?_
  have hc45 : ¬ ((255 : Int32) < x1) := prem1
  refine Go.of (T' := T40) (f' := (mkF m 26 #[.val (.ref sa), .val (.int (1 : Int32)), .val (.ref da), .val (.int (1 : Int32)), .val (.int (2 : Int32)), .val (.int (1 : Int32)), .val (.int x1)] [])) (fun _ k => XS.icmpYes X40.here hx rfl (pc0 := 20) (pc' := 26) rfl (hb hby d_jdk_52_method_21_code_20) rfl (flt hc45).2.2.2 (by decide) (by decide) k) ?_
  refine Go.of (T' := T40) (f' := (mkF m 27 #[.val (.ref sa), .val (.int (1 : Int32)), .val (.ref da), .val (.int (1 : Int32)), .val (.int (2 : Int32)), .val (.int (1 : Int32)), .val (.int x1)] [(.ref da)])) (fun _ k => XS.aloadN X40.here hx rfl (hb hby d_jdk_52_method_21_code_26) rfl rfl k) ?_
  refine Go.of (T' := T40) (f' := (mkF m 28 #[.val (.ref sa), .val (.int (1 : Int32)), .val (.ref da), .val (.int (1 : Int32)), .val (.int (2 : Int32)), .val (.int (1 : Int32)), .val (.int x1)] [(.int (1 : Int32)), (.ref da)])) (fun _ k => XS.iloadN X40.here hx rfl (hb hby d_jdk_52_method_21_code_27) rfl k) ?_
  refine Go.of (T' := T40) (f' := (mkF m 30 #[.val (.ref sa), .val (.int (1 : Int32)), .val (.ref da), .val (.int (1 : Int32)), .val (.int (2 : Int32)), .val (.int (1 : Int32)), .val (.int x1)] [(.int x1), (.int (1 : Int32)), (.ref da)])) (fun _ k => XS.iload X40.here hx rfl (hb hby d_jdk_52_method_21_code_28) rfl k) ?_
  refine Go.of (T' := T40) (f' := (mkF m 31 #[.val (.ref sa), .val (.int (1 : Int32)), .val (.ref da), .val (.int (1 : Int32)), .val (.int (2 : Int32)), .val (.int (1 : Int32)), .val (.int x1)] [(.int (x1.toInt8.toInt32)), (.int (1 : Int32)), (.ref da)])) (fun _ k => XS.i2b X40.here hx rfl (hb hby d_jdk_52_method_21_code_30) rfl k) ?_
  obtain ⟨cl46, Ar46, qk46, S46, Ng46, H46, G46⟩ := id f40
  obtain ⟨T46, h46, X46, e46, W46, st46⟩ := stB X40 hx hZ e40 Ar46 (j := (1 : Int32)) (inb_of S46 ⟨by decide, by decide⟩) (g := (mkF m 31 #[.val (.ref sa), .val (.int (1 : Int32)), .val (.ref da), .val (.int (1 : Int32)), .val (.int (2 : Int32)), .val (.int (1 : Int32)), .val (.int x1)] [(.int (x1.toInt8.toInt32)), (.int (1 : Int32)), (.ref da)])) rfl rfl (hb hby d_jdk_52_method_21_code_31)
  have W46 : Wr h40 h46 da ((1 : Int32)).toNatClampNeg (.int (x1.toInt8.toInt32)) := Eq.mp (congrArg (fun z => Wr h40 h46 da ((1 : Int32)).toNatClampNeg (Value.int z)) (own_b8 x1)) W46
  have O47 := Old0.wr O41 W46 prem4
  have K47 := Keep.wr K41 W46 (Or.inl (List.mem_of_getElem? (i := 0) rfl))
  have f46 : Arv Z h46 da kd .byte (2 : Int32) [(.int (x0.toInt8.toInt32)), (.int (x1.toInt8.toInt32))] (.int (0 : Int32)) := Arv.set Ar46 qk46 S46 Ng46 H46 G46 (v := (.int (x1.toInt8.toInt32))) (fits_nar_byte _) W46 1 rfl (Nat.le_of_ble_eq_true rfl)
  have N46 := Fr.snoc X46 N40 prem4
  refine Go.of (T' := T46) (f' := (mkF m 32 #[.val (.ref sa), .val (.int (1 : Int32)), .val (.ref da), .val (.int (1 : Int32)), .val (.int (2 : Int32)), .val (.int (1 : Int32)), .val (.int x1)] [])) (fun _ k => st46 _ k) ?_
  refine Go.of (T' := T46) (f' := (mkF m 35 #[.val (.ref sa), .val (.int (2 : Int32)), .val (.ref da), .val (.int (1 : Int32)), .val (.int (2 : Int32)), .val (.int (1 : Int32)), .val (.int x1)] [])) (fun _ k => XS.iinc X46.here hx rfl (hb hby d_jdk_52_method_21_code_32) rfl (l' := #[.val (.ref sa), .val (.int (2 : Int32)), .val (.ref da), .val (.int (1 : Int32)), .val (.int (2 : Int32)), .val (.int (1 : Int32)), .val (.int x1)]) rfl k) ?_
  refine Go.of (T' := T46) (f' := (mkF m 38 #[.val (.ref sa), .val (.int (2 : Int32)), .val (.ref da), .val (.int (2 : Int32)), .val (.int (2 : Int32)), .val (.int (1 : Int32)), .val (.int x1)] [])) (fun _ k => XS.iinc X46.here hx rfl (hb hby d_jdk_52_method_21_code_35) rfl (l' := #[.val (.ref sa), .val (.int (2 : Int32)), .val (.ref da), .val (.int (2 : Int32)), .val (.int (2 : Int32)), .val (.int (1 : Int32)), .val (.int x1)]) rfl k) ?_
  refine Go.of (T' := T46) (f' := (mkF m 41 #[.val (.ref sa), .val (.int (2 : Int32)), .val (.ref da), .val (.int (2 : Int32)), .val (.int (2 : Int32)), .val (.int (2 : Int32)), .val (.int x1)] [])) (fun _ k => XS.iinc X46.here hx rfl (hb hby d_jdk_52_method_21_code_38) rfl (l' := #[.val (.ref sa), .val (.int (2 : Int32)), .val (.ref da), .val (.int (2 : Int32)), .val (.int (2 : Int32)), .val (.int (2 : Int32)), .val (.int x1)]) rfl k) ?_
  refine Go.of (T' := T46) (f' := (mkF m 3 #[.val (.ref sa), .val (.int (2 : Int32)), .val (.ref da), .val (.int (2 : Int32)), .val (.int (2 : Int32)), .val (.int (2 : Int32)), .val (.int x1)] [])) (fun _ k => XS.goto X46.here hx rfl (pc0 := 41) (pc' := 3) rfl (hb hby d_jdk_52_method_21_code_41) (by decide) (by decide) k) ?_
  refine Go.of (T' := T46) (f' := (mkF m 5 #[.val (.ref sa), .val (.int (2 : Int32)), .val (.ref da), .val (.int (2 : Int32)), .val (.int (2 : Int32)), .val (.int (2 : Int32)), .val (.int x1)] [(.int (2 : Int32))])) (fun _ k => XS.iload X46.here hx rfl (hb hby d_jdk_52_method_21_code_3) rfl k) ?_
  refine Go.of (T' := T46) (f' := (mkF m 7 #[.val (.ref sa), .val (.int (2 : Int32)), .val (.ref da), .val (.int (2 : Int32)), .val (.int (2 : Int32)), .val (.int (2 : Int32)), .val (.int x1)] [(.int (2 : Int32)), (.int (2 : Int32))])) (fun _ k => XS.iload X46.here hx rfl (hb hby d_jdk_52_method_21_code_5) rfl k) ?_
  refine Go.of (T' := T46) (f' := (mkF m 44 #[.val (.ref sa), .val (.int (2 : Int32)), .val (.ref da), .val (.int (2 : Int32)), .val (.int (2 : Int32)), .val (.int (2 : Int32)), .val (.int x1)] [])) (fun _ k => XS.icmpYes X46.here hx rfl (pc0 := 7) (pc' := 44) rfl (hb hby d_jdk_52_method_21_code_7) rfl (flt (by decide : ¬ ((2 : Int32) < (2 : Int32)))).2.1 (by decide) (by decide) k) ?_
  refine Go.of (T' := T46) (f' := (mkF m 46 #[.val (.ref sa), .val (.int (2 : Int32)), .val (.ref da), .val (.int (2 : Int32)), .val (.int (2 : Int32)), .val (.int (2 : Int32)), .val (.int x1)] [(.int (2 : Int32))])) (fun _ k => XS.iload X46.here hx rfl (hb hby d_jdk_52_method_21_code_44) rfl k) ?_
  exact Go.retI X46 hx hlk hret (hb hby d_jdk_52_method_21_code_46) (by decide) (by decide) (by rw [e46]; exact ⟨rfl, N46, K47, f46⟩)
theorem ef_rm_comp3_2 (m : MethodId) (sa : Addr) : entryFrame m #[(.ref sa), (.int (0 : Int32)), (.int (2 : Int32))] 6 = mkF m 0 #[.val (.ref sa), .val (.int (0 : Int32)), .val (.int (2 : Int32)), .unset, .unset, .unset] [] := by first | (simp [entryFrame, mkF, argsToLocals, Value.category]; done) | rfl
set_option maxRecDepth 65536 in
set_option maxHeartbeats 40000000 in
theorem rm_comp3_2 {l : Launch} {Z : State} {a0 : Array Value} {s_FLAG : Addr} {s_COMPACT_STRINGS : Int32} (hw : ∀ d ∈ tables_1, d.before a0 Z = true) (G : own_Ctx Z s_FLAG s_COMPACT_STRINGS) (sa : Addr) (ks : ClassId) (x0 : Int32) (x1 : Int32) (h0 : Heap) (O0 : Ext Z.heap h0) (prem0 : ¬ ((255 : Int32) < x0)) (prem1 : ¬ ((255 : Int32) < x1)) (prem2 : Arv Z h0 sa ks .char (2 : Int32) [(.int x0), (.int x1)] (.int (0 : Int32))) :
    Ok l Z (⟨"java/lang/StringUTF16", "compress", "([CII)[B"⟩ : MethodName) jdk_52_method_16_code 6 (some (.array .byte)) ({ frames := 1, cells := 1, slots := 2, locals := 18 } : Room) #[(.ref sa), (.int (0 : Int32)), (.int (2 : Int32))] h0
      (fun v h L => ∃ da : Addr, ∃ kd : ClassId, v = some (.ref da) ∧ (Fr Z.heap.size L) ∧ (Keep h0 h []) ∧ (h0.size ≤ da) ∧ (Arv Z h da kd .byte (2 : Int32) [(.int (x0.toInt8.toInt32)), (.int (x1.toInt8.toInt32))] (.int (0 : Int32))) ∧ (Exa Z h da "[B")) := by
  refine Ok.mk pn_java_lang_StringUTF16_compress___CII__B ?_
  intro p e s m below meth c T0 hx hby hml hown hnm hret hlk hZ e0 X0
  refine Go.cast (ef_rm_comp3_2 m sa) ?_
  obtain ⟨S_FLAG, E_s_FLAG, S_COMPACT_STRINGS, hne_s_COMPACT_STRINGS_0⟩ := id G
  have N0 := Fr.nil Z.heap.size
  have K0 : Keep h0 h0 [] := Keep.refl _ _
  refine Go.of (T' := T0) (f' := (mkF m 1 #[.val (.ref sa), .val (.int (0 : Int32)), .val (.int (2 : Int32)), .unset, .unset, .unset] [(.int (2 : Int32))])) (fun _ k => XS.iloadN X0.here hx rfl (hb hby d_jdk_52_method_16_code_0) rfl k) ?_
  obtain ⟨T49, h49, k49, b49, q49, X49, e49, E49, V49, A49, st49⟩ := newAr X0 hx hZ (hw _ (List.mem_of_getElem? (i := 19) rfl)) e0 (g := (mkF m 1 #[.val (.ref sa), .val (.int (0 : Int32)), .val (.int (2 : Int32)), .unset, .unset, .unset] [(.int (2 : Int32))])) rfl (hb hby d_jdk_52_method_16_code_1) rfl (by decide) (cap := 2) (by decide) (by decide) (by decide) (by decide) (ad := "[B") (by decide)
  have O50 := Old0.ext O0 E49
  have K50 := Keep.ext K0 E49
  have g_b49 : Z.heap.size ≤ b49 := q49 ▸ O0.1
  have z_b49 : h0.size ≤ b49 := q49 ▸ K0.1
  have ne_sa_b49 : sa ≠ b49 := q49 ▸ Nat.ne_of_lt prem2.lt
  have f51 : Arv Z h49 b49 k49 .byte (2 : Int32) [(.int (0 : Int32)), (.int (0 : Int32))] (.int (0 : Int32)) := Arv.pad V49 (pad_rep [] (.int (0 : Int32)) 2)
  refine Go.of (T' := T49) (f' := (mkF m 3 #[.val (.ref sa), .val (.int (0 : Int32)), .val (.int (2 : Int32)), .unset, .unset, .unset] [(.ref b49)])) (fun _ k => st49 _ k) ?_
  refine Go.of (T' := T49) (f' := (mkF m 4 #[.val (.ref sa), .val (.int (0 : Int32)), .val (.int (2 : Int32)), .val (.ref b49), .unset, .unset] [])) (fun _ k => XS.astoreN X49.here hx rfl (hb hby d_jdk_52_method_16_code_3) rfl rfl (l' := #[.val (.ref sa), .val (.int (0 : Int32)), .val (.int (2 : Int32)), .val (.ref b49), .unset, .unset]) rfl k) ?_
  refine Go.of (T' := T49) (f' := (mkF m 5 #[.val (.ref sa), .val (.int (0 : Int32)), .val (.int (2 : Int32)), .val (.ref b49), .unset, .unset] [(.ref sa)])) (fun _ k => XS.aloadN X49.here hx rfl (hb hby d_jdk_52_method_16_code_4) rfl rfl k) ?_
  refine Go.of (T' := T49) (f' := (mkF m 6 #[.val (.ref sa), .val (.int (0 : Int32)), .val (.int (2 : Int32)), .val (.ref b49), .unset, .unset] [(.int (0 : Int32)), (.ref sa)])) (fun _ k => XS.iloadN X49.here hx rfl (hb hby d_jdk_52_method_16_code_5) rfl k) ?_
  refine Go.of (T' := T49) (f' := (mkF m 7 #[.val (.ref sa), .val (.int (0 : Int32)), .val (.int (2 : Int32)), .val (.ref b49), .unset, .unset] [(.ref b49), (.int (0 : Int32)), (.ref sa)])) (fun _ k => XS.aloadN X49.here hx rfl (hb hby d_jdk_52_method_16_code_6) rfl rfl k) ?_
  refine Go.of (T' := T49) (f' := (mkF m 8 #[.val (.ref sa), .val (.int (0 : Int32)), .val (.int (2 : Int32)), .val (.ref b49), .unset, .unset] [(.int (0 : Int32)), (.ref b49), (.int (0 : Int32)), (.ref sa)])) (fun _ k => XS.iconst X49.here hx rfl (hb hby d_jdk_52_method_16_code_7) k) ?_
  refine Go.of (T' := T49) (f' := (mkF m 9 #[.val (.ref sa), .val (.int (0 : Int32)), .val (.int (2 : Int32)), .val (.ref b49), .unset, .unset] [(.int (2 : Int32)), (.int (0 : Int32)), (.ref b49), (.int (0 : Int32)), (.ref sa)])) (fun _ k => XS.iloadN X49.here hx rfl (hb hby d_jdk_52_method_16_code_8) rfl k) ?_
  have f53 : Arv Z h49 sa ks .char (2 : Int32) [(.int x0), (.int x1)] (.int (0 : Int32)) := (Arv.ext prem2 E49)
  obtain ⟨T52, v52, L52, X52, q52, st52⟩ := callSt X49 hx hZ (y := (⟨"java/lang/StringUTF16", "compress", "([CI[BII)I"⟩ : MethodName)) hown (hw _ (List.mem_of_getElem? (i := 20) rfl)) (hw _ (List.mem_of_getElem? (i := 21) rfl)) (hw _ (List.mem_of_getElem? (i := 17) rfl)) (hw _ (List.mem_of_getElem? (i := 22) rfl)) (by decide) (rm_comp5_2 hw G sa b49 ks x0 x1 k49 h49 O50 (prem0) (prem1) f53 f51 g_b49 ne_sa_b49) e49 (W := 0) (by decide) (by decide) (by decide) (by decide) (g := (mkF m 9 #[.val (.ref sa), .val (.int (0 : Int32)), .val (.int (2 : Int32)), .val (.ref b49), .unset, .unset] [(.int (2 : Int32)), (.int (0 : Int32)), (.ref b49), (.int (0 : Int32)), (.ref sa)])) rfl (by rw [hml]; rfl) (argsL := [(.ref sa), (.int (0 : Int32)), (.ref b49), (.int (0 : Int32)), (.int (2 : Int32))]) (rest := []) (lenOf pd___CI_BII_I rfl) rfl rfl (by show 2 * 0 + _ ≤ _; exact Nat.le_of_eq rfl) (hb hby d_jdk_52_method_16_code_9)
  obtain ⟨rfl, N52q, K52q, p52_0⟩ := q52
  have N52 := Fr.app N0 N52q
  have O54 := Old0.keep O50 K52q (allS g_b49 all0)
  have K54 := Keep.trans K50 K52q (allS (Or.inr z_b49) all0)
  refine Go.of (T' := T52) (f' := (mkF m 12 #[.val (.ref sa), .val (.int (0 : Int32)), .val (.int (2 : Int32)), .val (.ref b49), .unset, .unset] [(.int (2 : Int32))])) (fun _ k => st52 _ k) ?_
  refine Go.of (T' := T52) (f' := (mkF m 14 #[.val (.ref sa), .val (.int (0 : Int32)), .val (.int (2 : Int32)), .val (.ref b49), .val (.int (2 : Int32)), .unset] [])) (fun _ k => XS.istore X52.here hx rfl (hb hby d_jdk_52_method_16_code_12) rfl (l' := #[.val (.ref sa), .val (.int (0 : Int32)), .val (.int (2 : Int32)), .val (.ref b49), .val (.int (2 : Int32)), .unset]) rfl k) ?_
  refine Go.of (T' := T52) (f' := (mkF m 16 #[.val (.ref sa), .val (.int (0 : Int32)), .val (.int (2 : Int32)), .val (.ref b49), .val (.int (2 : Int32)), .unset] [(.int (2 : Int32))])) (fun _ k => XS.iload X52.here hx rfl (hb hby d_jdk_52_method_16_code_14) rfl k) ?_
  refine Go.of (T' := T52) (f' := (mkF m 17 #[.val (.ref sa), .val (.int (0 : Int32)), .val (.int (2 : Int32)), .val (.ref b49), .val (.int (2 : Int32)), .unset] [(.int (2 : Int32)), (.int (2 : Int32))])) (fun _ k => XS.iloadN X52.here hx rfl (hb hby d_jdk_52_method_16_code_16) rfl k) ?_
  refine Go.of (T' := T52) (f' := (mkF m 57 #[.val (.ref sa), .val (.int (0 : Int32)), .val (.int (2 : Int32)), .val (.ref b49), .val (.int (2 : Int32)), .unset] [])) (fun _ k => XS.icmpYes X52.here hx rfl (pc0 := 17) (pc' := 57) rfl (hb hby d_jdk_52_method_16_code_17) rfl (teq (by decide : (2 : Int32) = (2 : Int32))).1 (by decide) (by decide) k) ?_
  refine Go.of (T' := T52) (f' := (mkF m 58 #[.val (.ref sa), .val (.int (0 : Int32)), .val (.int (2 : Int32)), .val (.ref b49), .val (.int (2 : Int32)), .unset] [(.ref b49)])) (fun _ k => XS.aloadN X52.here hx rfl (hb hby d_jdk_52_method_16_code_57) rfl rfl k) ?_
  have f56 : Exa Z T52.heap b49 "[B" := (Exa.keep A49 K52q)
  exact Go.retA X52 hx hlk hret rfl rfl (hb hby d_jdk_52_method_16_code_58) (by decide) (by decide) ⟨b49, k49, rfl, N52, K54, z_b49, p52_0, f56⟩
theorem ef_rm_cfal_2 (m : MethodId) (da : Addr) : entryFrame m #[(.ref da), (.int (2 : Int32))] 2 = mkF m 0 #[.val (.ref da), .val (.int (2 : Int32))] [] := by first | (simp [entryFrame, mkF, argsToLocals, Value.category]; done) | rfl
set_option maxRecDepth 65536 in
set_option maxHeartbeats 40000000 in
theorem rm_cfal_2 {l : Launch} {Z : State} {a0 : Array Value} {s_FLAG : Addr} {s_COMPACT_STRINGS : Int32} (hw : ∀ d ∈ tables_1, d.before a0 Z = true) (G : own_Ctx Z s_FLAG s_COMPACT_STRINGS) (da : Addr) (kd : ClassId) (vs : List Value) (h0 : Heap) (O0 : Ext Z.heap h0) (prem0 : Arv Z h0 da kd .byte (2 : Int32) vs (.int (0 : Int32))) :
    Ok l Z (⟨"java/lang/StringUTF16", "coderFromArrayLen", "([BI)B"⟩ : MethodName) jdk_52_method_15_code 2 (some .byte) ({ frames := 0, cells := 0, slots := 0, locals := 0 } : Room) #[(.ref da), (.int (2 : Int32))] h0
      (fun v h L => v = some (.int (0 : Int32)) ∧ (h = h0) ∧ (L = [])) := by
  refine Ok.mk pn_java_lang_StringUTF16_coderFromArrayLen___BI_B ?_
  intro p e s m below meth c T0 hx hby hml hown hnm hret hlk hZ e0 X0
  refine Go.cast (ef_rm_cfal_2 m da) ?_
  obtain ⟨S_FLAG, E_s_FLAG, S_COMPACT_STRINGS, hne_s_COMPACT_STRINGS_0⟩ := id G
  have N0 := Fr.nil Z.heap.size
  have K0 : Keep h0 h0 [] := Keep.refl _ _
  refine Go.of (T' := T0) (f' := (mkF m 1 #[.val (.ref da), .val (.int (2 : Int32))] [(.int (2 : Int32))])) (fun _ k => XS.iloadN X0.here hx rfl (hb hby d_jdk_52_method_15_code_0) rfl k) ?_
  refine Go.of (T' := T0) (f' := (mkF m 2 #[.val (.ref da), .val (.int (2 : Int32))] [(.ref da), (.int (2 : Int32))])) (fun _ k => XS.aloadN X0.here hx rfl (hb hby d_jdk_52_method_15_code_1) rfl rfl k) ?_
  obtain ⟨cl57, Ar57, qk57, S57, Ng57, H57, G57⟩ := id prem0
  refine Go.of (T' := T0) (f' := (mkF m 3 #[.val (.ref da), .val (.int (2 : Int32))] [(.int (2 : Int32)), (.int (2 : Int32))])) (fun _ k => X0.arraylength hx (by rw [e0]; exact Ar57.1) (State.isArrayOf_alike hZ.alike Ar57.2.1) (g := (mkF m 2 #[.val (.ref da), .val (.int (2 : Int32))] [(.ref da), (.int (2 : Int32))])) rfl rfl (hb hby d_jdk_52_method_15_code_2) _ (by rw [len_of S57 Ng57]; exact k)) ?_
  refine Go.of (T' := T0) (f' := (mkF m 4 #[.val (.ref da), .val (.int (2 : Int32))] [(.int (0 : Int32))])) (fun _ k => XS.isub X0.here hx rfl (hb hby d_jdk_52_method_15_code_3) rfl k) ?_
  refine Go.of (T' := T0) (f' := (mkF m 6 #[.val (.ref da), .val (.int (2 : Int32))] [(.int (31 : Int32)), (.int (0 : Int32))])) (fun _ k => XS.bipush X0.here hx rfl (hb hby d_jdk_52_method_15_code_4) k) ?_
  refine Go.of (T' := T0) (f' := (mkF m 7 #[.val (.ref da), .val (.int (2 : Int32))] [(.int (0 : Int32))])) (fun _ k => XS.iushr X0.here hx rfl (hb hby d_jdk_52_method_15_code_6) rfl k) ?_
  refine Go.of (T' := T0) (f' := (mkF m 8 #[.val (.ref da), .val (.int (2 : Int32))] [(.int ((0 : Int32).toInt8.toInt32))])) (fun _ k => XS.i2b X0.here hx rfl (hb hby d_jdk_52_method_15_code_7) rfl k) ?_
  exact Go.retB X0 hx hlk hret (by simp) (hb hby d_jdk_52_method_15_code_8) (by decide) (by decide) rfl (by rw [e0]; exact ⟨rfl, rfl, by simp⟩)
theorem ef_rm_str4_2 (m : MethodId) (so : Addr) (sa : Addr) : entryFrame m #[(.ref so), (.ref sa), (.int (0 : Int32)), (.int (2 : Int32)), .null] 6 = mkF m 0 #[.val (.ref so), .val (.ref sa), .val (.int (0 : Int32)), .val (.int (2 : Int32)), .val .null, .unset] [] := by first | (simp [entryFrame, mkF, argsToLocals, Value.category]; done) | rfl
set_option maxRecDepth 65536 in
set_option maxHeartbeats 40000000 in
theorem rm_str4_2 {l : Launch} {Z : State} {a0 : Array Value} {s_FLAG : Addr} {s_COMPACT_STRINGS : Int32} (hw : ∀ d ∈ tables_1, d.before a0 Z = true) (G : own_Ctx Z s_FLAG s_COMPACT_STRINGS) (so : Addr) (sa : Addr) (ks : ClassId) (x0 : Int32) (x1 : Int32) (h0 : Heap) (O0 : Ext Z.heap h0) (prem0 : ¬ ((255 : Int32) < x0)) (prem1 : ¬ ((255 : Int32) < x1)) (prem2 : Exa Z h0 so "java/lang/String") (prem3 : Fld Z h0 so "java/lang/String" "value" "[B" .null) (prem4 : Fld Z h0 so "java/lang/String" "coder" "B" (.int (0 : Int32))) (prem5 : Z.heap.size ≤ so) (prem6 : Arv Z h0 sa ks .char (2 : Int32) [(.int x0), (.int x1)] (.int (0 : Int32))) (prem7 : so ≠ sa) :
    Ok l Z (⟨"java/lang/String", "<init>", "([CIILjava/lang/Void;)V"⟩ : MethodName) jdk_42_method_149_code 6 none ({ frames := 2, cells := 1, slots := 2, locals := 35 } : Room) #[(.ref so), (.ref sa), (.int (0 : Int32)), (.int (2 : Int32)), .null] h0
      (fun v h L => ∃ da : Addr, ∃ kd : ClassId, v = none ∧ (Fr Z.heap.size L) ∧ (Keep h0 h [so]) ∧ (h0.size ≤ da) ∧ (Fld Z h so "java/lang/String" "value" "[B" (.ref da)) ∧ (Fld Z h so "java/lang/String" "coder" "B" (.int (0 : Int32))) ∧ (Arv Z h da kd .byte (2 : Int32) [(.int (x0.toInt8.toInt32)), (.int (x1.toInt8.toInt32))] (.int (0 : Int32))) ∧ (Exa Z h da "[B")) := by
  refine Ok.mk pn_java_lang_String__init____CIILjava_lang_Void__V ?_
  intro p e s m below meth c T0 hx hby hml hown hnm hret hlk hZ e0 X0
  refine Go.cast (ef_rm_str4_2 m so sa) ?_
  obtain ⟨S_FLAG, E_s_FLAG, S_COMPACT_STRINGS, hne_s_COMPACT_STRINGS_0⟩ := id G
  have N0 := Fr.nil Z.heap.size
  have K0 : Keep h0 h0 [so] := Keep.refl _ _
  refine Go.of (T' := T0) (f' := (mkF m 1 #[.val (.ref so), .val (.ref sa), .val (.int (0 : Int32)), .val (.int (2 : Int32)), .val .null, .unset] [(.ref so)])) (fun _ k => XS.aloadN X0.here hx rfl (hb hby d_jdk_42_method_149_code_0) rfl rfl k) ?_
  obtain ⟨T58, X58, e58, st58⟩ := initO X0 hx hZ hown (hw _ (List.mem_of_getElem? (i := 11) rfl)) (hw _ (List.mem_of_getElem? (i := 12) rfl)) (hw _ (List.mem_of_getElem? (i := 13) rfl)) e0 (g := (mkF m 1 #[.val (.ref so), .val (.ref sa), .val (.int (0 : Int32)), .val (.int (2 : Int32)), .val .null, .unset] [(.ref so)])) rfl (by rw [hml]; rfl) rfl (hb hby d_jdk_42_method_149_code_1) (by decide) (W := 0) (by show 2 * 0 + _ ≤ _; exact Nat.le_of_eq rfl) (by decide)
  refine Go.of (T' := T58) (f' := (mkF m 4 #[.val (.ref so), .val (.ref sa), .val (.int (0 : Int32)), .val (.int (2 : Int32)), .val .null, .unset] [])) (fun _ k => st58 _ k) ?_
  refine Go.of (T' := T58) (f' := (mkF m 5 #[.val (.ref so), .val (.ref sa), .val (.int (0 : Int32)), .val (.int (2 : Int32)), .val .null, .unset] [(.int (2 : Int32))])) (fun _ k => XS.iloadN X58.here hx rfl (hb hby d_jdk_42_method_149_code_4) rfl k) ?_
  refine Go.of (T' := T58) (f' := (mkF m 27 #[.val (.ref so), .val (.ref sa), .val (.int (0 : Int32)), .val (.int (2 : Int32)), .val .null, .unset] [])) (fun _ k => XS.ifYes X58.here hx rfl (pc0 := 5) (pc' := 27) rfl (hb hby d_jdk_42_method_149_code_5) rfl ((if0 _ _).trans (feq (by decide : ¬ ((2 : Int32) = (0 : Int32)))).2) (by decide) (by decide) k) ?_
  obtain ⟨T60, X60, e60, st60⟩ := getS2 X58 hx hZ hown (host := "") (Or.inl (hw _ (List.mem_of_getElem? (i := 14) rfl))) Via.refl e58 (Sta.ext O0 S_COMPACT_STRINGS) (g := (mkF m 27 #[.val (.ref so), .val (.ref sa), .val (.int (0 : Int32)), .val (.int (2 : Int32)), .val .null, .unset] [])) rfl (hb hby d_jdk_42_method_149_code_27)
  refine Go.of (T' := T60) (f' := (mkF m 30 #[.val (.ref so), .val (.ref sa), .val (.int (0 : Int32)), .val (.int (2 : Int32)), .val .null, .unset] [(.int s_COMPACT_STRINGS)])) (fun _ k => st60 _ k) ?_
  have hc61 : ¬ (s_COMPACT_STRINGS = (0 : Int32)) := hne_s_COMPACT_STRINGS_0
  refine Go.of (T' := T60) (f' := (mkF m 33 #[.val (.ref so), .val (.ref sa), .val (.int (0 : Int32)), .val (.int (2 : Int32)), .val .null, .unset] [])) (fun _ k => XS.ifNo X60.here hx rfl (hb hby d_jdk_42_method_149_code_30) rfl ((if0 _ _).trans (feq hc61).1) k) ?_
  refine Go.of (T' := T60) (f' := (mkF m 34 #[.val (.ref so), .val (.ref sa), .val (.int (0 : Int32)), .val (.int (2 : Int32)), .val .null, .unset] [(.ref sa)])) (fun _ k => XS.aloadN X60.here hx rfl (hb hby d_jdk_42_method_149_code_33) rfl rfl k) ?_
  refine Go.of (T' := T60) (f' := (mkF m 35 #[.val (.ref so), .val (.ref sa), .val (.int (0 : Int32)), .val (.int (2 : Int32)), .val .null, .unset] [(.int (0 : Int32)), (.ref sa)])) (fun _ k => XS.iloadN X60.here hx rfl (hb hby d_jdk_42_method_149_code_34) rfl k) ?_
  refine Go.of (T' := T60) (f' := (mkF m 36 #[.val (.ref so), .val (.ref sa), .val (.int (0 : Int32)), .val (.int (2 : Int32)), .val .null, .unset] [(.int (2 : Int32)), (.int (0 : Int32)), (.ref sa)])) (fun _ k => XS.iloadN X60.here hx rfl (hb hby d_jdk_42_method_149_code_35) rfl k) ?_
  obtain ⟨T62, v62, L62, X62, q62, st62⟩ := callSt X60 hx hZ (y := (⟨"java/lang/StringUTF16", "compress", "([CII)[B"⟩ : MethodName)) hown (hw _ (List.mem_of_getElem? (i := 15) rfl)) (hw _ (List.mem_of_getElem? (i := 16) rfl)) (hw _ (List.mem_of_getElem? (i := 17) rfl)) (hw _ (List.mem_of_getElem? (i := 18) rfl)) (by decide) (rm_comp3_2 hw G sa ks x0 x1 h0 O0 (prem0) (prem1) prem6) e60 (W := 0) (by decide) (by decide) (by decide) (by decide) (g := (mkF m 36 #[.val (.ref so), .val (.ref sa), .val (.int (0 : Int32)), .val (.int (2 : Int32)), .val .null, .unset] [(.int (2 : Int32)), (.int (0 : Int32)), (.ref sa)])) rfl (by rw [hml]; rfl) (argsL := [(.ref sa), (.int (0 : Int32)), (.int (2 : Int32))]) (rest := []) (lenOf pd___CII__B rfl) rfl rfl (by show 2 * 0 + _ ≤ _; exact Nat.le_of_eq rfl) (hb hby d_jdk_42_method_149_code_36)
  obtain ⟨da_62, kd_62, rfl, N62q, K62q, p62_0, p62_1, p62_2⟩ := q62
  have N62 := Fr.app N0 N62q
  have O63 := Old0.keep O0 K62q all0
  have K63 := Keep.trans K0 K62q all0
  have z_da_62 : h0.size ≤ da_62 := Nat.le_trans K0.1 p62_0
  have g_da_62 : Z.heap.size ≤ da_62 := Nat.le_trans O0.1 p62_0
  have ne_so_da_62 : so ≠ da_62 := Nat.ne_of_lt (Nat.lt_of_lt_of_le prem2.lt p62_0)
  have ne_sa_da_62 : sa ≠ da_62 := Nat.ne_of_lt (Nat.lt_of_lt_of_le prem6.lt p62_0)
  refine Go.of (T' := T62) (f' := (mkF m 39 #[.val (.ref so), .val (.ref sa), .val (.int (0 : Int32)), .val (.int (2 : Int32)), .val .null, .unset] [(.ref da_62)])) (fun _ k => st62 _ k) ?_
  refine Go.of (T' := T62) (f' := (mkF m 41 #[.val (.ref so), .val (.ref sa), .val (.int (0 : Int32)), .val (.int (2 : Int32)), .val .null, .val (.ref da_62)] [])) (fun _ k => XS.astore X62.here hx rfl (hb hby d_jdk_42_method_149_code_39) rfl rfl (l' := #[.val (.ref so), .val (.ref sa), .val (.int (0 : Int32)), .val (.int (2 : Int32)), .val .null, .val (.ref da_62)]) rfl k) ?_
  refine Go.of (T' := T62) (f' := (mkF m 42 #[.val (.ref so), .val (.ref sa), .val (.int (0 : Int32)), .val (.int (2 : Int32)), .val .null, .val (.ref da_62)] [(.ref so)])) (fun _ k => XS.aloadN X62.here hx rfl (hb hby d_jdk_42_method_149_code_41) rfl rfl k) ?_
  refine Go.of (T' := T62) (f' := (mkF m 44 #[.val (.ref so), .val (.ref sa), .val (.int (0 : Int32)), .val (.int (2 : Int32)), .val .null, .val (.ref da_62)] [(.ref da_62), (.ref so)])) (fun _ k => XS.aload X62.here hx rfl (hb hby d_jdk_42_method_149_code_42) rfl rfl k) ?_
  refine Go.of (T' := T62) (f' := (mkF m 45 #[.val (.ref so), .val (.ref sa), .val (.int (0 : Int32)), .val (.int (2 : Int32)), .val .null, .val (.ref da_62)] [(.int (2 : Int32)), (.ref da_62), (.ref so)])) (fun _ k => XS.iloadN X62.here hx rfl (hb hby d_jdk_42_method_149_code_44) rfl k) ?_
  obtain ⟨T64, v64, L64, X64, q64, st64⟩ := callSt X62 hx hZ (y := (⟨"java/lang/StringUTF16", "coderFromArrayLen", "([BI)B"⟩ : MethodName)) hown (hw _ (List.mem_of_getElem? (i := 23) rfl)) (hw _ (List.mem_of_getElem? (i := 24) rfl)) (hw _ (List.mem_of_getElem? (i := 17) rfl)) (hw _ (List.mem_of_getElem? (i := 25) rfl)) (by decide) (rm_cfal_2 hw G da_62 kd_62 ([(.int (x0.toInt8.toInt32)), (.int (x1.toInt8.toInt32))]) T62.heap O63 p62_1) rfl (W := 1) (by decide) (by decide) (by decide) (by decide) (g := (mkF m 45 #[.val (.ref so), .val (.ref sa), .val (.int (0 : Int32)), .val (.int (2 : Int32)), .val .null, .val (.ref da_62)] [(.int (2 : Int32)), (.ref da_62), (.ref so)])) rfl (by rw [hml]; rfl) (argsL := [(.ref da_62), (.int (2 : Int32))]) (rest := [(.ref so)]) (lenOf pd___BI_B rfl) rfl rfl (by show 2 * 0 + _ ≤ _; exact Nat.le_of_eq rfl) (hb hby d_jdk_42_method_149_code_45)
  obtain ⟨rfl, e64, rfl⟩ := q64
  have N64 := Fr.app N62 (Fr.nil _)
  refine Go.of (T' := T64) (f' := (mkF m 48 #[.val (.ref so), .val (.ref sa), .val (.int (0 : Int32)), .val (.int (2 : Int32)), .val .null, .val (.ref da_62)] [(.int (0 : Int32)), (.ref so)])) (fun _ k => st64 _ k) ?_
  have f66 : Exa Z T62.heap so "java/lang/String" := (Exa.keep prem2 K62q)
  have f67 : Fld Z T62.heap so "java/lang/String" "coder" "B" (.int (0 : Int32)) := (Fld.keep prem4 K62q nin0)
  obtain ⟨T65, h65, X65, e65, W65, st65⟩ := putFN X64 hx hZ hown (hw _ (List.mem_of_getElem? (i := 26) rfl)) Via.refl e64 f67 f66 (Or.inr ⟨(hw _ (List.mem_of_getElem? (i := 27) rfl)), rfl, hnm⟩) (hw _ (List.mem_of_getElem? (i := 2) rfl)) (ty := .byte) (v' := (.int (0 : Int32))) (by decide) rfl rfl (g := (mkF m 48 #[.val (.ref so), .val (.ref sa), .val (.int (0 : Int32)), .val (.int (2 : Int32)), .val .null, .val (.ref da_62)] [(.int (0 : Int32)), (.ref so)])) rfl rfl (hb hby d_jdk_42_method_149_code_48)
  have O68 := Old0.wr O63 W65 prem5
  have K68 := Keep.wr K63 W65 (Or.inl (List.mem_of_getElem? (i := 0) rfl))
  have N65 := Fr.snoc X65 N64 prem5
  have f65 : Fld Z h65 so "java/lang/String" "coder" "B" (.int (0 : Int32)) := Fld.same W65 f67
  refine Go.of (T' := T65) (f' := (mkF m 51 #[.val (.ref so), .val (.ref sa), .val (.int (0 : Int32)), .val (.int (2 : Int32)), .val .null, .val (.ref da_62)] [])) (fun _ k => st65 _ k) ?_
  refine Go.of (T' := T65) (f' := (mkF m 52 #[.val (.ref so), .val (.ref sa), .val (.int (0 : Int32)), .val (.int (2 : Int32)), .val .null, .val (.ref da_62)] [(.ref so)])) (fun _ k => XS.aloadN X65.here hx rfl (hb hby d_jdk_42_method_149_code_51) rfl rfl k) ?_
  refine Go.of (T' := T65) (f' := (mkF m 54 #[.val (.ref so), .val (.ref sa), .val (.int (0 : Int32)), .val (.int (2 : Int32)), .val .null, .val (.ref da_62)] [(.ref da_62), (.ref so)])) (fun _ k => XS.aload X65.here hx rfl (hb hby d_jdk_42_method_149_code_52) rfl rfl k) ?_
  have f70 : Exa Z h65 so "java/lang/String" := (Exa.wr W65 f66)
  have f71 : Fld Z h65 so "java/lang/String" "value" "[B" .null := (Fld.other W65 (Fld.keep prem3 K62q nin0) (Or.inr (slot_ne (Or.inr (hw _ (List.mem_of_getElem? (i := 29) rfl))) (Or.inr (hw _ (List.mem_of_getElem? (i := 27) rfl))) (by decide) (t := (.array .byte)) (t' := .byte) (by decide) (by decide))))
  obtain ⟨T69, h69, X69, e69, W69, st69⟩ := putF X65 hx hZ hown (host := "") (Or.inl (hw _ (List.mem_of_getElem? (i := 28) rfl))) Via.refl e65 f71 f70 (Or.inr ⟨(hw _ (List.mem_of_getElem? (i := 29) rfl)), rfl, hnm⟩) (hw _ (List.mem_of_getElem? (i := 2) rfl)) (ty := (.array .byte)) (by decide) rfl rfl (g := (mkF m 54 #[.val (.ref so), .val (.ref sa), .val (.int (0 : Int32)), .val (.int (2 : Int32)), .val .null, .val (.ref da_62)] [(.ref da_62), (.ref so)])) rfl rfl (hb hby d_jdk_42_method_149_code_54)
  have O72 := Old0.wr O68 W69 prem5
  have K72 := Keep.wr K68 W69 (Or.inl (List.mem_of_getElem? (i := 0) rfl))
  have N69 := Fr.snoc X69 N65 prem5
  have f69 : Fld Z h69 so "java/lang/String" "value" "[B" (.ref da_62) := Fld.same W69 f71
  refine Go.of (T' := T69) (f' := (mkF m 57 #[.val (.ref so), .val (.ref sa), .val (.int (0 : Int32)), .val (.int (2 : Int32)), .val .null, .val (.ref da_62)] [])) (fun _ k => st69 _ k) ?_
  have f73 : Fld Z h69 so "java/lang/String" "coder" "B" (.int (0 : Int32)) := (Fld.other W69 f65 (Or.inr (slot_ne (Or.inr (hw _ (List.mem_of_getElem? (i := 27) rfl))) (Or.inr (hw _ (List.mem_of_getElem? (i := 29) rfl))) (by decide) (t := .byte) (t' := (.array .byte)) (by decide) (by decide))))
  have f74 : Arv Z h69 da_62 kd_62 .byte (2 : Int32) [(.int (x0.toInt8.toInt32)), (.int (x1.toInt8.toInt32))] (.int (0 : Int32)) := (Arv.other (Arv.other p62_1 W65 (Ne.symm ne_so_da_62)) W69 (Ne.symm ne_so_da_62))
  have f75 : Exa Z h69 da_62 "[B" := (Exa.wr W69 (Exa.wr W65 p62_2))
  exact Go.retV X69 hx hlk hret (hb hby d_jdk_42_method_149_code_57) (by decide) (by decide) (by rw [e69]; exact ⟨da_62, kd_62, rfl, N69, K72, z_da_62, f69, f73, f74, f75⟩)
theorem ef_rm_str_2 (m : MethodId) (so : Addr) (sa : Addr) : entryFrame m #[(.ref so), (.ref sa)] 2 = mkF m 0 #[.val (.ref so), .val (.ref sa)] [] := by first | (simp [entryFrame, mkF, argsToLocals, Value.category]; done) | rfl
set_option maxRecDepth 65536 in
set_option maxHeartbeats 40000000 in
theorem rm_str_2 {l : Launch} {Z : State} {a0 : Array Value} {s_FLAG : Addr} {s_COMPACT_STRINGS : Int32} (hw : ∀ d ∈ tables_1, d.before a0 Z = true) (G : own_Ctx Z s_FLAG s_COMPACT_STRINGS) (so : Addr) (sa : Addr) (ks : ClassId) (x0 : Int32) (x1 : Int32) (h0 : Heap) (O0 : Ext Z.heap h0) (prem0 : ¬ ((255 : Int32) < x0)) (prem1 : ¬ ((255 : Int32) < x1)) (prem2 : Exa Z h0 so "java/lang/String") (prem3 : Fld Z h0 so "java/lang/String" "value" "[B" .null) (prem4 : Fld Z h0 so "java/lang/String" "coder" "B" (.int (0 : Int32))) (prem5 : Z.heap.size ≤ so) (prem6 : Arv Z h0 sa ks .char (2 : Int32) [(.int x0), (.int x1)] (.int (0 : Int32))) (prem7 : so ≠ sa) :
    Ok l Z (⟨"java/lang/String", "<init>", "([C)V"⟩ : MethodName) jdk_42_method_3_code 2 none ({ frames := 3, cells := 1, slots := 2, locals := 52 } : Room) #[(.ref so), (.ref sa)] h0
      (fun v h L => ∃ da : Addr, ∃ kd : ClassId, v = none ∧ (Fr Z.heap.size L) ∧ (Keep h0 h [so]) ∧ (h0.size ≤ da) ∧ (Fld Z h so "java/lang/String" "value" "[B" (.ref da)) ∧ (Fld Z h so "java/lang/String" "coder" "B" (.int (0 : Int32))) ∧ (Arv Z h da kd .byte (2 : Int32) [(.int (x0.toInt8.toInt32)), (.int (x1.toInt8.toInt32))] (.int (0 : Int32))) ∧ (Exa Z h da "[B")) := by
  refine Ok.mk pn_java_lang_String__init____C_V ?_
  intro p e s m below meth c T0 hx hby hml hown hnm hret hlk hZ e0 X0
  refine Go.cast (ef_rm_str_2 m so sa) ?_
  obtain ⟨S_FLAG, E_s_FLAG, S_COMPACT_STRINGS, hne_s_COMPACT_STRINGS_0⟩ := id G
  have N0 := Fr.nil Z.heap.size
  have K0 : Keep h0 h0 [so] := Keep.refl _ _
  refine Go.of (T' := T0) (f' := (mkF m 1 #[.val (.ref so), .val (.ref sa)] [(.ref so)])) (fun _ k => XS.aloadN X0.here hx rfl (hb hby d_jdk_42_method_3_code_0) rfl rfl k) ?_
  refine Go.of (T' := T0) (f' := (mkF m 2 #[.val (.ref so), .val (.ref sa)] [(.ref sa), (.ref so)])) (fun _ k => XS.aloadN X0.here hx rfl (hb hby d_jdk_42_method_3_code_1) rfl rfl k) ?_
  refine Go.of (T' := T0) (f' := (mkF m 3 #[.val (.ref so), .val (.ref sa)] [(.int (0 : Int32)), (.ref sa), (.ref so)])) (fun _ k => XS.iconst X0.here hx rfl (hb hby d_jdk_42_method_3_code_2) k) ?_
  refine Go.of (T' := T0) (f' := (mkF m 4 #[.val (.ref so), .val (.ref sa)] [(.ref sa), (.int (0 : Int32)), (.ref sa), (.ref so)])) (fun _ k => XS.aloadN X0.here hx rfl (hb hby d_jdk_42_method_3_code_3) rfl rfl k) ?_
  obtain ⟨cl76, Ar76, qk76, S76, Ng76, H76, G76⟩ := id prem6
  refine Go.of (T' := T0) (f' := (mkF m 5 #[.val (.ref so), .val (.ref sa)] [(.int (2 : Int32)), (.int (0 : Int32)), (.ref sa), (.ref so)])) (fun _ k => X0.arraylength hx (by rw [e0]; exact Ar76.1) (State.isArrayOf_alike hZ.alike Ar76.2.1) (g := (mkF m 4 #[.val (.ref so), .val (.ref sa)] [(.ref sa), (.int (0 : Int32)), (.ref sa), (.ref so)])) rfl rfl (hb hby d_jdk_42_method_3_code_4) _ (by rw [len_of S76 Ng76]; exact k)) ?_
  refine Go.of (T' := T0) (f' := (mkF m 6 #[.val (.ref so), .val (.ref sa)] [.null, (.int (2 : Int32)), (.int (0 : Int32)), (.ref sa), (.ref so)])) (fun _ k => XS.aconstNull X0.here hx rfl (hb hby d_jdk_42_method_3_code_5) k) ?_
  obtain ⟨T77, v77, L77, X77, q77, st77⟩ := callNew X0 hx hZ (y := (⟨"java/lang/String", "<init>", "([CIILjava/lang/Void;)V"⟩ : MethodName)) rfl hown (hw _ (List.mem_of_getElem? (i := 7) rfl)) (hw _ (List.mem_of_getElem? (i := 8) rfl)) (hw _ (List.mem_of_getElem? (i := 3) rfl)) (hw _ (List.mem_of_getElem? (i := 10) rfl)) (by decide) (rm_str4_2 hw G so sa ks x0 x1 h0 O0 (prem0) (prem1) prem2 prem3 prem4 prem5 prem6 prem7) e0 (W := 0) (by decide) (by decide) (by decide) (by decide) (g := (mkF m 6 #[.val (.ref so), .val (.ref sa)] [.null, (.int (2 : Int32)), (.int (0 : Int32)), (.ref sa), (.ref so)])) rfl (by rw [hml]; rfl) (a := so) (argsL := [(.ref sa), (.int (0 : Int32)), (.int (2 : Int32)), .null]) (rest := []) (lenOf pd___CIILjava_lang_Void__V rfl) rfl rfl (by show 2 * 0 + _ ≤ _; exact Nat.le_of_eq rfl) (hb hby d_jdk_42_method_3_code_6)
  obtain ⟨da_77, kd_77, rfl, N77q, K77q, p77_0, p77_1, p77_2, p77_3, p77_4⟩ := q77
  have N77 := Fr.app N0 N77q
  have O78 := Old0.keep O0 K77q (allS prem5 all0)
  have K78 := Keep.trans K0 K77q (allS (Or.inl (List.mem_of_getElem? (i := 0) rfl)) all0)
  have z_da_77 : h0.size ≤ da_77 := Nat.le_trans K0.1 p77_0
  have g_da_77 : Z.heap.size ≤ da_77 := Nat.le_trans O0.1 p77_0
  have ne_so_da_77 : so ≠ da_77 := Nat.ne_of_lt (Nat.lt_of_lt_of_le prem2.lt p77_0)
  have ne_sa_da_77 : sa ≠ da_77 := Nat.ne_of_lt (Nat.lt_of_lt_of_le prem6.lt p77_0)
  refine Go.of (T' := T77) (f' := (mkF m 9 #[.val (.ref so), .val (.ref sa)] [])) (fun _ k => st77 _ k) ?_
  exact Go.retV X77 hx hlk hret (hb hby d_jdk_42_method_3_code_9) (by decide) (by decide) ⟨da_77, kd_77, rfl, N77, K78, z_da_77, p77_1, p77_2, p77_3, p77_4⟩
theorem ef_rm_comp5_3 (m : MethodId) (sa : Addr) (da : Addr) : entryFrame m #[(.ref sa), (.int (0 : Int32)), (.ref da), (.int (0 : Int32)), (.int (3 : Int32))] 7 = mkF m 0 #[.val (.ref sa), .val (.int (0 : Int32)), .val (.ref da), .val (.int (0 : Int32)), .val (.int (3 : Int32)), .unset, .unset] [] := by first | (simp [entryFrame, mkF, argsToLocals, Value.category]; done) | rfl
set_option maxRecDepth 65536 in
set_option maxHeartbeats 40000000 in
theorem rm_comp5_3 {l : Launch} {Z : State} {a0 : Array Value} {s_FLAG : Addr} {s_COMPACT_STRINGS : Int32} (hw : ∀ d ∈ tables_1, d.before a0 Z = true) (G : own_Ctx Z s_FLAG s_COMPACT_STRINGS) (sa : Addr) (da : Addr) (ks : ClassId) (x0 : Int32) (x1 : Int32) (x2 : Int32) (kd : ClassId) (h0 : Heap) (O0 : Ext Z.heap h0) (prem0 : ¬ ((255 : Int32) < x0)) (prem1 : ¬ ((255 : Int32) < x1)) (prem2 : ¬ ((255 : Int32) < x2)) (prem3 : Arv Z h0 sa ks .char (3 : Int32) [(.int x0), (.int x1), (.int x2)] (.int (0 : Int32))) (prem4 : Arv Z h0 da kd .byte (3 : Int32) [(.int (0 : Int32)), (.int (0 : Int32)), (.int (0 : Int32))] (.int (0 : Int32))) (prem5 : Z.heap.size ≤ da) (prem6 : sa ≠ da) :
    Ok l Z (⟨"java/lang/StringUTF16", "compress", "([CI[BII)I"⟩ : MethodName) jdk_52_method_21_code 7 (some .int) ({ frames := 0, cells := 0, slots := 0, locals := 0 } : Room) #[(.ref sa), (.int (0 : Int32)), (.ref da), (.int (0 : Int32)), (.int (3 : Int32))] h0
      (fun v h L => v = some (.int (3 : Int32)) ∧ (Fr Z.heap.size L) ∧ (Keep h0 h [da]) ∧ (Arv Z h da kd .byte (3 : Int32) [(.int (x0.toInt8.toInt32)), (.int (x1.toInt8.toInt32)), (.int (x2.toInt8.toInt32))] (.int (0 : Int32)))) := by
  refine Ok.mk pn_java_lang_StringUTF16_compress___CI_BII_I ?_
  intro p e s m below meth c T0 hx hby hml hown hnm hret hlk hZ e0 X0
  refine Go.cast (ef_rm_comp5_3 m sa da) ?_
  obtain ⟨S_FLAG, E_s_FLAG, S_COMPACT_STRINGS, hne_s_COMPACT_STRINGS_0⟩ := id G
  have N0 := Fr.nil Z.heap.size
  have K0 : Keep h0 h0 [da] := Keep.refl _ _
  refine Go.of (T' := T0) (f' := (mkF m 1 #[.val (.ref sa), .val (.int (0 : Int32)), .val (.ref da), .val (.int (0 : Int32)), .val (.int (3 : Int32)), .unset, .unset] [(.int (0 : Int32))])) (fun _ k => XS.iconst X0.here hx rfl (hb hby d_jdk_52_method_21_code_0) k) ?_
  refine Go.of (T' := T0) (f' := (mkF m 3 #[.val (.ref sa), .val (.int (0 : Int32)), .val (.ref da), .val (.int (0 : Int32)), .val (.int (3 : Int32)), .val (.int (0 : Int32)), .unset] [])) (fun _ k => XS.istore X0.here hx rfl (hb hby d_jdk_52_method_21_code_1) rfl (l' := #[.val (.ref sa), .val (.int (0 : Int32)), .val (.ref da), .val (.int (0 : Int32)), .val (.int (3 : Int32)), .val (.int (0 : Int32)), .unset]) rfl k) ?_
  refine Go.of (T' := T0) (f' := (mkF m 5 #[.val (.ref sa), .val (.int (0 : Int32)), .val (.ref da), .val (.int (0 : Int32)), .val (.int (3 : Int32)), .val (.int (0 : Int32)), .unset] [(.int (0 : Int32))])) (fun _ k => XS.iload X0.here hx rfl (hb hby d_jdk_52_method_21_code_3) rfl k) ?_
  refine Go.of (T' := T0) (f' := (mkF m 7 #[.val (.ref sa), .val (.int (0 : Int32)), .val (.ref da), .val (.int (0 : Int32)), .val (.int (3 : Int32)), .val (.int (0 : Int32)), .unset] [(.int (3 : Int32)), (.int (0 : Int32))])) (fun _ k => XS.iload X0.here hx rfl (hb hby d_jdk_52_method_21_code_5) rfl k) ?_
  refine Go.of (T' := T0) (f' := (mkF m 10 #[.val (.ref sa), .val (.int (0 : Int32)), .val (.ref da), .val (.int (0 : Int32)), .val (.int (3 : Int32)), .val (.int (0 : Int32)), .unset] [])) (fun _ k => XS.icmpNo X0.here hx rfl (hb hby d_jdk_52_method_21_code_7) rfl (tlt (by decide : (0 : Int32) < (3 : Int32))).2.1 k) ?_
  refine Go.of (T' := T0) (f' := (mkF m 11 #[.val (.ref sa), .val (.int (0 : Int32)), .val (.ref da), .val (.int (0 : Int32)), .val (.int (3 : Int32)), .val (.int (0 : Int32)), .unset] [(.ref sa)])) (fun _ k => XS.aloadN X0.here hx rfl (hb hby d_jdk_52_method_21_code_10) rfl rfl k) ?_
  refine Go.of (T' := T0) (f' := (mkF m 12 #[.val (.ref sa), .val (.int (0 : Int32)), .val (.ref da), .val (.int (0 : Int32)), .val (.int (3 : Int32)), .val (.int (0 : Int32)), .unset] [(.int (0 : Int32)), (.ref sa)])) (fun _ k => XS.iloadN X0.here hx rfl (hb hby d_jdk_52_method_21_code_11) rfl k) ?_
  obtain ⟨cl80, Ar80, qk80, S80, Ng80, H80, G80⟩ := id prem3
  have hin80 := inb_of (j := (0 : Int32)) S80 ⟨by decide, by decide⟩
  refine Go.of (T' := T0) (f' := (mkF m 13 #[.val (.ref sa), .val (.int (0 : Int32)), .val (.ref da), .val (.int (0 : Int32)), .val (.int (3 : Int32)), .val (.int (0 : Int32)), .unset] [(.int x0)])) (fun _ k => X0.caload hx (j := (0 : Int32)) (v := (.int x0)) (by rw [e0]; exact Ar80.1) (State.isArrayOf_alike hZ.alike Ar80.2.1) Ar80.2.2 hin80 (H80.at hin80 rfl) (g := (mkF m 12 #[.val (.ref sa), .val (.int (0 : Int32)), .val (.ref da), .val (.int (0 : Int32)), .val (.int (3 : Int32)), .val (.int (0 : Int32)), .unset] [(.int (0 : Int32)), (.ref sa)])) rfl rfl (hb hby d_jdk_52_method_21_code_12) _ k) ?_
  refine Go.of (T' := T0) (f' := (mkF m 15 #[.val (.ref sa), .val (.int (0 : Int32)), .val (.ref da), .val (.int (0 : Int32)), .val (.int (3 : Int32)), .val (.int (0 : Int32)), .val (.int x0)] [])) (fun _ k => XS.istore X0.here hx rfl (hb hby d_jdk_52_method_21_code_13) rfl (l' := #[.val (.ref sa), .val (.int (0 : Int32)), .val (.ref da), .val (.int (0 : Int32)), .val (.int (3 : Int32)), .val (.int (0 : Int32)), .val (.int x0)]) rfl k) ?_
  refine Go.of (T' := T0) (f' := (mkF m 17 #[.val (.ref sa), .val (.int (0 : Int32)), .val (.ref da), .val (.int (0 : Int32)), .val (.int (3 : Int32)), .val (.int (0 : Int32)), .val (.int x0)] [(.int x0)])) (fun _ k => XS.iload X0.here hx rfl (hb hby d_jdk_52_method_21_code_15) rfl k) ?_
  refine Go.of (T' := T0) (f' := (mkF m 20 #[.val (.ref sa), .val (.int (0 : Int32)), .val (.ref da), .val (.int (0 : Int32)), .val (.int (3 : Int32)), .val (.int (0 : Int32)), .val (.int x0)] [(.int (255 : Int32)), (.int x0)])) (fun _ k => XS.sipush X0.here hx rfl (hb hby d_jdk_52_method_21_code_17) k) ?_
  have hc81 : ¬ ((255 : Int32) < x0) := prem0
  refine Go.of (T' := T0) (f' := (mkF m 26 #[.val (.ref sa), .val (.int (0 : Int32)), .val (.ref da), .val (.int (0 : Int32)), .val (.int (3 : Int32)), .val (.int (0 : Int32)), .val (.int x0)] [])) (fun _ k => XS.icmpYes X0.here hx rfl (pc0 := 20) (pc' := 26) rfl (hb hby d_jdk_52_method_21_code_20) rfl (flt hc81).2.2.2 (by decide) (by decide) k) ?_
  refine Go.of (T' := T0) (f' := (mkF m 27 #[.val (.ref sa), .val (.int (0 : Int32)), .val (.ref da), .val (.int (0 : Int32)), .val (.int (3 : Int32)), .val (.int (0 : Int32)), .val (.int x0)] [(.ref da)])) (fun _ k => XS.aloadN X0.here hx rfl (hb hby d_jdk_52_method_21_code_26) rfl rfl k) ?_
  refine Go.of (T' := T0) (f' := (mkF m 28 #[.val (.ref sa), .val (.int (0 : Int32)), .val (.ref da), .val (.int (0 : Int32)), .val (.int (3 : Int32)), .val (.int (0 : Int32)), .val (.int x0)] [(.int (0 : Int32)), (.ref da)])) (fun _ k => XS.iloadN X0.here hx rfl (hb hby d_jdk_52_method_21_code_27) rfl k) ?_
  refine Go.of (T' := T0) (f' := (mkF m 30 #[.val (.ref sa), .val (.int (0 : Int32)), .val (.ref da), .val (.int (0 : Int32)), .val (.int (3 : Int32)), .val (.int (0 : Int32)), .val (.int x0)] [(.int x0), (.int (0 : Int32)), (.ref da)])) (fun _ k => XS.iload X0.here hx rfl (hb hby d_jdk_52_method_21_code_28) rfl k) ?_
  refine Go.of (T' := T0) (f' := (mkF m 31 #[.val (.ref sa), .val (.int (0 : Int32)), .val (.ref da), .val (.int (0 : Int32)), .val (.int (3 : Int32)), .val (.int (0 : Int32)), .val (.int x0)] [(.int (x0.toInt8.toInt32)), (.int (0 : Int32)), (.ref da)])) (fun _ k => XS.i2b X0.here hx rfl (hb hby d_jdk_52_method_21_code_30) rfl k) ?_
  obtain ⟨cl82, Ar82, qk82, S82, Ng82, H82, G82⟩ := id prem4
  obtain ⟨T82, h82, X82, e82, W82, st82⟩ := stB X0 hx hZ e0 Ar82 (j := (0 : Int32)) (inb_of S82 ⟨by decide, by decide⟩) (g := (mkF m 31 #[.val (.ref sa), .val (.int (0 : Int32)), .val (.ref da), .val (.int (0 : Int32)), .val (.int (3 : Int32)), .val (.int (0 : Int32)), .val (.int x0)] [(.int (x0.toInt8.toInt32)), (.int (0 : Int32)), (.ref da)])) rfl rfl (hb hby d_jdk_52_method_21_code_31)
  have W82 : Wr h0 h82 da ((0 : Int32)).toNatClampNeg (.int (x0.toInt8.toInt32)) := Eq.mp (congrArg (fun z => Wr h0 h82 da ((0 : Int32)).toNatClampNeg (Value.int z)) (own_b8 x0)) W82
  have O83 := Old0.wr O0 W82 prem5
  have K83 := Keep.wr K0 W82 (Or.inl (List.mem_of_getElem? (i := 0) rfl))
  have f82 : Arv Z h82 da kd .byte (3 : Int32) [(.int (x0.toInt8.toInt32)), (.int (0 : Int32)), (.int (0 : Int32))] (.int (0 : Int32)) := Arv.set Ar82 qk82 S82 Ng82 H82 G82 (v := (.int (x0.toInt8.toInt32))) (fits_nar_byte _) W82 0 rfl (Nat.le_of_ble_eq_true rfl)
  have N82 := Fr.snoc X82 N0 prem5
  refine Go.of (T' := T82) (f' := (mkF m 32 #[.val (.ref sa), .val (.int (0 : Int32)), .val (.ref da), .val (.int (0 : Int32)), .val (.int (3 : Int32)), .val (.int (0 : Int32)), .val (.int x0)] [])) (fun _ k => st82 _ k) ?_
  refine Go.of (T' := T82) (f' := (mkF m 35 #[.val (.ref sa), .val (.int (1 : Int32)), .val (.ref da), .val (.int (0 : Int32)), .val (.int (3 : Int32)), .val (.int (0 : Int32)), .val (.int x0)] [])) (fun _ k => XS.iinc X82.here hx rfl (hb hby d_jdk_52_method_21_code_32) rfl (l' := #[.val (.ref sa), .val (.int (1 : Int32)), .val (.ref da), .val (.int (0 : Int32)), .val (.int (3 : Int32)), .val (.int (0 : Int32)), .val (.int x0)]) rfl k) ?_
  refine Go.of (T' := T82) (f' := (mkF m 38 #[.val (.ref sa), .val (.int (1 : Int32)), .val (.ref da), .val (.int (1 : Int32)), .val (.int (3 : Int32)), .val (.int (0 : Int32)), .val (.int x0)] [])) (fun _ k => XS.iinc X82.here hx rfl (hb hby d_jdk_52_method_21_code_35) rfl (l' := #[.val (.ref sa), .val (.int (1 : Int32)), .val (.ref da), .val (.int (1 : Int32)), .val (.int (3 : Int32)), .val (.int (0 : Int32)), .val (.int x0)]) rfl k) ?_
  refine Go.of (T' := T82) (f' := (mkF m 41 #[.val (.ref sa), .val (.int (1 : Int32)), .val (.ref da), .val (.int (1 : Int32)), .val (.int (3 : Int32)), .val (.int (1 : Int32)), .val (.int x0)] [])) (fun _ k => XS.iinc X82.here hx rfl (hb hby d_jdk_52_method_21_code_38) rfl (l' := #[.val (.ref sa), .val (.int (1 : Int32)), .val (.ref da), .val (.int (1 : Int32)), .val (.int (3 : Int32)), .val (.int (1 : Int32)), .val (.int x0)]) rfl k) ?_
  refine Go.of (T' := T82) (f' := (mkF m 3 #[.val (.ref sa), .val (.int (1 : Int32)), .val (.ref da), .val (.int (1 : Int32)), .val (.int (3 : Int32)), .val (.int (1 : Int32)), .val (.int x0)] [])) (fun _ k => XS.goto X82.here hx rfl (pc0 := 41) (pc' := 3) rfl (hb hby d_jdk_52_method_21_code_41) (by decide) (by decide) k) ?_
  refine Go.of (T' := T82) (f' := (mkF m 5 #[.val (.ref sa), .val (.int (1 : Int32)), .val (.ref da), .val (.int (1 : Int32)), .val (.int (3 : Int32)), .val (.int (1 : Int32)), .val (.int x0)] [(.int (1 : Int32))])) (fun _ k => XS.iload X82.here hx rfl (hb hby d_jdk_52_method_21_code_3) rfl k) ?_
  refine Go.of (T' := T82) (f' := (mkF m 7 #[.val (.ref sa), .val (.int (1 : Int32)), .val (.ref da), .val (.int (1 : Int32)), .val (.int (3 : Int32)), .val (.int (1 : Int32)), .val (.int x0)] [(.int (3 : Int32)), (.int (1 : Int32))])) (fun _ k => XS.iload X82.here hx rfl (hb hby d_jdk_52_method_21_code_5) rfl k) ?_
  refine Go.of (T' := T82) (f' := (mkF m 10 #[.val (.ref sa), .val (.int (1 : Int32)), .val (.ref da), .val (.int (1 : Int32)), .val (.int (3 : Int32)), .val (.int (1 : Int32)), .val (.int x0)] [])) (fun _ k => XS.icmpNo X82.here hx rfl (hb hby d_jdk_52_method_21_code_7) rfl (tlt (by decide : (1 : Int32) < (3 : Int32))).2.1 k) ?_
  refine Go.of (T' := T82) (f' := (mkF m 11 #[.val (.ref sa), .val (.int (1 : Int32)), .val (.ref da), .val (.int (1 : Int32)), .val (.int (3 : Int32)), .val (.int (1 : Int32)), .val (.int x0)] [(.ref sa)])) (fun _ k => XS.aloadN X82.here hx rfl (hb hby d_jdk_52_method_21_code_10) rfl rfl k) ?_
  refine Go.of (T' := T82) (f' := (mkF m 12 #[.val (.ref sa), .val (.int (1 : Int32)), .val (.ref da), .val (.int (1 : Int32)), .val (.int (3 : Int32)), .val (.int (1 : Int32)), .val (.int x0)] [(.int (1 : Int32)), (.ref sa)])) (fun _ k => XS.iloadN X82.here hx rfl (hb hby d_jdk_52_method_21_code_11) rfl k) ?_
  have f86 : Arv Z h82 sa ks .char (3 : Int32) [(.int x0), (.int x1), (.int x2)] (.int (0 : Int32)) := (Arv.other prem3 W82 prem6)
  obtain ⟨cl85, Ar85, qk85, S85, Ng85, H85, G85⟩ := id f86
  have hin85 := inb_of (j := (1 : Int32)) S85 ⟨by decide, by decide⟩
  refine Go.of (T' := T82) (f' := (mkF m 13 #[.val (.ref sa), .val (.int (1 : Int32)), .val (.ref da), .val (.int (1 : Int32)), .val (.int (3 : Int32)), .val (.int (1 : Int32)), .val (.int x0)] [(.int x1)])) (fun _ k => X82.caload hx (j := (1 : Int32)) (v := (.int x1)) (by rw [e82]; exact Ar85.1) (State.isArrayOf_alike hZ.alike Ar85.2.1) Ar85.2.2 hin85 (H85.at hin85 rfl) (g := (mkF m 12 #[.val (.ref sa), .val (.int (1 : Int32)), .val (.ref da), .val (.int (1 : Int32)), .val (.int (3 : Int32)), .val (.int (1 : Int32)), .val (.int x0)] [(.int (1 : Int32)), (.ref sa)])) rfl rfl (hb hby d_jdk_52_method_21_code_12) _ k) ?_
  refine Go.of (T' := T82) (f' := (mkF m 15 #[.val (.ref sa), .val (.int (1 : Int32)), .val (.ref da), .val (.int (1 : Int32)), .val (.int (3 : Int32)), .val (.int (1 : Int32)), .val (.int x1)] [])) (fun _ k => XS.istore X82.here hx rfl (hb hby d_jdk_52_method_21_code_13) rfl (l' := #[.val (.ref sa), .val (.int (1 : Int32)), .val (.ref da), .val (.int (1 : Int32)), .val (.int (3 : Int32)), .val (.int (1 : Int32)), .val (.int x1)]) rfl k) ?_
  refine Go.of (T' := T82) (f' := (mkF m 17 #[.val (.ref sa), .val (.int (1 : Int32)), .val (.ref da), .val (.int (1 : Int32)), .val (.int (3 : Int32)), .val (.int (1 : Int32)), .val (.int x1)] [(.int x1)])) (fun _ k => XS.iload X82.here hx rfl (hb hby d_jdk_52_method_21_code_15) rfl k) ?_
  refine Go.of (T' := T82) (f' := (mkF m 20 #[.val (.ref sa), .val (.int (1 : Int32)), .val (.ref da), .val (.int (1 : Int32)), .val (.int (3 : Int32)), .val (.int (1 : Int32)), .val (.int x1)] [(.int (255 : Int32)), (.int x1)])) (fun _ k => XS.sipush X82.here hx rfl (hb hby d_jdk_52_method_21_code_17) k) ?_
  have hc87 : ¬ ((255 : Int32) < x1) := prem1
  refine Go.of (T' := T82) (f' := (mkF m 26 #[.val (.ref sa), .val (.int (1 : Int32)), .val (.ref da), .val (.int (1 : Int32)), .val (.int (3 : Int32)), .val (.int (1 : Int32)), .val (.int x1)] [])) (fun _ k => XS.icmpYes X82.here hx rfl (pc0 := 20) (pc' := 26) rfl (hb hby d_jdk_52_method_21_code_20) rfl (flt hc87).2.2.2 (by decide) (by decide) k) ?_
  refine Go.of (T' := T82) (f' := (mkF m 27 #[.val (.ref sa), .val (.int (1 : Int32)), .val (.ref da), .val (.int (1 : Int32)), .val (.int (3 : Int32)), .val (.int (1 : Int32)), .val (.int x1)] [(.ref da)])) (fun _ k => XS.aloadN X82.here hx rfl (hb hby d_jdk_52_method_21_code_26) rfl rfl k) ?_
  refine Go.of (T' := T82) (f' := (mkF m 28 #[.val (.ref sa), .val (.int (1 : Int32)), .val (.ref da), .val (.int (1 : Int32)), .val (.int (3 : Int32)), .val (.int (1 : Int32)), .val (.int x1)] [(.int (1 : Int32)), (.ref da)])) (fun _ k => XS.iloadN X82.here hx rfl (hb hby d_jdk_52_method_21_code_27) rfl k) ?_
  refine Go.of (T' := T82) (f' := (mkF m 30 #[.val (.ref sa), .val (.int (1 : Int32)), .val (.ref da), .val (.int (1 : Int32)), .val (.int (3 : Int32)), .val (.int (1 : Int32)), .val (.int x1)] [(.int x1), (.int (1 : Int32)), (.ref da)])) (fun _ k => XS.iload X82.here hx rfl (hb hby d_jdk_52_method_21_code_28) rfl k) ?_
  refine Go.of (T' := T82) (f' := (mkF m 31 #[.val (.ref sa), .val (.int (1 : Int32)), .val (.ref da), .val (.int (1 : Int32)), .val (.int (3 : Int32)), .val (.int (1 : Int32)), .val (.int x1)] [(.int (x1.toInt8.toInt32)), (.int (1 : Int32)), (.ref da)])) (fun _ k => XS.i2b X82.here hx rfl (hb hby d_jdk_52_method_21_code_30) rfl k) ?_
  obtain ⟨cl88, Ar88, qk88, S88, Ng88, H88, G88⟩ := id f82
  obtain ⟨T88, h88, X88, e88, W88, st88⟩ := stB X82 hx hZ e82 Ar88 (j := (1 : Int32)) (inb_of S88 ⟨by decide, by decide⟩) (g := (mkF m 31 #[.val (.ref sa), .val (.int (1 : Int32)), .val (.ref da), .val (.int (1 : Int32)), .val (.int (3 : Int32)), .val (.int (1 : Int32)), .val (.int x1)] [(.int (x1.toInt8.toInt32)), (.int (1 : Int32)), (.ref da)])) rfl rfl (hb hby d_jdk_52_method_21_code_31)
  have W88 : Wr h82 h88 da ((1 : Int32)).toNatClampNeg (.int (x1.toInt8.toInt32)) := Eq.mp (congrArg (fun z => Wr h82 h88 da ((1 : Int32)).toNatClampNeg (Value.int z)) (own_b8 x1)) W88
  have O89 := Old0.wr O83 W88 prem5
  have K89 := Keep.wr K83 W88 (Or.inl (List.mem_of_getElem? (i := 0) rfl))
  have f88 : Arv Z h88 da kd .byte (3 : Int32) [(.int (x0.toInt8.toInt32)), (.int (x1.toInt8.toInt32)), (.int (0 : Int32))] (.int (0 : Int32)) := Arv.set Ar88 qk88 S88 Ng88 H88 G88 (v := (.int (x1.toInt8.toInt32))) (fits_nar_byte _) W88 1 rfl (Nat.le_of_ble_eq_true rfl)
  have N88 := Fr.snoc X88 N82 prem5
  refine Go.of (T' := T88) (f' := (mkF m 32 #[.val (.ref sa), .val (.int (1 : Int32)), .val (.ref da), .val (.int (1 : Int32)), .val (.int (3 : Int32)), .val (.int (1 : Int32)), .val (.int x1)] [])) (fun _ k => st88 _ k) ?_
  refine Go.of (T' := T88) (f' := (mkF m 35 #[.val (.ref sa), .val (.int (2 : Int32)), .val (.ref da), .val (.int (1 : Int32)), .val (.int (3 : Int32)), .val (.int (1 : Int32)), .val (.int x1)] [])) (fun _ k => XS.iinc X88.here hx rfl (hb hby d_jdk_52_method_21_code_32) rfl (l' := #[.val (.ref sa), .val (.int (2 : Int32)), .val (.ref da), .val (.int (1 : Int32)), .val (.int (3 : Int32)), .val (.int (1 : Int32)), .val (.int x1)]) rfl k) ?_
  refine Go.of (T' := T88) (f' := (mkF m 38 #[.val (.ref sa), .val (.int (2 : Int32)), .val (.ref da), .val (.int (2 : Int32)), .val (.int (3 : Int32)), .val (.int (1 : Int32)), .val (.int x1)] [])) (fun _ k => XS.iinc X88.here hx rfl (hb hby d_jdk_52_method_21_code_35) rfl (l' := #[.val (.ref sa), .val (.int (2 : Int32)), .val (.ref da), .val (.int (2 : Int32)), .val (.int (3 : Int32)), .val (.int (1 : Int32)), .val (.int x1)]) rfl k) ?_
  refine Go.of (T' := T88) (f' := (mkF m 41 #[.val (.ref sa), .val (.int (2 : Int32)), .val (.ref da), .val (.int (2 : Int32)), .val (.int (3 : Int32)), .val (.int (2 : Int32)), .val (.int x1)] [])) (fun _ k => XS.iinc X88.here hx rfl (hb hby d_jdk_52_method_21_code_38) rfl (l' := #[.val (.ref sa), .val (.int (2 : Int32)), .val (.ref da), .val (.int (2 : Int32)), .val (.int (3 : Int32)), .val (.int (2 : Int32)), .val (.int x1)]) rfl k) ?_
  refine Go.of (T' := T88) (f' := (mkF m 3 #[.val (.ref sa), .val (.int (2 : Int32)), .val (.ref da), .val (.int (2 : Int32)), .val (.int (3 : Int32)), .val (.int (2 : Int32)), .val (.int x1)] [])) (fun _ k => XS.goto X88.here hx rfl (pc0 := 41) (pc' := 3) rfl (hb hby d_jdk_52_method_21_code_41) (by decide) (by decide) k) ?_
  refine Go.of (T' := T88) (f' := (mkF m 5 #[.val (.ref sa), .val (.int (2 : Int32)), .val (.ref da), .val (.int (2 : Int32)), .val (.int (3 : Int32)), .val (.int (2 : Int32)), .val (.int x1)] [(.int (2 : Int32))])) (fun _ k => XS.iload X88.here hx rfl (hb hby d_jdk_52_method_21_code_3) rfl k) ?_
  refine Go.of (T' := T88) (f' := (mkF m 7 #[.val (.ref sa), .val (.int (2 : Int32)), .val (.ref da), .val (.int (2 : Int32)), .val (.int (3 : Int32)), .val (.int (2 : Int32)), .val (.int x1)] [(.int (3 : Int32)), (.int (2 : Int32))])) (fun _ k => XS.iload X88.here hx rfl (hb hby d_jdk_52_method_21_code_5) rfl k) ?_
  refine Go.of (T' := T88) (f' := (mkF m 10 #[.val (.ref sa), .val (.int (2 : Int32)), .val (.ref da), .val (.int (2 : Int32)), .val (.int (3 : Int32)), .val (.int (2 : Int32)), .val (.int x1)] [])) (fun _ k => XS.icmpNo X88.here hx rfl (hb hby d_jdk_52_method_21_code_7) rfl (tlt (by decide : (2 : Int32) < (3 : Int32))).2.1 k) ?_
  refine Go.of (T' := T88) (f' := (mkF m 11 #[.val (.ref sa), .val (.int (2 : Int32)), .val (.ref da), .val (.int (2 : Int32)), .val (.int (3 : Int32)), .val (.int (2 : Int32)), .val (.int x1)] [(.ref sa)])) (fun _ k => XS.aloadN X88.here hx rfl (hb hby d_jdk_52_method_21_code_10) rfl rfl k) ?_
  refine Go.of (T' := T88) (f' := (mkF m 12 #[.val (.ref sa), .val (.int (2 : Int32)), .val (.ref da), .val (.int (2 : Int32)), .val (.int (3 : Int32)), .val (.int (2 : Int32)), .val (.int x1)] [(.int (2 : Int32)), (.ref sa)])) (fun _ k => XS.iloadN X88.here hx rfl (hb hby d_jdk_52_method_21_code_11) rfl k) ?_
  have f92 : Arv Z h88 sa ks .char (3 : Int32) [(.int x0), (.int x1), (.int x2)] (.int (0 : Int32)) := (Arv.other f86 W88 prem6)
  obtain ⟨cl91, Ar91, qk91, S91, Ng91, H91, G91⟩ := id f92
  have hin91 := inb_of (j := (2 : Int32)) S91 ⟨by decide, by decide⟩
  refine Go.of (T' := T88) (f' := (mkF m 13 #[.val (.ref sa), .val (.int (2 : Int32)), .val (.ref da), .val (.int (2 : Int32)), .val (.int (3 : Int32)), .val (.int (2 : Int32)), .val (.int x1)] [(.int x2)])) (fun _ k => X88.caload hx (j := (2 : Int32)) (v := (.int x2)) (by rw [e88]; exact Ar91.1) (State.isArrayOf_alike hZ.alike Ar91.2.1) Ar91.2.2 hin91 (H91.at hin91 rfl) (g := (mkF m 12 #[.val (.ref sa), .val (.int (2 : Int32)), .val (.ref da), .val (.int (2 : Int32)), .val (.int (3 : Int32)), .val (.int (2 : Int32)), .val (.int x1)] [(.int (2 : Int32)), (.ref sa)])) rfl rfl (hb hby d_jdk_52_method_21_code_12) _ k) ?_
  refine Go.of (T' := T88) (f' := (mkF m 15 #[.val (.ref sa), .val (.int (2 : Int32)), .val (.ref da), .val (.int (2 : Int32)), .val (.int (3 : Int32)), .val (.int (2 : Int32)), .val (.int x2)] [])) (fun _ k => XS.istore X88.here hx rfl (hb hby d_jdk_52_method_21_code_13) rfl (l' := #[.val (.ref sa), .val (.int (2 : Int32)), .val (.ref da), .val (.int (2 : Int32)), .val (.int (3 : Int32)), .val (.int (2 : Int32)), .val (.int x2)]) rfl k) ?_
  refine Go.of (T' := T88) (f' := (mkF m 17 #[.val (.ref sa), .val (.int (2 : Int32)), .val (.ref da), .val (.int (2 : Int32)), .val (.int (3 : Int32)), .val (.int (2 : Int32)), .val (.int x2)] [(.int x2)])) (fun _ k => XS.iload X88.here hx rfl (hb hby d_jdk_52_method_21_code_15) rfl k) ?_
  refine Go.of (T' := T88) (f' := (mkF m 20 #[.val (.ref sa), .val (.int (2 : Int32)), .val (.ref da), .val (.int (2 : Int32)), .val (.int (3 : Int32)), .val (.int (2 : Int32)), .val (.int x2)] [(.int (255 : Int32)), (.int x2)])) (fun _ k => XS.sipush X88.here hx rfl (hb hby d_jdk_52_method_21_code_17) k) ?_
  have hc93 : ¬ ((255 : Int32) < x2) := prem2
  refine Go.of (T' := T88) (f' := (mkF m 26 #[.val (.ref sa), .val (.int (2 : Int32)), .val (.ref da), .val (.int (2 : Int32)), .val (.int (3 : Int32)), .val (.int (2 : Int32)), .val (.int x2)] [])) (fun _ k => XS.icmpYes X88.here hx rfl (pc0 := 20) (pc' := 26) rfl (hb hby d_jdk_52_method_21_code_20) rfl (flt hc93).2.2.2 (by decide) (by decide) k) ?_
  refine Go.of (T' := T88) (f' := (mkF m 27 #[.val (.ref sa), .val (.int (2 : Int32)), .val (.ref da), .val (.int (2 : Int32)), .val (.int (3 : Int32)), .val (.int (2 : Int32)), .val (.int x2)] [(.ref da)])) (fun _ k => XS.aloadN X88.here hx rfl (hb hby d_jdk_52_method_21_code_26) rfl rfl k) ?_
  refine Go.of (T' := T88) (f' := (mkF m 28 #[.val (.ref sa), .val (.int (2 : Int32)), .val (.ref da), .val (.int (2 : Int32)), .val (.int (3 : Int32)), .val (.int (2 : Int32)), .val (.int x2)] [(.int (2 : Int32)), (.ref da)])) (fun _ k => XS.iloadN X88.here hx rfl (hb hby d_jdk_52_method_21_code_27) rfl k) ?_
  refine Go.of (T' := T88) (f' := (mkF m 30 #[.val (.ref sa), .val (.int (2 : Int32)), .val (.ref da), .val (.int (2 : Int32)), .val (.int (3 : Int32)), .val (.int (2 : Int32)), .val (.int x2)] [(.int x2), (.int (2 : Int32)), (.ref da)])) (fun _ k => XS.iload X88.here hx rfl (hb hby d_jdk_52_method_21_code_28) rfl k) ?_
  refine Go.of (T' := T88) (f' := (mkF m 31 #[.val (.ref sa), .val (.int (2 : Int32)), .val (.ref da), .val (.int (2 : Int32)), .val (.int (3 : Int32)), .val (.int (2 : Int32)), .val (.int x2)] [(.int (x2.toInt8.toInt32)), (.int (2 : Int32)), (.ref da)])) (fun _ k => XS.i2b X88.here hx rfl (hb hby d_jdk_52_method_21_code_30) rfl k) ?_
  obtain ⟨cl94, Ar94, qk94, S94, Ng94, H94, G94⟩ := id f88
  obtain ⟨T94, h94, X94, e94, W94, st94⟩ := stB X88 hx hZ e88 Ar94 (j := (2 : Int32)) (inb_of S94 ⟨by decide, by decide⟩) (g := (mkF m 31 #[.val (.ref sa), .val (.int (2 : Int32)), .val (.ref da), .val (.int (2 : Int32)), .val (.int (3 : Int32)), .val (.int (2 : Int32)), .val (.int x2)] [(.int (x2.toInt8.toInt32)), (.int (2 : Int32)), (.ref da)])) rfl rfl (hb hby d_jdk_52_method_21_code_31)
  have W94 : Wr h88 h94 da ((2 : Int32)).toNatClampNeg (.int (x2.toInt8.toInt32)) := Eq.mp (congrArg (fun z => Wr h88 h94 da ((2 : Int32)).toNatClampNeg (Value.int z)) (own_b8 x2)) W94
  have O95 := Old0.wr O89 W94 prem5
  have K95 := Keep.wr K89 W94 (Or.inl (List.mem_of_getElem? (i := 0) rfl))
  have f94 : Arv Z h94 da kd .byte (3 : Int32) [(.int (x0.toInt8.toInt32)), (.int (x1.toInt8.toInt32)), (.int (x2.toInt8.toInt32))] (.int (0 : Int32)) := Arv.set Ar94 qk94 S94 Ng94 H94 G94 (v := (.int (x2.toInt8.toInt32))) (fits_nar_byte _) W94 2 rfl (Nat.le_of_ble_eq_true rfl)
  have N94 := Fr.snoc X94 N88 prem5
  refine Go.of (T' := T94) (f' := (mkF m 32 #[.val (.ref sa), .val (.int (2 : Int32)), .val (.ref da), .val (.int (2 : Int32)), .val (.int (3 : Int32)), .val (.int (2 : Int32)), .val (.int x2)] [])) (fun _ k => st94 _ k) ?_
  refine Go.of (T' := T94) (f' := (mkF m 35 #[.val (.ref sa), .val (.int (3 : Int32)), .val (.ref da), .val (.int (2 : Int32)), .val (.int (3 : Int32)), .val (.int (2 : Int32)), .val (.int x2)] [])) (fun _ k => XS.iinc X94.here hx rfl (hb hby d_jdk_52_method_21_code_32) rfl (l' := #[.val (.ref sa), .val (.int (3 : Int32)), .val (.ref da), .val (.int (2 : Int32)), .val (.int (3 : Int32)), .val (.int (2 : Int32)), .val (.int x2)]) rfl k) ?_
  refine Go.of (T' := T94) (f' := (mkF m 38 #[.val (.ref sa), .val (.int (3 : Int32)), .val (.ref da), .val (.int (3 : Int32)), .val (.int (3 : Int32)), .val (.int (2 : Int32)), .val (.int x2)] [])) (fun _ k => XS.iinc X94.here hx rfl (hb hby d_jdk_52_method_21_code_35) rfl (l' := #[.val (.ref sa), .val (.int (3 : Int32)), .val (.ref da), .val (.int (3 : Int32)), .val (.int (3 : Int32)), .val (.int (2 : Int32)), .val (.int x2)]) rfl k) ?_
  refine Go.of (T' := T94) (f' := (mkF m 41 #[.val (.ref sa), .val (.int (3 : Int32)), .val (.ref da), .val (.int (3 : Int32)), .val (.int (3 : Int32)), .val (.int (3 : Int32)), .val (.int x2)] [])) (fun _ k => XS.iinc X94.here hx rfl (hb hby d_jdk_52_method_21_code_38) rfl (l' := #[.val (.ref sa), .val (.int (3 : Int32)), .val (.ref da), .val (.int (3 : Int32)), .val (.int (3 : Int32)), .val (.int (3 : Int32)), .val (.int x2)]) rfl k) ?_
  refine Go.of (T' := T94) (f' := (mkF m 3 #[.val (.ref sa), .val (.int (3 : Int32)), .val (.ref da), .val (.int (3 : Int32)), .val (.int (3 : Int32)), .val (.int (3 : Int32)), .val (.int x2)] [])) (fun _ k => XS.goto X94.here hx rfl (pc0 := 41) (pc' := 3) rfl (hb hby d_jdk_52_method_21_code_41) (by decide) (by decide) k) ?_
  refine Go.of (T' := T94) (f' := (mkF m 5 #[.val (.ref sa), .val (.int (3 : Int32)), .val (.ref da), .val (.int (3 : Int32)), .val (.int (3 : Int32)), .val (.int (3 : Int32)), .val (.int x2)] [(.int (3 : Int32))])) (fun _ k => XS.iload X94.here hx rfl (hb hby d_jdk_52_method_21_code_3) rfl k) ?_
  refine Go.of (T' := T94) (f' := (mkF m 7 #[.val (.ref sa), .val (.int (3 : Int32)), .val (.ref da), .val (.int (3 : Int32)), .val (.int (3 : Int32)), .val (.int (3 : Int32)), .val (.int x2)] [(.int (3 : Int32)), (.int (3 : Int32))])) (fun _ k => XS.iload X94.here hx rfl (hb hby d_jdk_52_method_21_code_5) rfl k) ?_
  refine Go.of (T' := T94) (f' := (mkF m 44 #[.val (.ref sa), .val (.int (3 : Int32)), .val (.ref da), .val (.int (3 : Int32)), .val (.int (3 : Int32)), .val (.int (3 : Int32)), .val (.int x2)] [])) (fun _ k => XS.icmpYes X94.here hx rfl (pc0 := 7) (pc' := 44) rfl (hb hby d_jdk_52_method_21_code_7) rfl (flt (by decide : ¬ ((3 : Int32) < (3 : Int32)))).2.1 (by decide) (by decide) k) ?_
  refine Go.of (T' := T94) (f' := (mkF m 46 #[.val (.ref sa), .val (.int (3 : Int32)), .val (.ref da), .val (.int (3 : Int32)), .val (.int (3 : Int32)), .val (.int (3 : Int32)), .val (.int x2)] [(.int (3 : Int32))])) (fun _ k => XS.iload X94.here hx rfl (hb hby d_jdk_52_method_21_code_44) rfl k) ?_
  exact Go.retI X94 hx hlk hret (hb hby d_jdk_52_method_21_code_46) (by decide) (by decide) (by rw [e94]; exact ⟨rfl, N94, K95, f94⟩)
theorem ef_rm_comp3_3 (m : MethodId) (sa : Addr) : entryFrame m #[(.ref sa), (.int (0 : Int32)), (.int (3 : Int32))] 6 = mkF m 0 #[.val (.ref sa), .val (.int (0 : Int32)), .val (.int (3 : Int32)), .unset, .unset, .unset] [] := by first | (simp [entryFrame, mkF, argsToLocals, Value.category]; done) | rfl
set_option maxRecDepth 65536 in
set_option maxHeartbeats 40000000 in
theorem rm_comp3_3 {l : Launch} {Z : State} {a0 : Array Value} {s_FLAG : Addr} {s_COMPACT_STRINGS : Int32} (hw : ∀ d ∈ tables_1, d.before a0 Z = true) (G : own_Ctx Z s_FLAG s_COMPACT_STRINGS) (sa : Addr) (ks : ClassId) (x0 : Int32) (x1 : Int32) (x2 : Int32) (h0 : Heap) (O0 : Ext Z.heap h0) (prem0 : ¬ ((255 : Int32) < x0)) (prem1 : ¬ ((255 : Int32) < x1)) (prem2 : ¬ ((255 : Int32) < x2)) (prem3 : Arv Z h0 sa ks .char (3 : Int32) [(.int x0), (.int x1), (.int x2)] (.int (0 : Int32))) :
    Ok l Z (⟨"java/lang/StringUTF16", "compress", "([CII)[B"⟩ : MethodName) jdk_52_method_16_code 6 (some (.array .byte)) ({ frames := 1, cells := 1, slots := 3, locals := 18 } : Room) #[(.ref sa), (.int (0 : Int32)), (.int (3 : Int32))] h0
      (fun v h L => ∃ da : Addr, ∃ kd : ClassId, v = some (.ref da) ∧ (Fr Z.heap.size L) ∧ (Keep h0 h []) ∧ (h0.size ≤ da) ∧ (Arv Z h da kd .byte (3 : Int32) [(.int (x0.toInt8.toInt32)), (.int (x1.toInt8.toInt32)), (.int (x2.toInt8.toInt32))] (.int (0 : Int32))) ∧ (Exa Z h da "[B")) := by
  refine Ok.mk pn_java_lang_StringUTF16_compress___CII__B ?_
  intro p e s m below meth c T0 hx hby hml hown hnm hret hlk hZ e0 X0
  refine Go.cast (ef_rm_comp3_3 m sa) ?_
  obtain ⟨S_FLAG, E_s_FLAG, S_COMPACT_STRINGS, hne_s_COMPACT_STRINGS_0⟩ := id G
  have N0 := Fr.nil Z.heap.size
  have K0 : Keep h0 h0 [] := Keep.refl _ _
  refine Go.of (T' := T0) (f' := (mkF m 1 #[.val (.ref sa), .val (.int (0 : Int32)), .val (.int (3 : Int32)), .unset, .unset, .unset] [(.int (3 : Int32))])) (fun _ k => XS.iloadN X0.here hx rfl (hb hby d_jdk_52_method_16_code_0) rfl k) ?_
  obtain ⟨T97, h97, k97, b97, q97, X97, e97, E97, V97, A97, st97⟩ := newAr X0 hx hZ (hw _ (List.mem_of_getElem? (i := 19) rfl)) e0 (g := (mkF m 1 #[.val (.ref sa), .val (.int (0 : Int32)), .val (.int (3 : Int32)), .unset, .unset, .unset] [(.int (3 : Int32))])) rfl (hb hby d_jdk_52_method_16_code_1) rfl (by decide) (cap := 3) (by decide) (by decide) (by decide) (by decide) (ad := "[B") (by decide)
  have O98 := Old0.ext O0 E97
  have K98 := Keep.ext K0 E97
  have g_b97 : Z.heap.size ≤ b97 := q97 ▸ O0.1
  have z_b97 : h0.size ≤ b97 := q97 ▸ K0.1
  have ne_sa_b97 : sa ≠ b97 := q97 ▸ Nat.ne_of_lt prem3.lt
  have f99 : Arv Z h97 b97 k97 .byte (3 : Int32) [(.int (0 : Int32)), (.int (0 : Int32)), (.int (0 : Int32))] (.int (0 : Int32)) := Arv.pad V97 (pad_rep [] (.int (0 : Int32)) 3)
  refine Go.of (T' := T97) (f' := (mkF m 3 #[.val (.ref sa), .val (.int (0 : Int32)), .val (.int (3 : Int32)), .unset, .unset, .unset] [(.ref b97)])) (fun _ k => st97 _ k) ?_
  refine Go.of (T' := T97) (f' := (mkF m 4 #[.val (.ref sa), .val (.int (0 : Int32)), .val (.int (3 : Int32)), .val (.ref b97), .unset, .unset] [])) (fun _ k => XS.astoreN X97.here hx rfl (hb hby d_jdk_52_method_16_code_3) rfl rfl (l' := #[.val (.ref sa), .val (.int (0 : Int32)), .val (.int (3 : Int32)), .val (.ref b97), .unset, .unset]) rfl k) ?_
  refine Go.of (T' := T97) (f' := (mkF m 5 #[.val (.ref sa), .val (.int (0 : Int32)), .val (.int (3 : Int32)), .val (.ref b97), .unset, .unset] [(.ref sa)])) (fun _ k => XS.aloadN X97.here hx rfl (hb hby d_jdk_52_method_16_code_4) rfl rfl k) ?_
  refine Go.of (T' := T97) (f' := (mkF m 6 #[.val (.ref sa), .val (.int (0 : Int32)), .val (.int (3 : Int32)), .val (.ref b97), .unset, .unset] [(.int (0 : Int32)), (.ref sa)])) (fun _ k => XS.iloadN X97.here hx rfl (hb hby d_jdk_52_method_16_code_5) rfl k) ?_
  refine Go.of (T' := T97) (f' := (mkF m 7 #[.val (.ref sa), .val (.int (0 : Int32)), .val (.int (3 : Int32)), .val (.ref b97), .unset, .unset] [(.ref b97), (.int (0 : Int32)), (.ref sa)])) (fun _ k => XS.aloadN X97.here hx rfl (hb hby d_jdk_52_method_16_code_6) rfl rfl k) ?_
  refine Go.of (T' := T97) (f' := (mkF m 8 #[.val (.ref sa), .val (.int (0 : Int32)), .val (.int (3 : Int32)), .val (.ref b97), .unset, .unset] [(.int (0 : Int32)), (.ref b97), (.int (0 : Int32)), (.ref sa)])) (fun _ k => XS.iconst X97.here hx rfl (hb hby d_jdk_52_method_16_code_7) k) ?_
  refine Go.of (T' := T97) (f' := (mkF m 9 #[.val (.ref sa), .val (.int (0 : Int32)), .val (.int (3 : Int32)), .val (.ref b97), .unset, .unset] [(.int (3 : Int32)), (.int (0 : Int32)), (.ref b97), (.int (0 : Int32)), (.ref sa)])) (fun _ k => XS.iloadN X97.here hx rfl (hb hby d_jdk_52_method_16_code_8) rfl k) ?_
  have f101 : Arv Z h97 sa ks .char (3 : Int32) [(.int x0), (.int x1), (.int x2)] (.int (0 : Int32)) := (Arv.ext prem3 E97)
  obtain ⟨T100, v100, L100, X100, q100, st100⟩ := callSt X97 hx hZ (y := (⟨"java/lang/StringUTF16", "compress", "([CI[BII)I"⟩ : MethodName)) hown (hw _ (List.mem_of_getElem? (i := 20) rfl)) (hw _ (List.mem_of_getElem? (i := 21) rfl)) (hw _ (List.mem_of_getElem? (i := 17) rfl)) (hw _ (List.mem_of_getElem? (i := 22) rfl)) (by decide) (rm_comp5_3 hw G sa b97 ks x0 x1 x2 k97 h97 O98 (prem0) (prem1) (prem2) f101 f99 g_b97 ne_sa_b97) e97 (W := 0) (by decide) (by decide) (by decide) (by decide) (g := (mkF m 9 #[.val (.ref sa), .val (.int (0 : Int32)), .val (.int (3 : Int32)), .val (.ref b97), .unset, .unset] [(.int (3 : Int32)), (.int (0 : Int32)), (.ref b97), (.int (0 : Int32)), (.ref sa)])) rfl (by rw [hml]; rfl) (argsL := [(.ref sa), (.int (0 : Int32)), (.ref b97), (.int (0 : Int32)), (.int (3 : Int32))]) (rest := []) (lenOf pd___CI_BII_I rfl) rfl rfl (by show 2 * 0 + _ ≤ _; exact Nat.le_of_eq rfl) (hb hby d_jdk_52_method_16_code_9)
  obtain ⟨rfl, N100q, K100q, p100_0⟩ := q100
  have N100 := Fr.app N0 N100q
  have O102 := Old0.keep O98 K100q (allS g_b97 all0)
  have K102 := Keep.trans K98 K100q (allS (Or.inr z_b97) all0)
  refine Go.of (T' := T100) (f' := (mkF m 12 #[.val (.ref sa), .val (.int (0 : Int32)), .val (.int (3 : Int32)), .val (.ref b97), .unset, .unset] [(.int (3 : Int32))])) (fun _ k => st100 _ k) ?_
  refine Go.of (T' := T100) (f' := (mkF m 14 #[.val (.ref sa), .val (.int (0 : Int32)), .val (.int (3 : Int32)), .val (.ref b97), .val (.int (3 : Int32)), .unset] [])) (fun _ k => XS.istore X100.here hx rfl (hb hby d_jdk_52_method_16_code_12) rfl (l' := #[.val (.ref sa), .val (.int (0 : Int32)), .val (.int (3 : Int32)), .val (.ref b97), .val (.int (3 : Int32)), .unset]) rfl k) ?_
  refine Go.of (T' := T100) (f' := (mkF m 16 #[.val (.ref sa), .val (.int (0 : Int32)), .val (.int (3 : Int32)), .val (.ref b97), .val (.int (3 : Int32)), .unset] [(.int (3 : Int32))])) (fun _ k => XS.iload X100.here hx rfl (hb hby d_jdk_52_method_16_code_14) rfl k) ?_
  refine Go.of (T' := T100) (f' := (mkF m 17 #[.val (.ref sa), .val (.int (0 : Int32)), .val (.int (3 : Int32)), .val (.ref b97), .val (.int (3 : Int32)), .unset] [(.int (3 : Int32)), (.int (3 : Int32))])) (fun _ k => XS.iloadN X100.here hx rfl (hb hby d_jdk_52_method_16_code_16) rfl k) ?_
  refine Go.of (T' := T100) (f' := (mkF m 57 #[.val (.ref sa), .val (.int (0 : Int32)), .val (.int (3 : Int32)), .val (.ref b97), .val (.int (3 : Int32)), .unset] [])) (fun _ k => XS.icmpYes X100.here hx rfl (pc0 := 17) (pc' := 57) rfl (hb hby d_jdk_52_method_16_code_17) rfl (teq (by decide : (3 : Int32) = (3 : Int32))).1 (by decide) (by decide) k) ?_
  refine Go.of (T' := T100) (f' := (mkF m 58 #[.val (.ref sa), .val (.int (0 : Int32)), .val (.int (3 : Int32)), .val (.ref b97), .val (.int (3 : Int32)), .unset] [(.ref b97)])) (fun _ k => XS.aloadN X100.here hx rfl (hb hby d_jdk_52_method_16_code_57) rfl rfl k) ?_
  have f104 : Exa Z T100.heap b97 "[B" := (Exa.keep A97 K100q)
  exact Go.retA X100 hx hlk hret rfl rfl (hb hby d_jdk_52_method_16_code_58) (by decide) (by decide) ⟨b97, k97, rfl, N100, K102, z_b97, p100_0, f104⟩
theorem ef_rm_cfal_3 (m : MethodId) (da : Addr) : entryFrame m #[(.ref da), (.int (3 : Int32))] 2 = mkF m 0 #[.val (.ref da), .val (.int (3 : Int32))] [] := by first | (simp [entryFrame, mkF, argsToLocals, Value.category]; done) | rfl
set_option maxRecDepth 65536 in
set_option maxHeartbeats 40000000 in
theorem rm_cfal_3 {l : Launch} {Z : State} {a0 : Array Value} {s_FLAG : Addr} {s_COMPACT_STRINGS : Int32} (hw : ∀ d ∈ tables_1, d.before a0 Z = true) (G : own_Ctx Z s_FLAG s_COMPACT_STRINGS) (da : Addr) (kd : ClassId) (vs : List Value) (h0 : Heap) (O0 : Ext Z.heap h0) (prem0 : Arv Z h0 da kd .byte (3 : Int32) vs (.int (0 : Int32))) :
    Ok l Z (⟨"java/lang/StringUTF16", "coderFromArrayLen", "([BI)B"⟩ : MethodName) jdk_52_method_15_code 2 (some .byte) ({ frames := 0, cells := 0, slots := 0, locals := 0 } : Room) #[(.ref da), (.int (3 : Int32))] h0
      (fun v h L => v = some (.int (0 : Int32)) ∧ (h = h0) ∧ (L = [])) := by
  refine Ok.mk pn_java_lang_StringUTF16_coderFromArrayLen___BI_B ?_
  intro p e s m below meth c T0 hx hby hml hown hnm hret hlk hZ e0 X0
  refine Go.cast (ef_rm_cfal_3 m da) ?_
  obtain ⟨S_FLAG, E_s_FLAG, S_COMPACT_STRINGS, hne_s_COMPACT_STRINGS_0⟩ := id G
  have N0 := Fr.nil Z.heap.size
  have K0 : Keep h0 h0 [] := Keep.refl _ _
  refine Go.of (T' := T0) (f' := (mkF m 1 #[.val (.ref da), .val (.int (3 : Int32))] [(.int (3 : Int32))])) (fun _ k => XS.iloadN X0.here hx rfl (hb hby d_jdk_52_method_15_code_0) rfl k) ?_
  refine Go.of (T' := T0) (f' := (mkF m 2 #[.val (.ref da), .val (.int (3 : Int32))] [(.ref da), (.int (3 : Int32))])) (fun _ k => XS.aloadN X0.here hx rfl (hb hby d_jdk_52_method_15_code_1) rfl rfl k) ?_
  obtain ⟨cl105, Ar105, qk105, S105, Ng105, H105, G105⟩ := id prem0
  refine Go.of (T' := T0) (f' := (mkF m 3 #[.val (.ref da), .val (.int (3 : Int32))] [(.int (3 : Int32)), (.int (3 : Int32))])) (fun _ k => X0.arraylength hx (by rw [e0]; exact Ar105.1) (State.isArrayOf_alike hZ.alike Ar105.2.1) (g := (mkF m 2 #[.val (.ref da), .val (.int (3 : Int32))] [(.ref da), (.int (3 : Int32))])) rfl rfl (hb hby d_jdk_52_method_15_code_2) _ (by rw [len_of S105 Ng105]; exact k)) ?_
  refine Go.of (T' := T0) (f' := (mkF m 4 #[.val (.ref da), .val (.int (3 : Int32))] [(.int (0 : Int32))])) (fun _ k => XS.isub X0.here hx rfl (hb hby d_jdk_52_method_15_code_3) rfl k) ?_
  refine Go.of (T' := T0) (f' := (mkF m 6 #[.val (.ref da), .val (.int (3 : Int32))] [(.int (31 : Int32)), (.int (0 : Int32))])) (fun _ k => XS.bipush X0.here hx rfl (hb hby d_jdk_52_method_15_code_4) k) ?_
  refine Go.of (T' := T0) (f' := (mkF m 7 #[.val (.ref da), .val (.int (3 : Int32))] [(.int (0 : Int32))])) (fun _ k => XS.iushr X0.here hx rfl (hb hby d_jdk_52_method_15_code_6) rfl k) ?_
  refine Go.of (T' := T0) (f' := (mkF m 8 #[.val (.ref da), .val (.int (3 : Int32))] [(.int ((0 : Int32).toInt8.toInt32))])) (fun _ k => XS.i2b X0.here hx rfl (hb hby d_jdk_52_method_15_code_7) rfl k) ?_
  exact Go.retB X0 hx hlk hret (by simp) (hb hby d_jdk_52_method_15_code_8) (by decide) (by decide) rfl (by rw [e0]; exact ⟨rfl, rfl, by simp⟩)
theorem ef_rm_str4_3 (m : MethodId) (so : Addr) (sa : Addr) : entryFrame m #[(.ref so), (.ref sa), (.int (0 : Int32)), (.int (3 : Int32)), .null] 6 = mkF m 0 #[.val (.ref so), .val (.ref sa), .val (.int (0 : Int32)), .val (.int (3 : Int32)), .val .null, .unset] [] := by first | (simp [entryFrame, mkF, argsToLocals, Value.category]; done) | rfl
set_option maxRecDepth 65536 in
set_option maxHeartbeats 40000000 in
theorem rm_str4_3 {l : Launch} {Z : State} {a0 : Array Value} {s_FLAG : Addr} {s_COMPACT_STRINGS : Int32} (hw : ∀ d ∈ tables_1, d.before a0 Z = true) (G : own_Ctx Z s_FLAG s_COMPACT_STRINGS) (so : Addr) (sa : Addr) (ks : ClassId) (x0 : Int32) (x1 : Int32) (x2 : Int32) (h0 : Heap) (O0 : Ext Z.heap h0) (prem0 : ¬ ((255 : Int32) < x0)) (prem1 : ¬ ((255 : Int32) < x1)) (prem2 : ¬ ((255 : Int32) < x2)) (prem3 : Exa Z h0 so "java/lang/String") (prem4 : Fld Z h0 so "java/lang/String" "value" "[B" .null) (prem5 : Fld Z h0 so "java/lang/String" "coder" "B" (.int (0 : Int32))) (prem6 : Z.heap.size ≤ so) (prem7 : Arv Z h0 sa ks .char (3 : Int32) [(.int x0), (.int x1), (.int x2)] (.int (0 : Int32))) (prem8 : so ≠ sa) :
    Ok l Z (⟨"java/lang/String", "<init>", "([CIILjava/lang/Void;)V"⟩ : MethodName) jdk_42_method_149_code 6 none ({ frames := 2, cells := 1, slots := 3, locals := 35 } : Room) #[(.ref so), (.ref sa), (.int (0 : Int32)), (.int (3 : Int32)), .null] h0
      (fun v h L => ∃ da : Addr, ∃ kd : ClassId, v = none ∧ (Fr Z.heap.size L) ∧ (Keep h0 h [so]) ∧ (h0.size ≤ da) ∧ (Fld Z h so "java/lang/String" "value" "[B" (.ref da)) ∧ (Fld Z h so "java/lang/String" "coder" "B" (.int (0 : Int32))) ∧ (Arv Z h da kd .byte (3 : Int32) [(.int (x0.toInt8.toInt32)), (.int (x1.toInt8.toInt32)), (.int (x2.toInt8.toInt32))] (.int (0 : Int32))) ∧ (Exa Z h da "[B")) := by
  refine Ok.mk pn_java_lang_String__init____CIILjava_lang_Void__V ?_
  intro p e s m below meth c T0 hx hby hml hown hnm hret hlk hZ e0 X0
  refine Go.cast (ef_rm_str4_3 m so sa) ?_
  obtain ⟨S_FLAG, E_s_FLAG, S_COMPACT_STRINGS, hne_s_COMPACT_STRINGS_0⟩ := id G
  have N0 := Fr.nil Z.heap.size
  have K0 : Keep h0 h0 [so] := Keep.refl _ _
  refine Go.of (T' := T0) (f' := (mkF m 1 #[.val (.ref so), .val (.ref sa), .val (.int (0 : Int32)), .val (.int (3 : Int32)), .val .null, .unset] [(.ref so)])) (fun _ k => XS.aloadN X0.here hx rfl (hb hby d_jdk_42_method_149_code_0) rfl rfl k) ?_
  obtain ⟨T106, X106, e106, st106⟩ := initO X0 hx hZ hown (hw _ (List.mem_of_getElem? (i := 11) rfl)) (hw _ (List.mem_of_getElem? (i := 12) rfl)) (hw _ (List.mem_of_getElem? (i := 13) rfl)) e0 (g := (mkF m 1 #[.val (.ref so), .val (.ref sa), .val (.int (0 : Int32)), .val (.int (3 : Int32)), .val .null, .unset] [(.ref so)])) rfl (by rw [hml]; rfl) rfl (hb hby d_jdk_42_method_149_code_1) (by decide) (W := 0) (by show 2 * 0 + _ ≤ _; exact Nat.le_of_eq rfl) (by decide)
  refine Go.of (T' := T106) (f' := (mkF m 4 #[.val (.ref so), .val (.ref sa), .val (.int (0 : Int32)), .val (.int (3 : Int32)), .val .null, .unset] [])) (fun _ k => st106 _ k) ?_
  refine Go.of (T' := T106) (f' := (mkF m 5 #[.val (.ref so), .val (.ref sa), .val (.int (0 : Int32)), .val (.int (3 : Int32)), .val .null, .unset] [(.int (3 : Int32))])) (fun _ k => XS.iloadN X106.here hx rfl (hb hby d_jdk_42_method_149_code_4) rfl k) ?_
  refine Go.of (T' := T106) (f' := (mkF m 27 #[.val (.ref so), .val (.ref sa), .val (.int (0 : Int32)), .val (.int (3 : Int32)), .val .null, .unset] [])) (fun _ k => XS.ifYes X106.here hx rfl (pc0 := 5) (pc' := 27) rfl (hb hby d_jdk_42_method_149_code_5) rfl ((if0 _ _).trans (feq (by decide : ¬ ((3 : Int32) = (0 : Int32)))).2) (by decide) (by decide) k) ?_
  obtain ⟨T108, X108, e108, st108⟩ := getS2 X106 hx hZ hown (host := "") (Or.inl (hw _ (List.mem_of_getElem? (i := 14) rfl))) Via.refl e106 (Sta.ext O0 S_COMPACT_STRINGS) (g := (mkF m 27 #[.val (.ref so), .val (.ref sa), .val (.int (0 : Int32)), .val (.int (3 : Int32)), .val .null, .unset] [])) rfl (hb hby d_jdk_42_method_149_code_27)
  refine Go.of (T' := T108) (f' := (mkF m 30 #[.val (.ref so), .val (.ref sa), .val (.int (0 : Int32)), .val (.int (3 : Int32)), .val .null, .unset] [(.int s_COMPACT_STRINGS)])) (fun _ k => st108 _ k) ?_
  have hc109 : ¬ (s_COMPACT_STRINGS = (0 : Int32)) := hne_s_COMPACT_STRINGS_0
  refine Go.of (T' := T108) (f' := (mkF m 33 #[.val (.ref so), .val (.ref sa), .val (.int (0 : Int32)), .val (.int (3 : Int32)), .val .null, .unset] [])) (fun _ k => XS.ifNo X108.here hx rfl (hb hby d_jdk_42_method_149_code_30) rfl ((if0 _ _).trans (feq hc109).1) k) ?_
  refine Go.of (T' := T108) (f' := (mkF m 34 #[.val (.ref so), .val (.ref sa), .val (.int (0 : Int32)), .val (.int (3 : Int32)), .val .null, .unset] [(.ref sa)])) (fun _ k => XS.aloadN X108.here hx rfl (hb hby d_jdk_42_method_149_code_33) rfl rfl k) ?_
  refine Go.of (T' := T108) (f' := (mkF m 35 #[.val (.ref so), .val (.ref sa), .val (.int (0 : Int32)), .val (.int (3 : Int32)), .val .null, .unset] [(.int (0 : Int32)), (.ref sa)])) (fun _ k => XS.iloadN X108.here hx rfl (hb hby d_jdk_42_method_149_code_34) rfl k) ?_
  refine Go.of (T' := T108) (f' := (mkF m 36 #[.val (.ref so), .val (.ref sa), .val (.int (0 : Int32)), .val (.int (3 : Int32)), .val .null, .unset] [(.int (3 : Int32)), (.int (0 : Int32)), (.ref sa)])) (fun _ k => XS.iloadN X108.here hx rfl (hb hby d_jdk_42_method_149_code_35) rfl k) ?_
  obtain ⟨T110, v110, L110, X110, q110, st110⟩ := callSt X108 hx hZ (y := (⟨"java/lang/StringUTF16", "compress", "([CII)[B"⟩ : MethodName)) hown (hw _ (List.mem_of_getElem? (i := 15) rfl)) (hw _ (List.mem_of_getElem? (i := 16) rfl)) (hw _ (List.mem_of_getElem? (i := 17) rfl)) (hw _ (List.mem_of_getElem? (i := 18) rfl)) (by decide) (rm_comp3_3 hw G sa ks x0 x1 x2 h0 O0 (prem0) (prem1) (prem2) prem7) e108 (W := 0) (by decide) (by decide) (by decide) (by decide) (g := (mkF m 36 #[.val (.ref so), .val (.ref sa), .val (.int (0 : Int32)), .val (.int (3 : Int32)), .val .null, .unset] [(.int (3 : Int32)), (.int (0 : Int32)), (.ref sa)])) rfl (by rw [hml]; rfl) (argsL := [(.ref sa), (.int (0 : Int32)), (.int (3 : Int32))]) (rest := []) (lenOf pd___CII__B rfl) rfl rfl (by show 2 * 0 + _ ≤ _; exact Nat.le_of_eq rfl) (hb hby d_jdk_42_method_149_code_36)
  obtain ⟨da_110, kd_110, rfl, N110q, K110q, p110_0, p110_1, p110_2⟩ := q110
  have N110 := Fr.app N0 N110q
  have O111 := Old0.keep O0 K110q all0
  have K111 := Keep.trans K0 K110q all0
  have z_da_110 : h0.size ≤ da_110 := Nat.le_trans K0.1 p110_0
  have g_da_110 : Z.heap.size ≤ da_110 := Nat.le_trans O0.1 p110_0
  have ne_so_da_110 : so ≠ da_110 := Nat.ne_of_lt (Nat.lt_of_lt_of_le prem3.lt p110_0)
  have ne_sa_da_110 : sa ≠ da_110 := Nat.ne_of_lt (Nat.lt_of_lt_of_le prem7.lt p110_0)
  refine Go.of (T' := T110) (f' := (mkF m 39 #[.val (.ref so), .val (.ref sa), .val (.int (0 : Int32)), .val (.int (3 : Int32)), .val .null, .unset] [(.ref da_110)])) (fun _ k => st110 _ k) ?_
  refine Go.of (T' := T110) (f' := (mkF m 41 #[.val (.ref so), .val (.ref sa), .val (.int (0 : Int32)), .val (.int (3 : Int32)), .val .null, .val (.ref da_110)] [])) (fun _ k => XS.astore X110.here hx rfl (hb hby d_jdk_42_method_149_code_39) rfl rfl (l' := #[.val (.ref so), .val (.ref sa), .val (.int (0 : Int32)), .val (.int (3 : Int32)), .val .null, .val (.ref da_110)]) rfl k) ?_
  refine Go.of (T' := T110) (f' := (mkF m 42 #[.val (.ref so), .val (.ref sa), .val (.int (0 : Int32)), .val (.int (3 : Int32)), .val .null, .val (.ref da_110)] [(.ref so)])) (fun _ k => XS.aloadN X110.here hx rfl (hb hby d_jdk_42_method_149_code_41) rfl rfl k) ?_
  refine Go.of (T' := T110) (f' := (mkF m 44 #[.val (.ref so), .val (.ref sa), .val (.int (0 : Int32)), .val (.int (3 : Int32)), .val .null, .val (.ref da_110)] [(.ref da_110), (.ref so)])) (fun _ k => XS.aload X110.here hx rfl (hb hby d_jdk_42_method_149_code_42) rfl rfl k) ?_
  refine Go.of (T' := T110) (f' := (mkF m 45 #[.val (.ref so), .val (.ref sa), .val (.int (0 : Int32)), .val (.int (3 : Int32)), .val .null, .val (.ref da_110)] [(.int (3 : Int32)), (.ref da_110), (.ref so)])) (fun _ k => XS.iloadN X110.here hx rfl (hb hby d_jdk_42_method_149_code_44) rfl k) ?_
  obtain ⟨T112, v112, L112, X112, q112, st112⟩ := callSt X110 hx hZ (y := (⟨"java/lang/StringUTF16", "coderFromArrayLen", "([BI)B"⟩ : MethodName)) hown (hw _ (List.mem_of_getElem? (i := 23) rfl)) (hw _ (List.mem_of_getElem? (i := 24) rfl)) (hw _ (List.mem_of_getElem? (i := 17) rfl)) (hw _ (List.mem_of_getElem? (i := 25) rfl)) (by decide) (rm_cfal_3 hw G da_110 kd_110 ([(.int (x0.toInt8.toInt32)), (.int (x1.toInt8.toInt32)), (.int (x2.toInt8.toInt32))]) T110.heap O111 p110_1) rfl (W := 1) (by decide) (by decide) (by decide) (by decide) (g := (mkF m 45 #[.val (.ref so), .val (.ref sa), .val (.int (0 : Int32)), .val (.int (3 : Int32)), .val .null, .val (.ref da_110)] [(.int (3 : Int32)), (.ref da_110), (.ref so)])) rfl (by rw [hml]; rfl) (argsL := [(.ref da_110), (.int (3 : Int32))]) (rest := [(.ref so)]) (lenOf pd___BI_B rfl) rfl rfl (by show 2 * 0 + _ ≤ _; exact Nat.le_of_eq rfl) (hb hby d_jdk_42_method_149_code_45)
  obtain ⟨rfl, e112, rfl⟩ := q112
  have N112 := Fr.app N110 (Fr.nil _)
  refine Go.of (T' := T112) (f' := (mkF m 48 #[.val (.ref so), .val (.ref sa), .val (.int (0 : Int32)), .val (.int (3 : Int32)), .val .null, .val (.ref da_110)] [(.int (0 : Int32)), (.ref so)])) (fun _ k => st112 _ k) ?_
  have f114 : Exa Z T110.heap so "java/lang/String" := (Exa.keep prem3 K110q)
  have f115 : Fld Z T110.heap so "java/lang/String" "coder" "B" (.int (0 : Int32)) := (Fld.keep prem5 K110q nin0)
  obtain ⟨T113, h113, X113, e113, W113, st113⟩ := putFN X112 hx hZ hown (hw _ (List.mem_of_getElem? (i := 26) rfl)) Via.refl e112 f115 f114 (Or.inr ⟨(hw _ (List.mem_of_getElem? (i := 27) rfl)), rfl, hnm⟩) (hw _ (List.mem_of_getElem? (i := 2) rfl)) (ty := .byte) (v' := (.int (0 : Int32))) (by decide) rfl rfl (g := (mkF m 48 #[.val (.ref so), .val (.ref sa), .val (.int (0 : Int32)), .val (.int (3 : Int32)), .val .null, .val (.ref da_110)] [(.int (0 : Int32)), (.ref so)])) rfl rfl (hb hby d_jdk_42_method_149_code_48)
  have O116 := Old0.wr O111 W113 prem6
  have K116 := Keep.wr K111 W113 (Or.inl (List.mem_of_getElem? (i := 0) rfl))
  have N113 := Fr.snoc X113 N112 prem6
  have f113 : Fld Z h113 so "java/lang/String" "coder" "B" (.int (0 : Int32)) := Fld.same W113 f115
  refine Go.of (T' := T113) (f' := (mkF m 51 #[.val (.ref so), .val (.ref sa), .val (.int (0 : Int32)), .val (.int (3 : Int32)), .val .null, .val (.ref da_110)] [])) (fun _ k => st113 _ k) ?_
  refine Go.of (T' := T113) (f' := (mkF m 52 #[.val (.ref so), .val (.ref sa), .val (.int (0 : Int32)), .val (.int (3 : Int32)), .val .null, .val (.ref da_110)] [(.ref so)])) (fun _ k => XS.aloadN X113.here hx rfl (hb hby d_jdk_42_method_149_code_51) rfl rfl k) ?_
  refine Go.of (T' := T113) (f' := (mkF m 54 #[.val (.ref so), .val (.ref sa), .val (.int (0 : Int32)), .val (.int (3 : Int32)), .val .null, .val (.ref da_110)] [(.ref da_110), (.ref so)])) (fun _ k => XS.aload X113.here hx rfl (hb hby d_jdk_42_method_149_code_52) rfl rfl k) ?_
  have f118 : Exa Z h113 so "java/lang/String" := (Exa.wr W113 f114)
  have f119 : Fld Z h113 so "java/lang/String" "value" "[B" .null := (Fld.other W113 (Fld.keep prem4 K110q nin0) (Or.inr (slot_ne (Or.inr (hw _ (List.mem_of_getElem? (i := 29) rfl))) (Or.inr (hw _ (List.mem_of_getElem? (i := 27) rfl))) (by decide) (t := (.array .byte)) (t' := .byte) (by decide) (by decide))))
  obtain ⟨T117, h117, X117, e117, W117, st117⟩ := putF X113 hx hZ hown (host := "") (Or.inl (hw _ (List.mem_of_getElem? (i := 28) rfl))) Via.refl e113 f119 f118 (Or.inr ⟨(hw _ (List.mem_of_getElem? (i := 29) rfl)), rfl, hnm⟩) (hw _ (List.mem_of_getElem? (i := 2) rfl)) (ty := (.array .byte)) (by decide) rfl rfl (g := (mkF m 54 #[.val (.ref so), .val (.ref sa), .val (.int (0 : Int32)), .val (.int (3 : Int32)), .val .null, .val (.ref da_110)] [(.ref da_110), (.ref so)])) rfl rfl (hb hby d_jdk_42_method_149_code_54)
  have O120 := Old0.wr O116 W117 prem6
  have K120 := Keep.wr K116 W117 (Or.inl (List.mem_of_getElem? (i := 0) rfl))
  have N117 := Fr.snoc X117 N113 prem6
  have f117 : Fld Z h117 so "java/lang/String" "value" "[B" (.ref da_110) := Fld.same W117 f119
  refine Go.of (T' := T117) (f' := (mkF m 57 #[.val (.ref so), .val (.ref sa), .val (.int (0 : Int32)), .val (.int (3 : Int32)), .val .null, .val (.ref da_110)] [])) (fun _ k => st117 _ k) ?_
  have f121 : Fld Z h117 so "java/lang/String" "coder" "B" (.int (0 : Int32)) := (Fld.other W117 f113 (Or.inr (slot_ne (Or.inr (hw _ (List.mem_of_getElem? (i := 27) rfl))) (Or.inr (hw _ (List.mem_of_getElem? (i := 29) rfl))) (by decide) (t := .byte) (t' := (.array .byte)) (by decide) (by decide))))
  have f122 : Arv Z h117 da_110 kd_110 .byte (3 : Int32) [(.int (x0.toInt8.toInt32)), (.int (x1.toInt8.toInt32)), (.int (x2.toInt8.toInt32))] (.int (0 : Int32)) := (Arv.other (Arv.other p110_1 W113 (Ne.symm ne_so_da_110)) W117 (Ne.symm ne_so_da_110))
  have f123 : Exa Z h117 da_110 "[B" := (Exa.wr W117 (Exa.wr W113 p110_2))
  exact Go.retV X117 hx hlk hret (hb hby d_jdk_42_method_149_code_57) (by decide) (by decide) (by rw [e117]; exact ⟨da_110, kd_110, rfl, N117, K120, z_da_110, f117, f121, f122, f123⟩)
theorem ef_rm_str_3 (m : MethodId) (so : Addr) (sa : Addr) : entryFrame m #[(.ref so), (.ref sa)] 2 = mkF m 0 #[.val (.ref so), .val (.ref sa)] [] := by first | (simp [entryFrame, mkF, argsToLocals, Value.category]; done) | rfl
set_option maxRecDepth 65536 in
set_option maxHeartbeats 40000000 in
theorem rm_str_3 {l : Launch} {Z : State} {a0 : Array Value} {s_FLAG : Addr} {s_COMPACT_STRINGS : Int32} (hw : ∀ d ∈ tables_1, d.before a0 Z = true) (G : own_Ctx Z s_FLAG s_COMPACT_STRINGS) (so : Addr) (sa : Addr) (ks : ClassId) (x0 : Int32) (x1 : Int32) (x2 : Int32) (h0 : Heap) (O0 : Ext Z.heap h0) (prem0 : ¬ ((255 : Int32) < x0)) (prem1 : ¬ ((255 : Int32) < x1)) (prem2 : ¬ ((255 : Int32) < x2)) (prem3 : Exa Z h0 so "java/lang/String") (prem4 : Fld Z h0 so "java/lang/String" "value" "[B" .null) (prem5 : Fld Z h0 so "java/lang/String" "coder" "B" (.int (0 : Int32))) (prem6 : Z.heap.size ≤ so) (prem7 : Arv Z h0 sa ks .char (3 : Int32) [(.int x0), (.int x1), (.int x2)] (.int (0 : Int32))) (prem8 : so ≠ sa) :
    Ok l Z (⟨"java/lang/String", "<init>", "([C)V"⟩ : MethodName) jdk_42_method_3_code 2 none ({ frames := 3, cells := 1, slots := 3, locals := 52 } : Room) #[(.ref so), (.ref sa)] h0
      (fun v h L => ∃ da : Addr, ∃ kd : ClassId, v = none ∧ (Fr Z.heap.size L) ∧ (Keep h0 h [so]) ∧ (h0.size ≤ da) ∧ (Fld Z h so "java/lang/String" "value" "[B" (.ref da)) ∧ (Fld Z h so "java/lang/String" "coder" "B" (.int (0 : Int32))) ∧ (Arv Z h da kd .byte (3 : Int32) [(.int (x0.toInt8.toInt32)), (.int (x1.toInt8.toInt32)), (.int (x2.toInt8.toInt32))] (.int (0 : Int32))) ∧ (Exa Z h da "[B")) := by
  refine Ok.mk pn_java_lang_String__init____C_V ?_
  intro p e s m below meth c T0 hx hby hml hown hnm hret hlk hZ e0 X0
  refine Go.cast (ef_rm_str_3 m so sa) ?_
  obtain ⟨S_FLAG, E_s_FLAG, S_COMPACT_STRINGS, hne_s_COMPACT_STRINGS_0⟩ := id G
  have N0 := Fr.nil Z.heap.size
  have K0 : Keep h0 h0 [so] := Keep.refl _ _
  refine Go.of (T' := T0) (f' := (mkF m 1 #[.val (.ref so), .val (.ref sa)] [(.ref so)])) (fun _ k => XS.aloadN X0.here hx rfl (hb hby d_jdk_42_method_3_code_0) rfl rfl k) ?_
  refine Go.of (T' := T0) (f' := (mkF m 2 #[.val (.ref so), .val (.ref sa)] [(.ref sa), (.ref so)])) (fun _ k => XS.aloadN X0.here hx rfl (hb hby d_jdk_42_method_3_code_1) rfl rfl k) ?_
  refine Go.of (T' := T0) (f' := (mkF m 3 #[.val (.ref so), .val (.ref sa)] [(.int (0 : Int32)), (.ref sa), (.ref so)])) (fun _ k => XS.iconst X0.here hx rfl (hb hby d_jdk_42_method_3_code_2) k) ?_
  refine Go.of (T' := T0) (f' := (mkF m 4 #[.val (.ref so), .val (.ref sa)] [(.ref sa), (.int (0 : Int32)), (.ref sa), (.ref so)])) (fun _ k => XS.aloadN X0.here hx rfl (hb hby d_jdk_42_method_3_code_3) rfl rfl k) ?_
  obtain ⟨cl124, Ar124, qk124, S124, Ng124, H124, G124⟩ := id prem7
  refine Go.of (T' := T0) (f' := (mkF m 5 #[.val (.ref so), .val (.ref sa)] [(.int (3 : Int32)), (.int (0 : Int32)), (.ref sa), (.ref so)])) (fun _ k => X0.arraylength hx (by rw [e0]; exact Ar124.1) (State.isArrayOf_alike hZ.alike Ar124.2.1) (g := (mkF m 4 #[.val (.ref so), .val (.ref sa)] [(.ref sa), (.int (0 : Int32)), (.ref sa), (.ref so)])) rfl rfl (hb hby d_jdk_42_method_3_code_4) _ (by rw [len_of S124 Ng124]; exact k)) ?_
  refine Go.of (T' := T0) (f' := (mkF m 6 #[.val (.ref so), .val (.ref sa)] [.null, (.int (3 : Int32)), (.int (0 : Int32)), (.ref sa), (.ref so)])) (fun _ k => XS.aconstNull X0.here hx rfl (hb hby d_jdk_42_method_3_code_5) k) ?_
  obtain ⟨T125, v125, L125, X125, q125, st125⟩ := callNew X0 hx hZ (y := (⟨"java/lang/String", "<init>", "([CIILjava/lang/Void;)V"⟩ : MethodName)) rfl hown (hw _ (List.mem_of_getElem? (i := 7) rfl)) (hw _ (List.mem_of_getElem? (i := 8) rfl)) (hw _ (List.mem_of_getElem? (i := 3) rfl)) (hw _ (List.mem_of_getElem? (i := 10) rfl)) (by decide) (rm_str4_3 hw G so sa ks x0 x1 x2 h0 O0 (prem0) (prem1) (prem2) prem3 prem4 prem5 prem6 prem7 prem8) e0 (W := 0) (by decide) (by decide) (by decide) (by decide) (g := (mkF m 6 #[.val (.ref so), .val (.ref sa)] [.null, (.int (3 : Int32)), (.int (0 : Int32)), (.ref sa), (.ref so)])) rfl (by rw [hml]; rfl) (a := so) (argsL := [(.ref sa), (.int (0 : Int32)), (.int (3 : Int32)), .null]) (rest := []) (lenOf pd___CIILjava_lang_Void__V rfl) rfl rfl (by show 2 * 0 + _ ≤ _; exact Nat.le_of_eq rfl) (hb hby d_jdk_42_method_3_code_6)
  obtain ⟨da_125, kd_125, rfl, N125q, K125q, p125_0, p125_1, p125_2, p125_3, p125_4⟩ := q125
  have N125 := Fr.app N0 N125q
  have O126 := Old0.keep O0 K125q (allS prem6 all0)
  have K126 := Keep.trans K0 K125q (allS (Or.inl (List.mem_of_getElem? (i := 0) rfl)) all0)
  have z_da_125 : h0.size ≤ da_125 := Nat.le_trans K0.1 p125_0
  have g_da_125 : Z.heap.size ≤ da_125 := Nat.le_trans O0.1 p125_0
  have ne_so_da_125 : so ≠ da_125 := Nat.ne_of_lt (Nat.lt_of_lt_of_le prem3.lt p125_0)
  have ne_sa_da_125 : sa ≠ da_125 := Nat.ne_of_lt (Nat.lt_of_lt_of_le prem7.lt p125_0)
  refine Go.of (T' := T125) (f' := (mkF m 9 #[.val (.ref so), .val (.ref sa)] [])) (fun _ k => st125 _ k) ?_
  exact Go.retV X125 hx hlk hret (hb hby d_jdk_42_method_3_code_9) (by decide) (by decide) ⟨da_125, kd_125, rfl, N125, K126, z_da_125, p125_1, p125_2, p125_3, p125_4⟩
theorem d_jdk_42_method_149_code_8 : decode jdk_42_method_149_code 8 = .ok (.aload_n 0, 1) := by decide +kernel
theorem d_jdk_42_method_149_code_9 : decode jdk_42_method_149_code 9 = .ok (.ldc 7, 2) := by decide +kernel
theorem d_jdk_42_method_149_code_11 : decode jdk_42_method_149_code 11 = .ok (.getfield 9, 3) := by decide +kernel
theorem d_jdk_42_method_149_code_14 : decode jdk_42_method_149_code 14 = .ok (.putfield 9, 3) := by decide +kernel
theorem d_jdk_42_method_149_code_17 : decode jdk_42_method_149_code 17 = .ok (.aload_n 0, 1) := by decide +kernel
theorem d_jdk_42_method_149_code_18 : decode jdk_42_method_149_code 18 = .ok (.ldc 7, 2) := by decide +kernel
theorem d_jdk_42_method_149_code_20 : decode jdk_42_method_149_code 20 = .ok (.getfield 15, 3) := by decide +kernel
theorem d_jdk_42_method_149_code_23 : decode jdk_42_method_149_code 23 = .ok (.putfield 15, 3) := by decide +kernel
theorem d_jdk_42_method_149_code_26 : decode jdk_42_method_149_code 26 = .ok (.return_, 1) := by decide +kernel
theorem ef_rm_str4_0 (m : MethodId) (so : Addr) (sa : Addr) : entryFrame m #[(.ref so), (.ref sa), (.int (0 : Int32)), (.int (0 : Int32)), .null] 6 = mkF m 0 #[.val (.ref so), .val (.ref sa), .val (.int (0 : Int32)), .val (.int (0 : Int32)), .val .null, .unset] [] := by first | (simp [entryFrame, mkF, argsToLocals, Value.category]; done) | rfl
set_option maxRecDepth 65536 in
set_option maxHeartbeats 40000000 in
theorem rm_str4_0 {l : Launch} {Z : State} {a0 : Array Value} {s_FLAG : Addr} {s_COMPACT_STRINGS : Int32} (hw : ∀ d ∈ tables_1, d.before a0 Z = true) (G : own_Ctx Z s_FLAG s_COMPACT_STRINGS) (so : Addr) (sa : Addr)  (h0 : Heap) (O0 : Ext Z.heap h0) (prem0 : Exa Z h0 so "java/lang/String") (prem1 : Fld Z h0 so "java/lang/String" "value" "[B" .null) (prem2 : Fld Z h0 so "java/lang/String" "coder" "B" (.int (0 : Int32))) (prem3 : Z.heap.size ≤ so) :
    OkS l Z own_EL (⟨"java/lang/String", "<init>", "([CIILjava/lang/Void;)V"⟩ : MethodName) jdk_42_method_149_code 6 none ({ frames := 1, cells := 4, slots := 8, locals := 12 } : Room) #[(.ref so), (.ref sa), (.int (0 : Int32)), (.int (0 : Int32)), .null] h0
      (fun v h L => ∃ da : Addr, ∃ kd : ClassId, v = none ∧ (Fr Z.heap.size L) ∧ (Keep h0 h [so]) ∧ (Fld Z h so "java/lang/String" "value" "[B" (.ref da)) ∧ (Fld Z h so "java/lang/String" "coder" "B" (.int (0 : Int32))) ∧ (Arv Z h da kd .byte (0 : Int32) [] (.int (0 : Int32)))) := by
  refine OkS.mk pn_java_lang_String__init____CIILjava_lang_Void__V ?_
  intro p e s m below meth c T0 hx hby hml hown hnm hret hlk hZ e0 C0 hS X0
  have hk := Nat.zero_le h0.size
  have hEL := own_EW hw
  refine GoS.cast (ef_rm_str4_0 m so sa) ?_
  obtain ⟨S_FLAG, E_s_FLAG, S_COMPACT_STRINGS, hne_s_COMPACT_STRINGS_0⟩ := id G
  have N0 := Fr.nil Z.heap.size
  have K0 : Keep h0 h0 [so] := Keep.refl _ _
  refine GoS.of (T' := T0) (f' := (mkF m 1 #[.val (.ref so), .val (.ref sa), .val (.int (0 : Int32)), .val (.int (0 : Int32)), .val .null, .unset] [(.ref so)])) (fun _ k => XS.aloadN X0.here hx rfl (hb hby d_jdk_42_method_149_code_0) rfl rfl k) ?_
  obtain ⟨T127, X127, e127, st127⟩ := initO X0 hx hZ hown (hw _ (List.mem_of_getElem? (i := 11) rfl)) (hw _ (List.mem_of_getElem? (i := 12) rfl)) (hw _ (List.mem_of_getElem? (i := 13) rfl)) e0 (g := (mkF m 1 #[.val (.ref so), .val (.ref sa), .val (.int (0 : Int32)), .val (.int (0 : Int32)), .val .null, .unset] [(.ref so)])) rfl (by rw [hml]; rfl) rfl (hb hby d_jdk_42_method_149_code_1) (by decide) (W := 0) (by show 2 * 0 + _ ≤ _; exact Nat.le_of_eq rfl) (by decide)
  refine GoS.of (T' := T127) (f' := (mkF m 4 #[.val (.ref so), .val (.ref sa), .val (.int (0 : Int32)), .val (.int (0 : Int32)), .val .null, .unset] [])) (fun _ k => st127 _ k) ?_
  refine GoS.of (T' := T127) (f' := (mkF m 5 #[.val (.ref so), .val (.ref sa), .val (.int (0 : Int32)), .val (.int (0 : Int32)), .val .null, .unset] [(.int (0 : Int32))])) (fun _ k => XS.iloadN X127.here hx rfl (hb hby d_jdk_42_method_149_code_4) rfl k) ?_
  refine GoS.of (T' := T127) (f' := (mkF m 8 #[.val (.ref so), .val (.ref sa), .val (.int (0 : Int32)), .val (.int (0 : Int32)), .val .null, .unset] [])) (fun _ k => XS.ifNo X127.here hx rfl (hb hby d_jdk_42_method_149_code_5) rfl ((if0 _ _).trans (teq (by decide : (0 : Int32) = (0 : Int32))).2) k) ?_
  refine GoS.of (T' := T127) (f' := (mkF m 9 #[.val (.ref so), .val (.ref sa), .val (.int (0 : Int32)), .val (.int (0 : Int32)), .val .null, .unset] [(.ref so)])) (fun _ k => XS.aloadN X127.here hx rfl (hb hby d_jdk_42_method_149_code_8) rfl rfl k) ?_
  have sf130 : Safe Z own_EL s.vm h0 so := own_safeNull hZ.alike prem0 prem1
  have sp129_so : Safe Z own_EL s.vm h0 so := sf130
  obtain ⟨c129, T129, h129, k1129, v129, kc129, X129, e129, E129, hS, hk129, hZ, hown, A129, Fc129, Fv129, V129, -, -, Cq129, -, sn129, st129⟩ := ldcCH X127 hx hZ hown (hw _ (List.mem_of_getElem? (i := 68) rfl)) (own_wS hw) e127 hS hk hEL (by decide) C0.1 (vs := []) (z := (0 : Int32)) ⟨by decide +kernel, by decide +kernel⟩ (by decide) rfl (g := (mkF m 9 #[.val (.ref so), .val (.ref sa), .val (.int (0 : Int32)), .val (.int (0 : Int32)), .val .null, .unset] [(.ref so)])) rfl (hb hby d_jdk_42_method_149_code_9) (n := 0) (by decide +kernel) (by decide) (by decide) (by decide)
  have O129 := Old0.ext O0 E129
  have K129 := Keep.ext K0 E129
  have C129 := CHr.trans C0 Cq129
  have hk := hk129
  have sf129_so : Safe Z own_EL T129.vm h129 so := CHr.safe Cq129 prem0.lt sp129_so
  have ne_so_c129 : so ≠ c129 := (sn129 so sf129_so).1
  have ne_so_v129 : so ≠ v129 := (sn129 so sf129_so).2
  refine GoS.of (T' := T129) (f' := (mkF m 11 #[.val (.ref so), .val (.ref sa), .val (.int (0 : Int32)), .val (.int (0 : Int32)), .val .null, .unset] [(.ref c129), (.ref so)])) (fun _ k => st129 _ k) ?_
  obtain ⟨T131, X131, e131, st131⟩ := getF X129 hx hZ hown (host := "") (Or.inl (hw _ (List.mem_of_getElem? (i := 28) rfl))) Via.refl e129 Fv129 (g := (mkF m 11 #[.val (.ref so), .val (.ref sa), .val (.int (0 : Int32)), .val (.int (0 : Int32)), .val .null, .unset] [(.ref c129), (.ref so)])) rfl rfl (hb hby d_jdk_42_method_149_code_11)
  refine GoS.of (T' := T131) (f' := (mkF m 14 #[.val (.ref so), .val (.ref sa), .val (.int (0 : Int32)), .val (.int (0 : Int32)), .val .null, .unset] [(.ref v129), (.ref so)])) (fun _ k => st131 _ k) ?_
  have f133 : Exa Z h129 so "java/lang/String" := (Exa.ext E129 prem0)
  have f134 : Fld Z h129 so "java/lang/String" "value" "[B" .null := (Fld.ext E129 prem1)
  obtain ⟨T132, h132, X132, e132, W132, st132⟩ := putF X131 hx hZ hown (host := "") (Or.inl (hw _ (List.mem_of_getElem? (i := 28) rfl))) Via.refl e131 f134 f133 (Or.inr ⟨(hw _ (List.mem_of_getElem? (i := 29) rfl)), rfl, hnm⟩) (hw _ (List.mem_of_getElem? (i := 2) rfl)) (ty := (.array .byte)) (by decide) rfl rfl (g := (mkF m 14 #[.val (.ref so), .val (.ref sa), .val (.int (0 : Int32)), .val (.int (0 : Int32)), .val .null, .unset] [(.ref v129), (.ref so)])) rfl rfl (hb hby d_jdk_42_method_149_code_14)
  have O136 := Old0.wr O129 W132 prem3
  have K136 := Keep.wr K129 W132 (Or.inl (List.mem_of_getElem? (i := 0) rfl))
  have C135 := CHr.trans C129 (CHr.wr W132 sf129_so C129.1)
  have hk := Nat.le_trans hk (Keep.of_wr W132).1
  have N132 := Fr.snoc X132 N0 prem3
  have f132 : Fld Z h132 so "java/lang/String" "value" "[B" (.ref v129) := Fld.same W132 f134
  refine GoS.of (T' := T132) (f' := (mkF m 17 #[.val (.ref so), .val (.ref sa), .val (.int (0 : Int32)), .val (.int (0 : Int32)), .val .null, .unset] [])) (fun _ k => st132 _ k) ?_
  refine GoS.of (T' := T132) (f' := (mkF m 18 #[.val (.ref so), .val (.ref sa), .val (.int (0 : Int32)), .val (.int (0 : Int32)), .val .null, .unset] [(.ref so)])) (fun _ k => XS.aloadN X132.here hx rfl (hb hby d_jdk_42_method_149_code_17) rfl rfl k) ?_
  have sf138 : Safe Z own_EL T129.vm h132 so := (Safe.wr W132 sf129_so C129.1 sf129_so)
  have f139 : Exa Z h132 so "java/lang/String" := (Exa.wr W132 f133)
  have sp137_so : Safe Z own_EL T129.vm h132 so := sf138
  obtain ⟨c137, T137, h137, k1137, v137, kc137, X137, e137, E137, hS, hk137, hZ, hown, A137, Fc137, Fv137, V137, -, -, Cq137, -, sn137, st137⟩ := ldcCH X132 hx hZ hown (hw _ (List.mem_of_getElem? (i := 68) rfl)) (own_wS hw) e132 hS hk hEL (by decide) C135.1 (vs := []) (z := (0 : Int32)) ⟨by decide +kernel, by decide +kernel⟩ (by decide) rfl (g := (mkF m 18 #[.val (.ref so), .val (.ref sa), .val (.int (0 : Int32)), .val (.int (0 : Int32)), .val .null, .unset] [(.ref so)])) rfl (hb hby d_jdk_42_method_149_code_18) (n := 0) (by decide +kernel) (by decide) (by decide) (by decide)
  have O137 := Old0.ext O136 E137
  have K137 := Keep.ext K136 E137
  have C137 := CHr.trans C135 Cq137
  have hk := hk137
  have sf137_so : Safe Z own_EL T137.vm h137 so := CHr.safe Cq137 f139.lt sp137_so
  have ne_so_c137 : so ≠ c137 := (sn137 so sf137_so).1
  have ne_so_v137 : so ≠ v137 := (sn137 so sf137_so).2
  refine GoS.of (T' := T137) (f' := (mkF m 20 #[.val (.ref so), .val (.ref sa), .val (.int (0 : Int32)), .val (.int (0 : Int32)), .val .null, .unset] [(.ref c137), (.ref so)])) (fun _ k => st137 _ k) ?_
  obtain ⟨T140, X140, e140, st140⟩ := getF X137 hx hZ hown (host := "") (Or.inl (hw _ (List.mem_of_getElem? (i := 26) rfl))) Via.refl e137 Fc137 (g := (mkF m 20 #[.val (.ref so), .val (.ref sa), .val (.int (0 : Int32)), .val (.int (0 : Int32)), .val .null, .unset] [(.ref c137), (.ref so)])) rfl rfl (hb hby d_jdk_42_method_149_code_20)
  refine GoS.of (T' := T140) (f' := (mkF m 23 #[.val (.ref so), .val (.ref sa), .val (.int (0 : Int32)), .val (.int (0 : Int32)), .val .null, .unset] [(.int (0 : Int32)), (.ref so)])) (fun _ k => st140 _ k) ?_
  have f142 : Exa Z h137 so "java/lang/String" := (Exa.ext E137 f139)
  have f143 : Fld Z h137 so "java/lang/String" "coder" "B" (.int (0 : Int32)) := (Fld.ext E137 (Fld.other W132 (Fld.ext E129 prem2) (Or.inr (slot_ne (Or.inr (hw _ (List.mem_of_getElem? (i := 27) rfl))) (Or.inr (hw _ (List.mem_of_getElem? (i := 29) rfl))) (by decide) (t := .byte) (t' := (.array .byte)) (by decide) (by decide)))))
  obtain ⟨T141, h141, X141, e141, W141, st141⟩ := putFN X140 hx hZ hown (hw _ (List.mem_of_getElem? (i := 26) rfl)) Via.refl e140 f143 f142 (Or.inr ⟨(hw _ (List.mem_of_getElem? (i := 27) rfl)), rfl, hnm⟩) (hw _ (List.mem_of_getElem? (i := 2) rfl)) (ty := .byte) (v' := (.int (0 : Int32))) (by decide) rfl rfl (g := (mkF m 23 #[.val (.ref so), .val (.ref sa), .val (.int (0 : Int32)), .val (.int (0 : Int32)), .val .null, .unset] [(.int (0 : Int32)), (.ref so)])) rfl rfl (hb hby d_jdk_42_method_149_code_23)
  have O145 := Old0.wr O137 W141 prem3
  have K145 := Keep.wr K137 W141 (Or.inl (List.mem_of_getElem? (i := 0) rfl))
  have C144 := CHr.trans C137 (CHr.wr W141 sf137_so C137.1)
  have hk := Nat.le_trans hk (Keep.of_wr W141).1
  have N141 := Fr.snoc X141 N132 prem3
  have f141 : Fld Z h141 so "java/lang/String" "coder" "B" (.int (0 : Int32)) := Fld.same W141 f143
  refine GoS.of (T' := T141) (f' := (mkF m 26 #[.val (.ref so), .val (.ref sa), .val (.int (0 : Int32)), .val (.int (0 : Int32)), .val .null, .unset] [])) (fun _ k => st141 _ k) ?_
  have f146 : Fld Z h141 so "java/lang/String" "value" "[B" (.ref v129) := (Fld.other W141 (Fld.ext E137 f132) (Or.inr (slot_ne (Or.inr (hw _ (List.mem_of_getElem? (i := 29) rfl))) (Or.inr (hw _ (List.mem_of_getElem? (i := 27) rfl))) (by decide) (t := (.array .byte)) (t' := .byte) (by decide) (by decide))))
  have f147 : Arv Z h141 v129 kc129 .byte (0 : Int32) [] (.int (0 : Int32)) := (Arv.other (Arv.ext (Arv.other V129 W132 (Ne.symm ne_so_v129)) E137) W141 (Ne.symm ne_so_v129))
  exact GoS.retV X141 hx hlk hS hk hZ hEL C144 e141 hret (hb hby d_jdk_42_method_149_code_26) (by decide) (by decide) (by rw [e141]; exact ⟨v129, kc129, rfl, N141, K145, f146, f141, f147⟩)
theorem ef_rm_str_0 (m : MethodId) (so : Addr) (sa : Addr) : entryFrame m #[(.ref so), (.ref sa)] 2 = mkF m 0 #[.val (.ref so), .val (.ref sa)] [] := by first | (simp [entryFrame, mkF, argsToLocals, Value.category]; done) | rfl
set_option maxRecDepth 65536 in
set_option maxHeartbeats 40000000 in
theorem rm_str_0 {l : Launch} {Z : State} {a0 : Array Value} {s_FLAG : Addr} {s_COMPACT_STRINGS : Int32} (hw : ∀ d ∈ tables_1, d.before a0 Z = true) (G : own_Ctx Z s_FLAG s_COMPACT_STRINGS) (so : Addr) (sa : Addr) (ks : ClassId) (h0 : Heap) (O0 : Ext Z.heap h0) (prem0 : Exa Z h0 so "java/lang/String") (prem1 : Fld Z h0 so "java/lang/String" "value" "[B" .null) (prem2 : Fld Z h0 so "java/lang/String" "coder" "B" (.int (0 : Int32))) (prem3 : Z.heap.size ≤ so) (prem4 : Arv Z h0 sa ks .char (0 : Int32) [] (.int (0 : Int32))) :
    OkS l Z own_EL (⟨"java/lang/String", "<init>", "([C)V"⟩ : MethodName) jdk_42_method_3_code 2 none ({ frames := 2, cells := 4, slots := 8, locals := 29 } : Room) #[(.ref so), (.ref sa)] h0
      (fun v h L => ∃ da : Addr, ∃ kd : ClassId, v = none ∧ (Fr Z.heap.size L) ∧ (Keep h0 h [so]) ∧ (Fld Z h so "java/lang/String" "value" "[B" (.ref da)) ∧ (Fld Z h so "java/lang/String" "coder" "B" (.int (0 : Int32))) ∧ (Arv Z h da kd .byte (0 : Int32) [] (.int (0 : Int32)))) := by
  refine OkS.mk pn_java_lang_String__init____C_V ?_
  intro p e s m below meth c T0 hx hby hml hown hnm hret hlk hZ e0 C0 hS X0
  have hk := Nat.zero_le h0.size
  have hEL := own_EW hw
  refine GoS.cast (ef_rm_str_0 m so sa) ?_
  obtain ⟨S_FLAG, E_s_FLAG, S_COMPACT_STRINGS, hne_s_COMPACT_STRINGS_0⟩ := id G
  have N0 := Fr.nil Z.heap.size
  have K0 : Keep h0 h0 [so] := Keep.refl _ _
  refine GoS.of (T' := T0) (f' := (mkF m 1 #[.val (.ref so), .val (.ref sa)] [(.ref so)])) (fun _ k => XS.aloadN X0.here hx rfl (hb hby d_jdk_42_method_3_code_0) rfl rfl k) ?_
  refine GoS.of (T' := T0) (f' := (mkF m 2 #[.val (.ref so), .val (.ref sa)] [(.ref sa), (.ref so)])) (fun _ k => XS.aloadN X0.here hx rfl (hb hby d_jdk_42_method_3_code_1) rfl rfl k) ?_
  refine GoS.of (T' := T0) (f' := (mkF m 3 #[.val (.ref so), .val (.ref sa)] [(.int (0 : Int32)), (.ref sa), (.ref so)])) (fun _ k => XS.iconst X0.here hx rfl (hb hby d_jdk_42_method_3_code_2) k) ?_
  refine GoS.of (T' := T0) (f' := (mkF m 4 #[.val (.ref so), .val (.ref sa)] [(.ref sa), (.int (0 : Int32)), (.ref sa), (.ref so)])) (fun _ k => XS.aloadN X0.here hx rfl (hb hby d_jdk_42_method_3_code_3) rfl rfl k) ?_
  obtain ⟨cl148, Ar148, qk148, S148, Ng148, H148, G148⟩ := id prem4
  refine GoS.of (T' := T0) (f' := (mkF m 5 #[.val (.ref so), .val (.ref sa)] [(.int (0 : Int32)), (.int (0 : Int32)), (.ref sa), (.ref so)])) (fun _ k => X0.arraylength hx (by rw [e0]; exact Ar148.1) (State.isArrayOf_alike hZ.alike Ar148.2.1) (g := (mkF m 4 #[.val (.ref so), .val (.ref sa)] [(.ref sa), (.int (0 : Int32)), (.ref sa), (.ref so)])) rfl rfl (hb hby d_jdk_42_method_3_code_4) _ (by rw [len_of S148 Ng148]; exact k)) ?_
  refine GoS.of (T' := T0) (f' := (mkF m 6 #[.val (.ref so), .val (.ref sa)] [.null, (.int (0 : Int32)), (.int (0 : Int32)), (.ref sa), (.ref so)])) (fun _ k => XS.aconstNull X0.here hx rfl (hb hby d_jdk_42_method_3_code_5) k) ?_
  obtain ⟨T149, v149, L149, X149, q149, hS, hg149, hZ, hown, Cq149, st149⟩ := callNewS X0 hx hZ (y := (⟨"java/lang/String", "<init>", "([CIILjava/lang/Void;)V"⟩ : MethodName)) rfl hS hk hEL C0.1 hown (hw _ (List.mem_of_getElem? (i := 7) rfl)) (hw _ (List.mem_of_getElem? (i := 8) rfl)) (hw _ (List.mem_of_getElem? (i := 3) rfl)) (hw _ (List.mem_of_getElem? (i := 10) rfl)) (by decide) (rm_str4_0 hw G so sa  h0 O0 prem0 prem1 prem2 prem3) e0 (W := 0) (by decide) (by decide) (by decide) (by decide) (g := (mkF m 6 #[.val (.ref so), .val (.ref sa)] [.null, (.int (0 : Int32)), (.int (0 : Int32)), (.ref sa), (.ref so)])) rfl (by rw [hml]; rfl) (a := so) (argsL := [(.ref sa), (.int (0 : Int32)), (.int (0 : Int32)), .null]) (rest := []) (lenOf pd___CIILjava_lang_Void__V rfl) rfl rfl (by show 2 * 0 + _ ≤ _; exact Nat.le_of_eq rfl) (hb hby d_jdk_42_method_3_code_6)
  obtain ⟨da_149, kd_149, rfl, N149q, K149q, p149_0, p149_1, p149_2⟩ := q149
  have N149 := Fr.app N0 N149q
  have O150 := Old0.keep O0 K149q (allS prem3 all0)
  have K150 := Keep.trans K0 K149q (allS (Or.inl (List.mem_of_getElem? (i := 0) rfl)) all0)
  have C149 := CHr.trans C0 Cq149
  have hk := Nat.le_refl T149.heap.size
  refine GoS.of (T' := T149) (f' := (mkF m 9 #[.val (.ref so), .val (.ref sa)] [])) (fun _ k => st149 _ k) ?_
  exact GoS.retV X149 hx hlk hS hk hZ hEL C149 rfl hret (hb hby d_jdk_42_method_3_code_9) (by decide) (by decide) ⟨da_149, kd_149, rfl, N149, K150, p149_0, p149_1, p149_2⟩
theorem d_jdk_30_method_1_code_0 : decode jdk_30_method_1_code 0 = .ok (.aload_n 0, 1) := by decide +kernel
theorem d_jdk_30_method_1_code_1 : decode jdk_30_method_1_code 1 = .ok (.invokespecial 1, 3) := by decide +kernel
theorem d_jdk_30_method_1_code_4 : decode jdk_30_method_1_code 4 = .ok (.return_, 1) := by decide +kernel
theorem ef_rm_rec (m : MethodId) (ob : Addr) : entryFrame m #[(.ref ob)] 1 = mkF m 0 #[.val (.ref ob)] [] := by first | (simp [entryFrame, mkF, argsToLocals, Value.category]; done) | rfl
theorem pn_java_lang_Record__init____V : plainFor (⟨"java/lang/Record", "<init>", "()V"⟩ : MethodName) = true := by first | exact plainFor_of_name (by first | (simp [plainName, overriddenIn]; done) | decide +kernel) | decide +kernel
set_option maxRecDepth 65536 in
set_option maxHeartbeats 40000000 in
theorem rm_rec {l : Launch} {Z : State} {a0 : Array Value} {s_FLAG : Addr} {s_COMPACT_STRINGS : Int32} (hw : ∀ d ∈ tables_1, d.before a0 Z = true) (G : own_Ctx Z s_FLAG s_COMPACT_STRINGS) (ob : Addr)  (h0 : Heap) (O0 : Ext Z.heap h0)  :
    Ok l Z (⟨"java/lang/Record", "<init>", "()V"⟩ : MethodName) jdk_30_method_1_code 1 none ({ frames := 1, cells := 0, slots := 0, locals := 12 } : Room) #[(.ref ob)] h0
      (fun v h L => v = none ∧ (h = h0) ∧ (L = [])) := by
  refine Ok.mk pn_java_lang_Record__init____V ?_
  intro p e s m below meth c T0 hx hby hml hown hnm hret hlk hZ e0 X0
  refine Go.cast (ef_rm_rec m ob) ?_
  obtain ⟨S_FLAG, E_s_FLAG, S_COMPACT_STRINGS, hne_s_COMPACT_STRINGS_0⟩ := id G
  have N0 := Fr.nil Z.heap.size
  have K0 : Keep h0 h0 [] := Keep.refl _ _
  refine Go.of (T' := T0) (f' := (mkF m 1 #[.val (.ref ob)] [(.ref ob)])) (fun _ k => XS.aloadN X0.here hx rfl (hb hby d_jdk_30_method_1_code_0) rfl rfl k) ?_
  obtain ⟨T151, X151, e151, st151⟩ := initO X0 hx hZ hown (hw _ (List.mem_of_getElem? (i := 47) rfl)) (hw _ (List.mem_of_getElem? (i := 12) rfl)) (hw _ (List.mem_of_getElem? (i := 13) rfl)) e0 (g := (mkF m 1 #[.val (.ref ob)] [(.ref ob)])) rfl (by rw [hml]; rfl) rfl (hb hby d_jdk_30_method_1_code_1) (by decide) (W := 0) (by show 2 * 0 + _ ≤ _; exact Nat.le_of_eq rfl) (by decide)
  refine Go.of (T' := T151) (f' := (mkF m 4 #[.val (.ref ob)] [])) (fun _ k => st151 _ k) ?_
  exact Go.retV X151 hx hlk hret (hb hby d_jdk_30_method_1_code_4) (by decide) (by decide) (by rw [e151]; exact ⟨rfl, rfl, by simp⟩)
theorem d_prog_4_method_1_code_0 : decode prog_4_method_1_code 0 = .ok (.aload_n 0, 1) := by decide +kernel
theorem d_prog_4_method_1_code_1 : decode prog_4_method_1_code 1 = .ok (.invokespecial 1, 3) := by decide +kernel
theorem pd___V : parseMethodDescriptor "()V" = some ⟨[], none⟩ := by decide +kernel
theorem d_prog_4_method_1_code_4 : decode prog_4_method_1_code 4 = .ok (.aload_n 0, 1) := by decide +kernel
theorem d_prog_4_method_1_code_5 : decode prog_4_method_1_code 5 = .ok (.aload_n 1, 1) := by decide +kernel
theorem d_prog_4_method_1_code_6 : decode prog_4_method_1_code 6 = .ok (.putfield 7, 3) := by decide +kernel
theorem d_prog_4_method_1_code_9 : decode prog_4_method_1_code 9 = .ok (.aload_n 0, 1) := by decide +kernel
theorem d_prog_4_method_1_code_10 : decode prog_4_method_1_code 10 = .ok (.aload_n 2, 1) := by decide +kernel
theorem d_prog_4_method_1_code_11 : decode prog_4_method_1_code 11 = .ok (.putfield 13, 3) := by decide +kernel
theorem d_prog_4_method_1_code_14 : decode prog_4_method_1_code 14 = .ok (.return_, 1) := by decide +kernel
theorem ef_rm_oinit_r (m : MethodId) (ob : Addr) (nm : Addr) (s_FLAG : Addr) : entryFrame m #[(.ref ob), (.ref nm), (.ref s_FLAG)] 3 = mkF m 0 #[.val (.ref ob), .val (.ref nm), .val (.ref s_FLAG)] [] := by first | (simp [entryFrame, mkF, argsToLocals, Value.category]; done) | rfl
theorem pn_com_example_sealwright_sealwright_Arguments_Option__init___Ljava_lang_String_Lcom_example_sealwright_sealwright_Arguments_Kind__V : plainFor (⟨"com/example/sealwright/sealwright/Arguments$Option", "<init>", "(Ljava/lang/String;Lcom/example/sealwright/sealwright/Arguments$Kind;)V"⟩ : MethodName) = true := by first | exact plainFor_of_name (by first | (simp [plainName, overriddenIn]; done) | decide +kernel) | decide +kernel
set_option maxRecDepth 65536 in
set_option maxHeartbeats 40000000 in
theorem rm_oinit_r {l : Launch} {Z : State} {a0 : Array Value} {s_FLAG : Addr} {s_COMPACT_STRINGS : Int32} (hw : ∀ d ∈ tables_1, d.before a0 Z = true) (G : own_Ctx Z s_FLAG s_COMPACT_STRINGS) (ob : Addr) (nm : Addr)  (h0 : Heap) (O0 : Ext Z.heap h0) (prem0 : Exa Z h0 ob "com/example/sealwright/sealwright/Arguments$Option") (prem1 : Fld Z h0 ob "com/example/sealwright/sealwright/Arguments$Option" "name" "Ljava/lang/String;" .null) (prem2 : Fld Z h0 ob "com/example/sealwright/sealwright/Arguments$Option" "kind" "Lcom/example/sealwright/sealwright/Arguments$Kind;" .null) (prem3 : Z.heap.size ≤ ob) :
    Ok l Z (⟨"com/example/sealwright/sealwright/Arguments$Option", "<init>", "(Ljava/lang/String;Lcom/example/sealwright/sealwright/Arguments$Kind;)V"⟩ : MethodName) prog_4_method_1_code 3 none ({ frames := 2, cells := 0, slots := 0, locals := 24 } : Room) #[(.ref ob), (.ref nm), (.ref s_FLAG)] h0
      (fun v h L => v = none ∧ (Fr Z.heap.size L) ∧ (Keep h0 h [ob]) ∧ (Fld Z h ob "com/example/sealwright/sealwright/Arguments$Option" "name" "Ljava/lang/String;" (.ref nm)) ∧ (Fld Z h ob "com/example/sealwright/sealwright/Arguments$Option" "kind" "Lcom/example/sealwright/sealwright/Arguments$Kind;" (.ref s_FLAG))) := by
  refine Ok.mk pn_com_example_sealwright_sealwright_Arguments_Option__init___Ljava_lang_String_Lcom_example_sealwright_sealwright_Arguments_Kind__V ?_
  intro p e s m below meth c T0 hx hby hml hown hnm hret hlk hZ e0 X0
  refine Go.cast (ef_rm_oinit_r m ob nm s_FLAG) ?_
  obtain ⟨S_FLAG, E_s_FLAG, S_COMPACT_STRINGS, hne_s_COMPACT_STRINGS_0⟩ := id G
  have N0 := Fr.nil Z.heap.size
  have K0 : Keep h0 h0 [ob] := Keep.refl _ _
  refine Go.of (T' := T0) (f' := (mkF m 1 #[.val (.ref ob), .val (.ref nm), .val (.ref s_FLAG)] [(.ref ob)])) (fun _ k => XS.aloadN X0.here hx rfl (hb hby d_prog_4_method_1_code_0) rfl rfl k) ?_
  obtain ⟨T152, v152, L152, X152, q152, st152⟩ := callNew X0 hx hZ (y := (⟨"java/lang/Record", "<init>", "()V"⟩ : MethodName)) rfl hown (hw _ (List.mem_of_getElem? (i := 42) rfl)) (hw _ (List.mem_of_getElem? (i := 43) rfl)) (hw _ (List.mem_of_getElem? (i := 45) rfl)) (hw _ (List.mem_of_getElem? (i := 46) rfl)) (by decide) (rm_rec hw G ob  h0 O0 ) e0 (W := 0) (by decide) (by decide) (by decide) (by decide) (g := (mkF m 1 #[.val (.ref ob), .val (.ref nm), .val (.ref s_FLAG)] [(.ref ob)])) rfl (by rw [hml]; rfl) (a := ob) (argsL := []) (rest := []) (lenOf pd___V rfl) rfl rfl (by show 2 * 0 + _ ≤ _; exact Nat.le_of_eq rfl) (hb hby d_prog_4_method_1_code_1)
  obtain ⟨rfl, e152, rfl⟩ := q152
  have N152 := Fr.app N0 (Fr.nil _)
  refine Go.of (T' := T152) (f' := (mkF m 4 #[.val (.ref ob), .val (.ref nm), .val (.ref s_FLAG)] [])) (fun _ k => st152 _ k) ?_
  refine Go.of (T' := T152) (f' := (mkF m 5 #[.val (.ref ob), .val (.ref nm), .val (.ref s_FLAG)] [(.ref ob)])) (fun _ k => XS.aloadN X152.here hx rfl (hb hby d_prog_4_method_1_code_4) rfl rfl k) ?_
  refine Go.of (T' := T152) (f' := (mkF m 6 #[.val (.ref ob), .val (.ref nm), .val (.ref s_FLAG)] [(.ref nm), (.ref ob)])) (fun _ k => XS.aloadN X152.here hx rfl (hb hby d_prog_4_method_1_code_5) rfl rfl k) ?_
  obtain ⟨T153, h153, X153, e153, W153, st153⟩ := putF X152 hx hZ hown (host := "") (Or.inl (hw _ (List.mem_of_getElem? (i := 48) rfl))) Via.refl e152 prem1 prem0 (Or.inr ⟨(hw _ (List.mem_of_getElem? (i := 49) rfl)), rfl, hnm⟩) (hw _ (List.mem_of_getElem? (i := 35) rfl)) (ty := (.object "java/lang/String")) (by decide) rfl rfl (g := (mkF m 6 #[.val (.ref ob), .val (.ref nm), .val (.ref s_FLAG)] [(.ref nm), (.ref ob)])) rfl rfl (hb hby d_prog_4_method_1_code_6)
  have O154 := Old0.wr O0 W153 prem3
  have K154 := Keep.wr K0 W153 (Or.inl (List.mem_of_getElem? (i := 0) rfl))
  have N153 := Fr.snoc X153 N152 prem3
  have f153 : Fld Z h153 ob "com/example/sealwright/sealwright/Arguments$Option" "name" "Ljava/lang/String;" (.ref nm) := Fld.same W153 prem1
  refine Go.of (T' := T153) (f' := (mkF m 9 #[.val (.ref ob), .val (.ref nm), .val (.ref s_FLAG)] [])) (fun _ k => st153 _ k) ?_
  refine Go.of (T' := T153) (f' := (mkF m 10 #[.val (.ref ob), .val (.ref nm), .val (.ref s_FLAG)] [(.ref ob)])) (fun _ k => XS.aloadN X153.here hx rfl (hb hby d_prog_4_method_1_code_9) rfl rfl k) ?_
  refine Go.of (T' := T153) (f' := (mkF m 11 #[.val (.ref ob), .val (.ref nm), .val (.ref s_FLAG)] [(.ref s_FLAG), (.ref ob)])) (fun _ k => XS.aloadN X153.here hx rfl (hb hby d_prog_4_method_1_code_10) rfl rfl k) ?_
  have f156 : Exa Z h153 ob "com/example/sealwright/sealwright/Arguments$Option" := (Exa.wr W153 prem0)
  have f157 : Fld Z h153 ob "com/example/sealwright/sealwright/Arguments$Option" "kind" "Lcom/example/sealwright/sealwright/Arguments$Kind;" .null := (Fld.other W153 prem2 (Or.inr (slot_ne (Or.inr (hw _ (List.mem_of_getElem? (i := 51) rfl))) (Or.inr (hw _ (List.mem_of_getElem? (i := 49) rfl))) (by decide) (t := (.object "com/example/sealwright/sealwright/Arguments$Kind")) (t' := (.object "java/lang/String")) (by decide) (by decide))))
  obtain ⟨T155, h155, X155, e155, W155, st155⟩ := putF X153 hx hZ hown (host := "") (Or.inl (hw _ (List.mem_of_getElem? (i := 50) rfl))) Via.refl e153 f157 f156 (Or.inr ⟨(hw _ (List.mem_of_getElem? (i := 51) rfl)), rfl, hnm⟩) (hw _ (List.mem_of_getElem? (i := 35) rfl)) (ty := (.object "com/example/sealwright/sealwright/Arguments$Kind")) (by decide) rfl rfl (g := (mkF m 11 #[.val (.ref ob), .val (.ref nm), .val (.ref s_FLAG)] [(.ref s_FLAG), (.ref ob)])) rfl rfl (hb hby d_prog_4_method_1_code_11)
  have O158 := Old0.wr O154 W155 prem3
  have K158 := Keep.wr K154 W155 (Or.inl (List.mem_of_getElem? (i := 0) rfl))
  have N155 := Fr.snoc X155 N153 prem3
  have f155 : Fld Z h155 ob "com/example/sealwright/sealwright/Arguments$Option" "kind" "Lcom/example/sealwright/sealwright/Arguments$Kind;" (.ref s_FLAG) := Fld.same W155 f157
  refine Go.of (T' := T155) (f' := (mkF m 14 #[.val (.ref ob), .val (.ref nm), .val (.ref s_FLAG)] [])) (fun _ k => st155 _ k) ?_
  have f159 : Fld Z h155 ob "com/example/sealwright/sealwright/Arguments$Option" "name" "Ljava/lang/String;" (.ref nm) := (Fld.other W155 f153 (Or.inr (slot_ne (Or.inr (hw _ (List.mem_of_getElem? (i := 49) rfl))) (Or.inr (hw _ (List.mem_of_getElem? (i := 51) rfl))) (by decide) (t := (.object "java/lang/String")) (t' := (.object "com/example/sealwright/sealwright/Arguments$Kind")) (by decide) (by decide))))
  exact Go.retV X155 hx hlk hret (hb hby d_prog_4_method_1_code_14) (by decide) (by decide) (by rw [e155]; exact ⟨rfl, N155, K158, f159, f155⟩)
theorem d_prog_4_method_5_code_0 : decode prog_4_method_5_code 0 = .ok (.new 8, 3) := by decide +kernel
theorem d_prog_4_method_5_code_3 : decode prog_4_method_5_code 3 = .ok (.dup, 1) := by decide +kernel
theorem d_prog_4_method_5_code_4 : decode prog_4_method_5_code 4 = .ok (.aload_n 0, 1) := by decide +kernel
theorem d_prog_4_method_5_code_5 : decode prog_4_method_5_code 5 = .ok (.getstatic 31, 3) := by decide +kernel
theorem d_prog_4_method_5_code_8 : decode prog_4_method_5_code 8 = .ok (.invokespecial 22, 3) := by decide +kernel
theorem pd__Ljava_lang_String_Lcom_example_sealwright_sealwright_Arguments_Kind__V : parseMethodDescriptor "(Ljava/lang/String;Lcom/example/sealwright/sealwright/Arguments$Kind;)V" = some ⟨[(.object "java/lang/String"), (.object "com/example/sealwright/sealwright/Arguments$Kind")], none⟩ := by decide +kernel
theorem d_prog_4_method_5_code_11 : decode prog_4_method_5_code 11 = .ok (.areturn, 1) := by decide +kernel
theorem ef_rm_flag_r (m : MethodId) (nm : Addr) : entryFrame m #[(.ref nm)] 1 = mkF m 0 #[.val (.ref nm)] [] := by first | (simp [entryFrame, mkF, argsToLocals, Value.category]; done) | rfl
theorem pn_com_example_sealwright_sealwright_Arguments_Option_flag__Ljava_lang_String__Lcom_example_sealwright_sealwright_Arguments_Option_ : plainFor (⟨"com/example/sealwright/sealwright/Arguments$Option", "flag", "(Ljava/lang/String;)Lcom/example/sealwright/sealwright/Arguments$Option;"⟩ : MethodName) = true := by first | exact plainFor_of_name (by first | (simp [plainName, overriddenIn]; done) | decide +kernel) | decide +kernel
set_option maxRecDepth 65536 in
set_option maxHeartbeats 40000000 in
theorem rm_flag_r {l : Launch} {Z : State} {a0 : Array Value} {s_FLAG : Addr} {s_COMPACT_STRINGS : Int32} (hw : ∀ d ∈ tables_1, d.before a0 Z = true) (G : own_Ctx Z s_FLAG s_COMPACT_STRINGS) (nm : Addr)  (h0 : Heap) (O0 : Ext Z.heap h0)  :
    Ok l Z (⟨"com/example/sealwright/sealwright/Arguments$Option", "flag", "(Ljava/lang/String;)Lcom/example/sealwright/sealwright/Arguments$Option;"⟩ : MethodName) prog_4_method_5_code 1 (some (.object "com/example/sealwright/sealwright/Arguments$Option")) ({ frames := 3, cells := 1, slots := 2, locals := 39 } : Room) #[(.ref nm)] h0
      (fun v h L => ∃ ob : Addr, v = some (.ref ob) ∧ (Fr Z.heap.size L) ∧ (Keep h0 h []) ∧ (h0.size ≤ ob) ∧ (Exa Z h ob "com/example/sealwright/sealwright/Arguments$Option") ∧ (Fld Z h ob "com/example/sealwright/sealwright/Arguments$Option" "name" "Ljava/lang/String;" (.ref nm)) ∧ (Fld Z h ob "com/example/sealwright/sealwright/Arguments$Option" "kind" "Lcom/example/sealwright/sealwright/Arguments$Kind;" (.ref s_FLAG))) := by
  refine Ok.mk pn_com_example_sealwright_sealwright_Arguments_Option_flag__Ljava_lang_String__Lcom_example_sealwright_sealwright_Arguments_Option_ ?_
  intro p e s m below meth c T0 hx hby hml hown hnm hret hlk hZ e0 X0
  refine Go.cast (ef_rm_flag_r m nm) ?_
  obtain ⟨S_FLAG, E_s_FLAG, S_COMPACT_STRINGS, hne_s_COMPACT_STRINGS_0⟩ := id G
  have N0 := Fr.nil Z.heap.size
  have K0 : Keep h0 h0 [] := Keep.refl _ _
  obtain ⟨T160, h160, b160, q160, X160, e160, E160, A160, D160, st160⟩ := newOb X0 hx hZ hown (hw _ (List.mem_of_getElem? (i := 34) rfl)) (hw _ (List.mem_of_getElem? (i := 35) rfl)) (hw _ (List.mem_of_getElem? (i := 32) rfl)) e0 (g := (mkF m 0 #[.val (.ref nm)] [])) rfl (hb hby d_prog_4_method_5_code_0) (by decide) (by decide)
  have O161 := Old0.ext O0 E160
  have K161 := Keep.ext K0 E160
  have g_b160 : Z.heap.size ≤ b160 := q160 ▸ O0.1
  have z_b160 : h0.size ≤ b160 := q160 ▸ K0.1
  have f162 : Fld Z h160 b160 "com/example/sealwright/sealwright/Arguments$Option" "name" "Ljava/lang/String;" .null := D160 (Or.inr (hw _ (List.mem_of_getElem? (i := 49) rfl))) (ty := (.object "java/lang/String")) (by decide)
  have f163 : Fld Z h160 b160 "com/example/sealwright/sealwright/Arguments$Option" "kind" "Lcom/example/sealwright/sealwright/Arguments$Kind;" .null := D160 (Or.inr (hw _ (List.mem_of_getElem? (i := 51) rfl))) (ty := (.object "com/example/sealwright/sealwright/Arguments$Kind")) (by decide)
  refine Go.of (T' := T160) (f' := (mkF m 3 #[.val (.ref nm)] [(.ref b160)])) (fun _ k => st160 _ k) ?_
  refine Go.of (T' := T160) (f' := (mkF m 4 #[.val (.ref nm)] [(.ref b160), (.ref b160)])) (fun _ k => XS.dup X160.here hx rfl (hb hby d_prog_4_method_5_code_3) rfl rfl k) ?_
  refine Go.of (T' := T160) (f' := (mkF m 5 #[.val (.ref nm)] [(.ref nm), (.ref b160), (.ref b160)])) (fun _ k => XS.aloadN X160.here hx rfl (hb hby d_prog_4_method_5_code_4) rfl rfl k) ?_
  obtain ⟨T164, X164, e164, st164⟩ := getS2 X160 hx hZ hown (host := "") (Or.inl (hw _ (List.mem_of_getElem? (i := 36) rfl))) Via.refl e160 (Sta.ext O161 S_FLAG) (g := (mkF m 5 #[.val (.ref nm)] [(.ref nm), (.ref b160), (.ref b160)])) rfl (hb hby d_prog_4_method_5_code_5)
  refine Go.of (T' := T164) (f' := (mkF m 8 #[.val (.ref nm)] [(.ref s_FLAG), (.ref nm), (.ref b160), (.ref b160)])) (fun _ k => st164 _ k) ?_
  obtain ⟨T165, v165, L165, X165, q165, st165⟩ := callNew X164 hx hZ (y := (⟨"com/example/sealwright/sealwright/Arguments$Option", "<init>", "(Ljava/lang/String;Lcom/example/sealwright/sealwright/Arguments$Kind;)V"⟩ : MethodName)) rfl hown (hw _ (List.mem_of_getElem? (i := 39) rfl)) (hw _ (List.mem_of_getElem? (i := 40) rfl)) (hw _ (List.mem_of_getElem? (i := 32) rfl)) (hw _ (List.mem_of_getElem? (i := 41) rfl)) (by decide) (rm_oinit_r hw G b160 nm  h160 O161 A160 f162 f163 g_b160) e164 (W := 1) (by decide) (by decide) (by decide) (by decide) (g := (mkF m 8 #[.val (.ref nm)] [(.ref s_FLAG), (.ref nm), (.ref b160), (.ref b160)])) rfl (by rw [hml]; rfl) (a := b160) (argsL := [(.ref nm), (.ref s_FLAG)]) (rest := [(.ref b160)]) (lenOf pd__Ljava_lang_String_Lcom_example_sealwright_sealwright_Arguments_Kind__V rfl) rfl rfl (by show 2 * 0 + _ ≤ _; exact Nat.le_of_eq rfl) (hb hby d_prog_4_method_5_code_8)
  obtain ⟨rfl, N165q, K165q, p165_0, p165_1⟩ := q165
  have N165 := Fr.app N0 N165q
  have O166 := Old0.keep O161 K165q (allS g_b160 all0)
  have K166 := Keep.trans K161 K165q (allS (Or.inr z_b160) all0)
  refine Go.of (T' := T165) (f' := (mkF m 11 #[.val (.ref nm)] [(.ref b160)])) (fun _ k => st165 _ k) ?_
  have f167 : Exa Z T165.heap b160 "com/example/sealwright/sealwright/Arguments$Option" := (Exa.keep A160 K165q)
  exact Go.retA X165 hx hlk hret rfl rfl (hb hby d_prog_4_method_5_code_11) (by decide) (by decide) ⟨b160, rfl, N165, K166, z_b160, f167, p165_0, p165_1⟩
theorem d_prog_4_method_9_code_0 : decode prog_4_method_9_code 0 = .ok (.aload_n 0, 1) := by decide +kernel
theorem d_prog_4_method_9_code_1 : decode prog_4_method_9_code 1 = .ok (.getfield 7, 3) := by decide +kernel
theorem d_prog_4_method_9_code_4 : decode prog_4_method_9_code 4 = .ok (.areturn, 1) := by decide +kernel
theorem ef_rm_name_r (m : MethodId) (ob : Addr) : entryFrame m #[(.ref ob)] 1 = mkF m 0 #[.val (.ref ob)] [] := by first | (simp [entryFrame, mkF, argsToLocals, Value.category]; done) | rfl
theorem pn_com_example_sealwright_sealwright_Arguments_Option_name___Ljava_lang_String_ : plainFor (⟨"com/example/sealwright/sealwright/Arguments$Option", "name", "()Ljava/lang/String;"⟩ : MethodName) = true := by first | exact plainFor_of_name (by first | (simp [plainName, overriddenIn]; done) | decide +kernel) | decide +kernel
set_option maxRecDepth 65536 in
set_option maxHeartbeats 40000000 in
theorem rm_name_r {l : Launch} {Z : State} {a0 : Array Value} {s_FLAG : Addr} {s_COMPACT_STRINGS : Int32} (hw : ∀ d ∈ tables_1, d.before a0 Z = true) (G : own_Ctx Z s_FLAG s_COMPACT_STRINGS) (ob : Addr) (nm : Addr) (h0 : Heap) (O0 : Ext Z.heap h0) (prem0 : Fld Z h0 ob "com/example/sealwright/sealwright/Arguments$Option" "name" "Ljava/lang/String;" (.ref nm)) :
    Ok l Z (⟨"com/example/sealwright/sealwright/Arguments$Option", "name", "()Ljava/lang/String;"⟩ : MethodName) prog_4_method_9_code 1 (some (.object "java/lang/String")) ({ frames := 0, cells := 0, slots := 0, locals := 0 } : Room) #[(.ref ob)] h0
      (fun v h L => v = some (.ref nm) ∧ (h = h0) ∧ (L = [])) := by
  refine Ok.mk pn_com_example_sealwright_sealwright_Arguments_Option_name___Ljava_lang_String_ ?_
  intro p e s m below meth c T0 hx hby hml hown hnm hret hlk hZ e0 X0
  refine Go.cast (ef_rm_name_r m ob) ?_
  obtain ⟨S_FLAG, E_s_FLAG, S_COMPACT_STRINGS, hne_s_COMPACT_STRINGS_0⟩ := id G
  have N0 := Fr.nil Z.heap.size
  have K0 : Keep h0 h0 [] := Keep.refl _ _
  refine Go.of (T' := T0) (f' := (mkF m 1 #[.val (.ref ob)] [(.ref ob)])) (fun _ k => XS.aloadN X0.here hx rfl (hb hby d_prog_4_method_9_code_0) rfl rfl k) ?_
  obtain ⟨T168, X168, e168, st168⟩ := getF X0 hx hZ hown (host := "") (Or.inl (hw _ (List.mem_of_getElem? (i := 48) rfl))) Via.refl e0 prem0 (g := (mkF m 1 #[.val (.ref ob)] [(.ref ob)])) rfl rfl (hb hby d_prog_4_method_9_code_1)
  refine Go.of (T' := T168) (f' := (mkF m 4 #[.val (.ref ob)] [(.ref nm)])) (fun _ k => st168 _ k) ?_
  exact Go.retA X168 hx hlk hret rfl rfl (hb hby d_prog_4_method_9_code_4) (by decide) (by decide) (by rw [e168]; exact ⟨rfl, rfl, by simp⟩)
theorem ef_rm_oinit_n (m : MethodId) (ob : Addr) (s_FLAG : Addr) : entryFrame m #[(.ref ob), .null, (.ref s_FLAG)] 3 = mkF m 0 #[.val (.ref ob), .val .null, .val (.ref s_FLAG)] [] := by first | (simp [entryFrame, mkF, argsToLocals, Value.category]; done) | rfl
set_option maxRecDepth 65536 in
set_option maxHeartbeats 40000000 in
theorem rm_oinit_n {l : Launch} {Z : State} {a0 : Array Value} {s_FLAG : Addr} {s_COMPACT_STRINGS : Int32} (hw : ∀ d ∈ tables_1, d.before a0 Z = true) (G : own_Ctx Z s_FLAG s_COMPACT_STRINGS) (ob : Addr)  (h0 : Heap) (O0 : Ext Z.heap h0) (prem0 : Exa Z h0 ob "com/example/sealwright/sealwright/Arguments$Option") (prem1 : Fld Z h0 ob "com/example/sealwright/sealwright/Arguments$Option" "name" "Ljava/lang/String;" .null) (prem2 : Fld Z h0 ob "com/example/sealwright/sealwright/Arguments$Option" "kind" "Lcom/example/sealwright/sealwright/Arguments$Kind;" .null) (prem3 : Z.heap.size ≤ ob) :
    Ok l Z (⟨"com/example/sealwright/sealwright/Arguments$Option", "<init>", "(Ljava/lang/String;Lcom/example/sealwright/sealwright/Arguments$Kind;)V"⟩ : MethodName) prog_4_method_1_code 3 none ({ frames := 2, cells := 0, slots := 0, locals := 24 } : Room) #[(.ref ob), .null, (.ref s_FLAG)] h0
      (fun v h L => v = none ∧ (Fr Z.heap.size L) ∧ (Keep h0 h [ob]) ∧ (Fld Z h ob "com/example/sealwright/sealwright/Arguments$Option" "name" "Ljava/lang/String;" .null) ∧ (Fld Z h ob "com/example/sealwright/sealwright/Arguments$Option" "kind" "Lcom/example/sealwright/sealwright/Arguments$Kind;" (.ref s_FLAG))) := by
  refine Ok.mk pn_com_example_sealwright_sealwright_Arguments_Option__init___Ljava_lang_String_Lcom_example_sealwright_sealwright_Arguments_Kind__V ?_
  intro p e s m below meth c T0 hx hby hml hown hnm hret hlk hZ e0 X0
  refine Go.cast (ef_rm_oinit_n m ob s_FLAG) ?_
  obtain ⟨S_FLAG, E_s_FLAG, S_COMPACT_STRINGS, hne_s_COMPACT_STRINGS_0⟩ := id G
  have N0 := Fr.nil Z.heap.size
  have K0 : Keep h0 h0 [ob] := Keep.refl _ _
  refine Go.of (T' := T0) (f' := (mkF m 1 #[.val (.ref ob), .val .null, .val (.ref s_FLAG)] [(.ref ob)])) (fun _ k => XS.aloadN X0.here hx rfl (hb hby d_prog_4_method_1_code_0) rfl rfl k) ?_
  obtain ⟨T169, v169, L169, X169, q169, st169⟩ := callNew X0 hx hZ (y := (⟨"java/lang/Record", "<init>", "()V"⟩ : MethodName)) rfl hown (hw _ (List.mem_of_getElem? (i := 42) rfl)) (hw _ (List.mem_of_getElem? (i := 43) rfl)) (hw _ (List.mem_of_getElem? (i := 45) rfl)) (hw _ (List.mem_of_getElem? (i := 46) rfl)) (by decide) (rm_rec hw G ob  h0 O0 ) e0 (W := 0) (by decide) (by decide) (by decide) (by decide) (g := (mkF m 1 #[.val (.ref ob), .val .null, .val (.ref s_FLAG)] [(.ref ob)])) rfl (by rw [hml]; rfl) (a := ob) (argsL := []) (rest := []) (lenOf pd___V rfl) rfl rfl (by show 2 * 0 + _ ≤ _; exact Nat.le_of_eq rfl) (hb hby d_prog_4_method_1_code_1)
  obtain ⟨rfl, e169, rfl⟩ := q169
  have N169 := Fr.app N0 (Fr.nil _)
  refine Go.of (T' := T169) (f' := (mkF m 4 #[.val (.ref ob), .val .null, .val (.ref s_FLAG)] [])) (fun _ k => st169 _ k) ?_
  refine Go.of (T' := T169) (f' := (mkF m 5 #[.val (.ref ob), .val .null, .val (.ref s_FLAG)] [(.ref ob)])) (fun _ k => XS.aloadN X169.here hx rfl (hb hby d_prog_4_method_1_code_4) rfl rfl k) ?_
  refine Go.of (T' := T169) (f' := (mkF m 6 #[.val (.ref ob), .val .null, .val (.ref s_FLAG)] [.null, (.ref ob)])) (fun _ k => XS.aloadN X169.here hx rfl (hb hby d_prog_4_method_1_code_5) rfl rfl k) ?_
  obtain ⟨T170, h170, X170, e170, W170, st170⟩ := putF X169 hx hZ hown (host := "") (Or.inl (hw _ (List.mem_of_getElem? (i := 48) rfl))) Via.refl e169 prem1 prem0 (Or.inr ⟨(hw _ (List.mem_of_getElem? (i := 49) rfl)), rfl, hnm⟩) (hw _ (List.mem_of_getElem? (i := 35) rfl)) (ty := (.object "java/lang/String")) (by decide) rfl rfl (g := (mkF m 6 #[.val (.ref ob), .val .null, .val (.ref s_FLAG)] [.null, (.ref ob)])) rfl rfl (hb hby d_prog_4_method_1_code_6)
  have O171 := Old0.wr O0 W170 prem3
  have K171 := Keep.wr K0 W170 (Or.inl (List.mem_of_getElem? (i := 0) rfl))
  have N170 := Fr.snoc X170 N169 prem3
  have f170 : Fld Z h170 ob "com/example/sealwright/sealwright/Arguments$Option" "name" "Ljava/lang/String;" .null := Fld.same W170 prem1
  refine Go.of (T' := T170) (f' := (mkF m 9 #[.val (.ref ob), .val .null, .val (.ref s_FLAG)] [])) (fun _ k => st170 _ k) ?_
  refine Go.of (T' := T170) (f' := (mkF m 10 #[.val (.ref ob), .val .null, .val (.ref s_FLAG)] [(.ref ob)])) (fun _ k => XS.aloadN X170.here hx rfl (hb hby d_prog_4_method_1_code_9) rfl rfl k) ?_
  refine Go.of (T' := T170) (f' := (mkF m 11 #[.val (.ref ob), .val .null, .val (.ref s_FLAG)] [(.ref s_FLAG), (.ref ob)])) (fun _ k => XS.aloadN X170.here hx rfl (hb hby d_prog_4_method_1_code_10) rfl rfl k) ?_
  have f173 : Exa Z h170 ob "com/example/sealwright/sealwright/Arguments$Option" := (Exa.wr W170 prem0)
  have f174 : Fld Z h170 ob "com/example/sealwright/sealwright/Arguments$Option" "kind" "Lcom/example/sealwright/sealwright/Arguments$Kind;" .null := (Fld.other W170 prem2 (Or.inr (slot_ne (Or.inr (hw _ (List.mem_of_getElem? (i := 51) rfl))) (Or.inr (hw _ (List.mem_of_getElem? (i := 49) rfl))) (by decide) (t := (.object "com/example/sealwright/sealwright/Arguments$Kind")) (t' := (.object "java/lang/String")) (by decide) (by decide))))
  obtain ⟨T172, h172, X172, e172, W172, st172⟩ := putF X170 hx hZ hown (host := "") (Or.inl (hw _ (List.mem_of_getElem? (i := 50) rfl))) Via.refl e170 f174 f173 (Or.inr ⟨(hw _ (List.mem_of_getElem? (i := 51) rfl)), rfl, hnm⟩) (hw _ (List.mem_of_getElem? (i := 35) rfl)) (ty := (.object "com/example/sealwright/sealwright/Arguments$Kind")) (by decide) rfl rfl (g := (mkF m 11 #[.val (.ref ob), .val .null, .val (.ref s_FLAG)] [(.ref s_FLAG), (.ref ob)])) rfl rfl (hb hby d_prog_4_method_1_code_11)
  have O175 := Old0.wr O171 W172 prem3
  have K175 := Keep.wr K171 W172 (Or.inl (List.mem_of_getElem? (i := 0) rfl))
  have N172 := Fr.snoc X172 N170 prem3
  have f172 : Fld Z h172 ob "com/example/sealwright/sealwright/Arguments$Option" "kind" "Lcom/example/sealwright/sealwright/Arguments$Kind;" (.ref s_FLAG) := Fld.same W172 f174
  refine Go.of (T' := T172) (f' := (mkF m 14 #[.val (.ref ob), .val .null, .val (.ref s_FLAG)] [])) (fun _ k => st172 _ k) ?_
  have f176 : Fld Z h172 ob "com/example/sealwright/sealwright/Arguments$Option" "name" "Ljava/lang/String;" .null := (Fld.other W172 f170 (Or.inr (slot_ne (Or.inr (hw _ (List.mem_of_getElem? (i := 49) rfl))) (Or.inr (hw _ (List.mem_of_getElem? (i := 51) rfl))) (by decide) (t := (.object "java/lang/String")) (t' := (.object "com/example/sealwright/sealwright/Arguments$Kind")) (by decide) (by decide))))
  exact Go.retV X172 hx hlk hret (hb hby d_prog_4_method_1_code_14) (by decide) (by decide) (by rw [e172]; exact ⟨rfl, N172, K175, f176, f172⟩)
theorem ef_rm_flag_n (m : MethodId)  : entryFrame m #[.null] 1 = mkF m 0 #[.val .null] [] := by first | (simp [entryFrame, mkF, argsToLocals, Value.category]; done) | rfl
set_option maxRecDepth 65536 in
set_option maxHeartbeats 40000000 in
theorem rm_flag_n {l : Launch} {Z : State} {a0 : Array Value} {s_FLAG : Addr} {s_COMPACT_STRINGS : Int32} (hw : ∀ d ∈ tables_1, d.before a0 Z = true) (G : own_Ctx Z s_FLAG s_COMPACT_STRINGS)   (h0 : Heap) (O0 : Ext Z.heap h0)  :
    Ok l Z (⟨"com/example/sealwright/sealwright/Arguments$Option", "flag", "(Ljava/lang/String;)Lcom/example/sealwright/sealwright/Arguments$Option;"⟩ : MethodName) prog_4_method_5_code 1 (some (.object "com/example/sealwright/sealwright/Arguments$Option")) ({ frames := 3, cells := 1, slots := 2, locals := 39 } : Room) #[.null] h0
      (fun v h L => ∃ ob : Addr, v = some (.ref ob) ∧ (Fr Z.heap.size L) ∧ (Keep h0 h []) ∧ (h0.size ≤ ob) ∧ (Exa Z h ob "com/example/sealwright/sealwright/Arguments$Option") ∧ (Fld Z h ob "com/example/sealwright/sealwright/Arguments$Option" "name" "Ljava/lang/String;" .null) ∧ (Fld Z h ob "com/example/sealwright/sealwright/Arguments$Option" "kind" "Lcom/example/sealwright/sealwright/Arguments$Kind;" (.ref s_FLAG))) := by
  refine Ok.mk pn_com_example_sealwright_sealwright_Arguments_Option_flag__Ljava_lang_String__Lcom_example_sealwright_sealwright_Arguments_Option_ ?_
  intro p e s m below meth c T0 hx hby hml hown hnm hret hlk hZ e0 X0
  refine Go.cast (ef_rm_flag_n m ) ?_
  obtain ⟨S_FLAG, E_s_FLAG, S_COMPACT_STRINGS, hne_s_COMPACT_STRINGS_0⟩ := id G
  have N0 := Fr.nil Z.heap.size
  have K0 : Keep h0 h0 [] := Keep.refl _ _
  obtain ⟨T177, h177, b177, q177, X177, e177, E177, A177, D177, st177⟩ := newOb X0 hx hZ hown (hw _ (List.mem_of_getElem? (i := 34) rfl)) (hw _ (List.mem_of_getElem? (i := 35) rfl)) (hw _ (List.mem_of_getElem? (i := 32) rfl)) e0 (g := (mkF m 0 #[.val .null] [])) rfl (hb hby d_prog_4_method_5_code_0) (by decide) (by decide)
  have O178 := Old0.ext O0 E177
  have K178 := Keep.ext K0 E177
  have g_b177 : Z.heap.size ≤ b177 := q177 ▸ O0.1
  have z_b177 : h0.size ≤ b177 := q177 ▸ K0.1
  have f179 : Fld Z h177 b177 "com/example/sealwright/sealwright/Arguments$Option" "name" "Ljava/lang/String;" .null := D177 (Or.inr (hw _ (List.mem_of_getElem? (i := 49) rfl))) (ty := (.object "java/lang/String")) (by decide)
  have f180 : Fld Z h177 b177 "com/example/sealwright/sealwright/Arguments$Option" "kind" "Lcom/example/sealwright/sealwright/Arguments$Kind;" .null := D177 (Or.inr (hw _ (List.mem_of_getElem? (i := 51) rfl))) (ty := (.object "com/example/sealwright/sealwright/Arguments$Kind")) (by decide)
  refine Go.of (T' := T177) (f' := (mkF m 3 #[.val .null] [(.ref b177)])) (fun _ k => st177 _ k) ?_
  refine Go.of (T' := T177) (f' := (mkF m 4 #[.val .null] [(.ref b177), (.ref b177)])) (fun _ k => XS.dup X177.here hx rfl (hb hby d_prog_4_method_5_code_3) rfl rfl k) ?_
  refine Go.of (T' := T177) (f' := (mkF m 5 #[.val .null] [.null, (.ref b177), (.ref b177)])) (fun _ k => XS.aloadN X177.here hx rfl (hb hby d_prog_4_method_5_code_4) rfl rfl k) ?_
  obtain ⟨T181, X181, e181, st181⟩ := getS2 X177 hx hZ hown (host := "") (Or.inl (hw _ (List.mem_of_getElem? (i := 36) rfl))) Via.refl e177 (Sta.ext O178 S_FLAG) (g := (mkF m 5 #[.val .null] [.null, (.ref b177), (.ref b177)])) rfl (hb hby d_prog_4_method_5_code_5)
  refine Go.of (T' := T181) (f' := (mkF m 8 #[.val .null] [(.ref s_FLAG), .null, (.ref b177), (.ref b177)])) (fun _ k => st181 _ k) ?_
  obtain ⟨T182, v182, L182, X182, q182, st182⟩ := callNew X181 hx hZ (y := (⟨"com/example/sealwright/sealwright/Arguments$Option", "<init>", "(Ljava/lang/String;Lcom/example/sealwright/sealwright/Arguments$Kind;)V"⟩ : MethodName)) rfl hown (hw _ (List.mem_of_getElem? (i := 39) rfl)) (hw _ (List.mem_of_getElem? (i := 40) rfl)) (hw _ (List.mem_of_getElem? (i := 32) rfl)) (hw _ (List.mem_of_getElem? (i := 41) rfl)) (by decide) (rm_oinit_n hw G b177  h177 O178 A177 f179 f180 g_b177) e181 (W := 1) (by decide) (by decide) (by decide) (by decide) (g := (mkF m 8 #[.val .null] [(.ref s_FLAG), .null, (.ref b177), (.ref b177)])) rfl (by rw [hml]; rfl) (a := b177) (argsL := [.null, (.ref s_FLAG)]) (rest := [(.ref b177)]) (lenOf pd__Ljava_lang_String_Lcom_example_sealwright_sealwright_Arguments_Kind__V rfl) rfl rfl (by show 2 * 0 + _ ≤ _; exact Nat.le_of_eq rfl) (hb hby d_prog_4_method_5_code_8)
  obtain ⟨rfl, N182q, K182q, p182_0, p182_1⟩ := q182
  have N182 := Fr.app N0 N182q
  have O183 := Old0.keep O178 K182q (allS g_b177 all0)
  have K183 := Keep.trans K178 K182q (allS (Or.inr z_b177) all0)
  refine Go.of (T' := T182) (f' := (mkF m 11 #[.val .null] [(.ref b177)])) (fun _ k => st182 _ k) ?_
  have f184 : Exa Z T182.heap b177 "com/example/sealwright/sealwright/Arguments$Option" := (Exa.keep A177 K182q)
  exact Go.retA X182 hx hlk hret rfl rfl (hb hby d_prog_4_method_5_code_11) (by decide) (by decide) ⟨b177, rfl, N182, K183, z_b177, f184, p182_0, p182_1⟩
theorem ef_rm_name_n (m : MethodId) (ob : Addr) : entryFrame m #[(.ref ob)] 1 = mkF m 0 #[.val (.ref ob)] [] := by first | (simp [entryFrame, mkF, argsToLocals, Value.category]; done) | rfl
set_option maxRecDepth 65536 in
set_option maxHeartbeats 40000000 in
theorem rm_name_n {l : Launch} {Z : State} {a0 : Array Value} {s_FLAG : Addr} {s_COMPACT_STRINGS : Int32} (hw : ∀ d ∈ tables_1, d.before a0 Z = true) (G : own_Ctx Z s_FLAG s_COMPACT_STRINGS) (ob : Addr)  (h0 : Heap) (O0 : Ext Z.heap h0) (prem0 : Fld Z h0 ob "com/example/sealwright/sealwright/Arguments$Option" "name" "Ljava/lang/String;" .null) :
    Ok l Z (⟨"com/example/sealwright/sealwright/Arguments$Option", "name", "()Ljava/lang/String;"⟩ : MethodName) prog_4_method_9_code 1 (some (.object "java/lang/String")) ({ frames := 0, cells := 0, slots := 0, locals := 0 } : Room) #[(.ref ob)] h0
      (fun v h L => v = some .null ∧ (h = h0) ∧ (L = [])) := by
  refine Ok.mk pn_com_example_sealwright_sealwright_Arguments_Option_name___Ljava_lang_String_ ?_
  intro p e s m below meth c T0 hx hby hml hown hnm hret hlk hZ e0 X0
  refine Go.cast (ef_rm_name_n m ob) ?_
  obtain ⟨S_FLAG, E_s_FLAG, S_COMPACT_STRINGS, hne_s_COMPACT_STRINGS_0⟩ := id G
  have N0 := Fr.nil Z.heap.size
  have K0 : Keep h0 h0 [] := Keep.refl _ _
  refine Go.of (T' := T0) (f' := (mkF m 1 #[.val (.ref ob)] [(.ref ob)])) (fun _ k => XS.aloadN X0.here hx rfl (hb hby d_prog_4_method_9_code_0) rfl rfl k) ?_
  obtain ⟨T185, X185, e185, st185⟩ := getF X0 hx hZ hown (host := "") (Or.inl (hw _ (List.mem_of_getElem? (i := 48) rfl))) Via.refl e0 prem0 (g := (mkF m 1 #[.val (.ref ob)] [(.ref ob)])) rfl rfl (hb hby d_prog_4_method_9_code_1)
  refine Go.of (T' := T185) (f' := (mkF m 4 #[.val (.ref ob)] [.null])) (fun _ k => st185 _ k) ?_
  exact Go.retA X185 hx hlk hret rfl rfl (hb hby d_prog_4_method_9_code_4) (by decide) (by decide) (by rw [e185]; exact ⟨rfl, rfl, by simp⟩)
theorem d_prog_4_method_10_code_0 : decode prog_4_method_10_code 0 = .ok (.aload_n 0, 1) := by decide +kernel
theorem d_prog_4_method_10_code_1 : decode prog_4_method_10_code 1 = .ok (.getfield 13, 3) := by decide +kernel
theorem d_prog_4_method_10_code_4 : decode prog_4_method_10_code 4 = .ok (.areturn, 1) := by decide +kernel
theorem ef_rm_kind (m : MethodId) (ob : Addr) : entryFrame m #[(.ref ob)] 1 = mkF m 0 #[.val (.ref ob)] [] := by first | (simp [entryFrame, mkF, argsToLocals, Value.category]; done) | rfl
theorem pn_com_example_sealwright_sealwright_Arguments_Option_kind___Lcom_example_sealwright_sealwright_Arguments_Kind_ : plainFor (⟨"com/example/sealwright/sealwright/Arguments$Option", "kind", "()Lcom/example/sealwright/sealwright/Arguments$Kind;"⟩ : MethodName) = true := by first | exact plainFor_of_name (by first | (simp [plainName, overriddenIn]; done) | decide +kernel) | decide +kernel
set_option maxRecDepth 65536 in
set_option maxHeartbeats 40000000 in
theorem rm_kind {l : Launch} {Z : State} {a0 : Array Value} {s_FLAG : Addr} {s_COMPACT_STRINGS : Int32} (hw : ∀ d ∈ tables_1, d.before a0 Z = true) (G : own_Ctx Z s_FLAG s_COMPACT_STRINGS) (ob : Addr)  (h0 : Heap) (O0 : Ext Z.heap h0) (prem0 : Fld Z h0 ob "com/example/sealwright/sealwright/Arguments$Option" "kind" "Lcom/example/sealwright/sealwright/Arguments$Kind;" (.ref s_FLAG)) :
    Ok l Z (⟨"com/example/sealwright/sealwright/Arguments$Option", "kind", "()Lcom/example/sealwright/sealwright/Arguments$Kind;"⟩ : MethodName) prog_4_method_10_code 1 (some (.object "com/example/sealwright/sealwright/Arguments$Kind")) ({ frames := 0, cells := 0, slots := 0, locals := 0 } : Room) #[(.ref ob)] h0
      (fun v h L => v = some (.ref s_FLAG) ∧ (h = h0) ∧ (L = [])) := by
  refine Ok.mk pn_com_example_sealwright_sealwright_Arguments_Option_kind___Lcom_example_sealwright_sealwright_Arguments_Kind_ ?_
  intro p e s m below meth c T0 hx hby hml hown hnm hret hlk hZ e0 X0
  refine Go.cast (ef_rm_kind m ob) ?_
  obtain ⟨S_FLAG, E_s_FLAG, S_COMPACT_STRINGS, hne_s_COMPACT_STRINGS_0⟩ := id G
  have N0 := Fr.nil Z.heap.size
  have K0 : Keep h0 h0 [] := Keep.refl _ _
  refine Go.of (T' := T0) (f' := (mkF m 1 #[.val (.ref ob)] [(.ref ob)])) (fun _ k => XS.aloadN X0.here hx rfl (hb hby d_prog_4_method_10_code_0) rfl rfl k) ?_
  obtain ⟨T186, X186, e186, st186⟩ := getF X0 hx hZ hown (host := "") (Or.inl (hw _ (List.mem_of_getElem? (i := 50) rfl))) Via.refl e0 prem0 (g := (mkF m 1 #[.val (.ref ob)] [(.ref ob)])) rfl rfl (hb hby d_prog_4_method_10_code_1)
  refine Go.of (T' := T186) (f' := (mkF m 4 #[.val (.ref ob)] [(.ref s_FLAG)])) (fun _ k => st186 _ k) ?_
  exact Go.retA X186 hx hlk hret rfl rfl (hb hby d_prog_4_method_10_code_4) (by decide) (by decide) (by rw [e186]; exact ⟨rfl, rfl, by simp⟩)

theorem d_jdk_42_method_66_code_0 : decode jdk_42_method_66_code 0 = .ok (.aload_n 0, 1) := by decide +kernel
theorem d_jdk_42_method_66_code_1 : decode jdk_42_method_66_code 1 = .ok (.aload_n 1, 1) := by decide +kernel
theorem d_jdk_42_method_66_code_2 : decode jdk_42_method_66_code 2 = .ok (.if_acmp .ne 5, 3) := by decide +kernel
theorem d_jdk_42_method_66_code_5 : decode jdk_42_method_66_code 5 = .ok (.iconst 1, 1) := by decide +kernel
theorem d_jdk_42_method_66_code_6 : decode jdk_42_method_66_code 6 = .ok (.ireturn, 1) := by decide +kernel
theorem ef_rm_eqs (m : MethodId) (sa : Addr) (sb : Addr) : entryFrame m #[(.ref sa), (.ref sb)] 3 = mkF m 0 #[.val (.ref sa), .val (.ref sb), .unset] [] := by first | (simp [entryFrame, mkF, argsToLocals, Value.category]; done) | rfl
theorem pn_java_lang_String_equals__Ljava_lang_Object__Z : plainFor (⟨"java/lang/String", "equals", "(Ljava/lang/Object;)Z"⟩ : MethodName) = true := by first | exact plainFor_of_name (by first | (simp [plainName, overriddenIn]; done) | decide +kernel) | decide +kernel
set_option maxRecDepth 65536 in
set_option maxHeartbeats 40000000 in
theorem rm_eqs {l : Launch} {Z : State} {a0 : Array Value} {s_FLAG : Addr} {s_COMPACT_STRINGS : Int32} (hw : ∀ d ∈ tables_1, d.before a0 Z = true) (G : own_Ctx Z s_FLAG s_COMPACT_STRINGS) (sa : Addr) (sb : Addr)  (h0 : Heap) (O0 : Ext Z.heap h0) (prem0 : sa = sb) :
    Ok l Z (⟨"java/lang/String", "equals", "(Ljava/lang/Object;)Z"⟩ : MethodName) jdk_42_method_66_code 3 (some .boolean) ({ frames := 0, cells := 0, slots := 0, locals := 0 } : Room) #[(.ref sa), (.ref sb)] h0
      (fun v h L => v = some (.int (1 : Int32)) ∧ (h = h0) ∧ (L = [])) := by
  refine Ok.mk pn_java_lang_String_equals__Ljava_lang_Object__Z ?_
  intro p e s m below meth c T0 hx hby hml hown hnm hret hlk hZ e0 X0
  refine Go.cast (ef_rm_eqs m sa sb) ?_
  obtain ⟨S_FLAG, E_s_FLAG, S_COMPACT_STRINGS, hne_s_COMPACT_STRINGS_0⟩ := id G
  have N0 := Fr.nil Z.heap.size
  have K0 : Keep h0 h0 [] := Keep.refl _ _
  refine Go.of (T' := T0) (f' := (mkF m 1 #[.val (.ref sa), .val (.ref sb), .unset] [(.ref sa)])) (fun _ k => XS.aloadN X0.here hx rfl (hb hby d_jdk_42_method_66_code_0) rfl rfl k) ?_
  refine Go.of (T' := T0) (f' := (mkF m 2 #[.val (.ref sa), .val (.ref sb), .unset] [(.ref sb), (.ref sa)])) (fun _ k => XS.aloadN X0.here hx rfl (hb hby d_jdk_42_method_66_code_1) rfl rfl k) ?_
  have hc187 : sa = sb := prem0
  refine Go.of (T' := T0) (f' := (mkF m 5 #[.val (.ref sa), .val (.ref sb), .unset] [])) (fun _ k => Jvm.RoadKit.acmp (g := (mkF m 2 #[.val (.ref sa), .val (.ref sb), .unset] [(.ref sb), (.ref sa)])) X0 hx rfl rfl rfl (pc0 := 2) (pc' := 5) (same := true) rfl (hb hby d_jdk_42_method_66_code_2) rfl (decide_eq_true (congrArg Value.ref hc187)) (by decide) (by decide) k) ?_
  refine Go.of (T' := T0) (f' := (mkF m 6 #[.val (.ref sa), .val (.ref sb), .unset] [(.int (1 : Int32))])) (fun _ k => XS.iconst X0.here hx rfl (hb hby d_jdk_42_method_66_code_5) k) ?_
  exact Go.retB X0 hx hlk hret (by simp) (hb hby d_jdk_42_method_66_code_6) (by decide) (by decide) (z' := (1 : Int32)) rfl (by rw [e0]; exact ⟨rfl, rfl, by simp⟩)
theorem pd__Ljava_lang_String__Lcom_example_sealwright_sealwright_Arguments_Option_ : parseMethodDescriptor "(Ljava/lang/String;)Lcom/example/sealwright/sealwright/Arguments$Option;" = some ⟨[(.object "java/lang/String")], some (.object "com/example/sealwright/sealwright/Arguments$Option")⟩ := by decide +kernel
theorem pd___Ljava_lang_String_ : parseMethodDescriptor "()Ljava/lang/String;" = some ⟨[], some (.object "java/lang/String")⟩ := by decide +kernel
theorem pd___Lcom_example_sealwright_sealwright_Arguments_Kind_ : parseMethodDescriptor "()Lcom/example/sealwright/sealwright/Arguments$Kind;" = some ⟨[], some (.object "com/example/sealwright/sealwright/Arguments$Kind")⟩ := by decide +kernel
theorem pd___C_V : parseMethodDescriptor "([C)V" = some ⟨[(.array .char)], none⟩ := by decide +kernel
theorem pd__Ljava_lang_Object__Z : parseMethodDescriptor "(Ljava/lang/Object;)Z" = some ⟨[(.object "java/lang/Object")], some .boolean⟩ := by decide +kernel
theorem ef_rm_law (m : MethodId) (p0 : Int32) (p1 : Int32) (p2 : Int32) (p3 : Int32) : entryFrame m #[(.int p0), (.int p1), (.int p2), (.int p3)] maxLocals = mkF m 0 #[.val (.int p0), .val (.int p1), .val (.int p2), .val (.int p3), .unset, .unset, .unset, .unset, .unset, .unset, .unset, .unset, .unset, .unset] [] := by first | (simp [entryFrame, mkF, argsToLocals, Value.category, maxLocals]; done) | rfl
theorem pn_com_example_sealwright_sealwright_OptionFlagPinLaw_law__IIII_Z : plainFor (⟨"com/example/sealwright/sealwright/OptionFlagPinLaw", "law", "(IIII)Z"⟩ : MethodName) = true := by first | exact plainFor_of_name (by first | (simp [plainName, overriddenIn]; done) | decide +kernel) | decide +kernel
set_option maxRecDepth 65536 in
set_option maxHeartbeats 40000000 in
theorem rm_law {l : Launch} {Z : State} {a0 : Array Value} {s_FLAG : Addr} {s_COMPACT_STRINGS : Int32} (hw : ∀ d ∈ tables_1, d.before a0 Z = true) (G : own_Ctx Z s_FLAG s_COMPACT_STRINGS) (p0 : Int32) (p1 : Int32) (p2 : Int32) (p3 : Int32)  (h0 : Heap) (O0 : Ext Z.heap h0)  :
    OkS l Z own_EL x code maxLocals ret room_1 #[(.int p0), (.int p1), (.int p2), (.int p3)] h0
      (fun v h L => v = some (.int (1 : Int32)) ∧ (Fr Z.heap.size L) ∧ (Keep h0 h [])) := by
  refine OkS.mk pn_com_example_sealwright_sealwright_OptionFlagPinLaw_law__IIII_Z ?_
  intro p e s m below meth c T0 hx hby hml hown hnm hret hlk hZ e0 C0 hS X0
  have hk := Nat.zero_le h0.size
  have hEL := own_EW hw
  have hml : c.maxLocals = 14 := hml
  have hown : s.vm.findClass "com/example/sealwright/sealwright/OptionFlagPinLaw" = some m.cls := hown
  refine GoS.cast (ef_rm_law m p0 p1 p2 p3) ?_
  obtain ⟨S_FLAG, E_s_FLAG, S_COMPACT_STRINGS, hne_s_COMPACT_STRINGS_0⟩ := id G
  have N0 := Fr.nil Z.heap.size
  have K0 : Keep h0 h0 [] := Keep.refl _ _
  refine GoS.of (T' := T0) (f' := (mkF m 1 #[.val (.int p0), .val (.int p1), .val (.int p2), .val (.int p3), .unset, .unset, .unset, .unset, .unset, .unset, .unset, .unset, .unset, .unset] [(.int (0 : Int32))])) (fun _ k => XS.iconst X0.here hx rfl (hb hby at_0) k) ?_
  obtain ⟨T188, h188, k188, b188, q188, X188, e188, E188, V188, A188, st188⟩ := newAr X0 hx hZ (hw _ (List.mem_of_getElem? (i := 0) rfl)) e0 (g := (mkF m 1 #[.val (.int p0), .val (.int p1), .val (.int p2), .val (.int p3), .unset, .unset, .unset, .unset, .unset, .unset, .unset, .unset, .unset, .unset] [(.int (0 : Int32))])) rfl (hb hby at_1) rfl (by decide) (cap := 0) (by decide) (by decide) (by decide) (by decide) (ad := "[C") (by decide)
  have O190 := Old0.ext O0 E188
  have K190 := Keep.ext K0 E188
  have C189 := CHr.trans C0 (CHr.ext E188 C0.1)
  have hk := Nat.le_trans hk E188.1
  have g_b188 : Z.heap.size ≤ b188 := q188 ▸ O0.1
  have z_b188 : h0.size ≤ b188 := q188 ▸ K0.1
  have f191 : Arv Z h188 b188 k188 .char (0 : Int32) [] (.int (0 : Int32)) := Arv.pad V188 (pad_rep [] (.int (0 : Int32)) 0)
  refine GoS.of (T' := T188) (f' := (mkF m 3 #[.val (.int p0), .val (.int p1), .val (.int p2), .val (.int p3), .unset, .unset, .unset, .unset, .unset, .unset, .unset, .unset, .unset, .unset] [(.ref b188)])) (fun _ k => st188 _ k) ?_
  refine GoS.of (T' := T188) (f' := (mkF m 5 #[.val (.int p0), .val (.int p1), .val (.int p2), .val (.int p3), .val (.ref b188), .unset, .unset, .unset, .unset, .unset, .unset, .unset, .unset, .unset] [])) (fun _ k => XS.astore X188.here hx rfl (hb hby at_3) rfl rfl (l' := #[.val (.int p0), .val (.int p1), .val (.int p2), .val (.int p3), .val (.ref b188), .unset, .unset, .unset, .unset, .unset, .unset, .unset, .unset, .unset]) rfl k) ?_
  refine GoS.of (T' := T188) (f' := (mkF m 6 #[.val (.int p0), .val (.int p1), .val (.int p2), .val (.int p3), .val (.ref b188), .unset, .unset, .unset, .unset, .unset, .unset, .unset, .unset, .unset] [(.int (1 : Int32))])) (fun _ k => XS.iconst X188.here hx rfl (hb hby at_5) k) ?_
  obtain ⟨T192, h192, k192, b192, q192, X192, e192, E192, V192, A192, st192⟩ := newAr X188 hx hZ (hw _ (List.mem_of_getElem? (i := 0) rfl)) e188 (g := (mkF m 6 #[.val (.int p0), .val (.int p1), .val (.int p2), .val (.int p3), .val (.ref b188), .unset, .unset, .unset, .unset, .unset, .unset, .unset, .unset, .unset] [(.int (1 : Int32))])) rfl (hb hby at_6) rfl (by decide) (cap := 1) (by decide) (by decide) (by decide) (by decide) (ad := "[C") (by decide)
  have O194 := Old0.ext O190 E192
  have K194 := Keep.ext K190 E192
  have C193 := CHr.trans C189 (CHr.ext E192 C189.1)
  have hk := Nat.le_trans hk E192.1
  have g_b192 : Z.heap.size ≤ b192 := q192 ▸ O190.1
  have z_b192 : h0.size ≤ b192 := q192 ▸ K190.1
  have ne_b188_b192 : b188 ≠ b192 := q192 ▸ Nat.ne_of_lt A188.lt
  have f195 : Arv Z h192 b192 k192 .char (1 : Int32) [(.int (0 : Int32))] (.int (0 : Int32)) := Arv.pad V192 (pad_rep [] (.int (0 : Int32)) 1)
  refine GoS.of (T' := T192) (f' := (mkF m 8 #[.val (.int p0), .val (.int p1), .val (.int p2), .val (.int p3), .val (.ref b188), .unset, .unset, .unset, .unset, .unset, .unset, .unset, .unset, .unset] [(.ref b192)])) (fun _ k => st192 _ k) ?_
  refine GoS.of (T' := T192) (f' := (mkF m 9 #[.val (.int p0), .val (.int p1), .val (.int p2), .val (.int p3), .val (.ref b188), .unset, .unset, .unset, .unset, .unset, .unset, .unset, .unset, .unset] [(.ref b192), (.ref b192)])) (fun _ k => XS.dup X192.here hx rfl (hb hby at_8) rfl rfl k) ?_
  refine GoS.of (T' := T192) (f' := (mkF m 10 #[.val (.int p0), .val (.int p1), .val (.int p2), .val (.int p3), .val (.ref b188), .unset, .unset, .unset, .unset, .unset, .unset, .unset, .unset, .unset] [(.int (0 : Int32)), (.ref b192), (.ref b192)])) (fun _ k => XS.iconst X192.here hx rfl (hb hby at_9) k) ?_
  refine GoS.of (T' := T192) (f' := (mkF m 11 #[.val (.int p0), .val (.int p1), .val (.int p2), .val (.int p3), .val (.ref b188), .unset, .unset, .unset, .unset, .unset, .unset, .unset, .unset, .unset] [(.int p0), (.int (0 : Int32)), (.ref b192), (.ref b192)])) (fun _ k => XS.iloadN X192.here hx rfl (hb hby at_10) rfl k) ?_
  refine GoS.of (T' := T192) (f' := (mkF m 14 #[.val (.int p0), .val (.int p1), .val (.int p2), .val (.int p3), .val (.ref b188), .unset, .unset, .unset, .unset, .unset, .unset, .unset, .unset, .unset] [(.int (255 : Int32)), (.int p0), (.int (0 : Int32)), (.ref b192), (.ref b192)])) (fun _ k => XS.sipush X192.here hx rfl (hb hby at_11) k) ?_
  refine GoS.of (T' := T192) (f' := (mkF m 15 #[.val (.int p0), .val (.int p1), .val (.int p2), .val (.int p3), .val (.ref b188), .unset, .unset, .unset, .unset, .unset, .unset, .unset, .unset, .unset] [(.int (p0 &&& (255 : Int32))), (.int (0 : Int32)), (.ref b192), (.ref b192)])) (fun _ k => XS.iand X192.here hx rfl (hb hby at_14) rfl k) ?_
  refine GoS.of (T' := T192) (f' := (mkF m 16 #[.val (.int p0), .val (.int p1), .val (.int p2), .val (.int p3), .val (.ref b188), .unset, .unset, .unset, .unset, .unset, .unset, .unset, .unset, .unset] [(.int ((p0 &&& (255 : Int32)).toUInt32.toUInt16.toUInt32.toInt32)), (.int (0 : Int32)), (.ref b192), (.ref b192)])) (fun _ k => XS.i2c X192.here hx rfl (hb hby at_15) rfl k) ?_
  obtain ⟨cl196, Ar196, qk196, S196, Ng196, H196, G196⟩ := id f195
  obtain ⟨T196, h196, X196, e196, W196, st196⟩ := stC X192 hx hZ e192 Ar196 (j := (0 : Int32)) (inb_of S196 ⟨by decide, by decide⟩) (g := (mkF m 16 #[.val (.int p0), .val (.int p1), .val (.int p2), .val (.int p3), .val (.ref b188), .unset, .unset, .unset, .unset, .unset, .unset, .unset, .unset, .unset] [(.int ((p0 &&& (255 : Int32)).toUInt32.toUInt16.toUInt32.toInt32)), (.int (0 : Int32)), (.ref b192), (.ref b192)])) rfl rfl (hb hby at_16)
  have W196 : Wr h192 h196 b192 ((0 : Int32)).toNatClampNeg (.int (p0 &&& (255 : Int32))) := Eq.mp (congrArg (fun z => Wr h192 h196 b192 ((0 : Int32)).toNatClampNeg (Value.int z)) (own_c255 p0)) W196
  have O198 := Old0.wr O194 W196 g_b192
  have K198 := Keep.wr K194 W196 (Or.inr z_b192)
  have C197 := CHr.trans C193 (CHr.wr W196 (Safe.exa hZ.alike A192 (by decide) (by decide)) C193.1)
  have hk := Nat.le_trans hk (Keep.of_wr W196).1
  have f196 : Arv Z h196 b192 k192 .char (1 : Int32) [(.int (p0 &&& (255 : Int32)))] (.int (0 : Int32)) := Arv.set Ar196 qk196 S196 Ng196 H196 G196 (v := (.int (p0 &&& (255 : Int32)))) (own_f255 p0) W196 0 rfl (Nat.le_of_ble_eq_true rfl)
  have N196 := Fr.snoc X196 N0 g_b192
  refine GoS.of (T' := T196) (f' := (mkF m 17 #[.val (.int p0), .val (.int p1), .val (.int p2), .val (.int p3), .val (.ref b188), .unset, .unset, .unset, .unset, .unset, .unset, .unset, .unset, .unset] [(.ref b192)])) (fun _ k => st196 _ k) ?_
  refine GoS.of (T' := T196) (f' := (mkF m 19 #[.val (.int p0), .val (.int p1), .val (.int p2), .val (.int p3), .val (.ref b188), .val (.ref b192), .unset, .unset, .unset, .unset, .unset, .unset, .unset, .unset] [])) (fun _ k => XS.astore X196.here hx rfl (hb hby at_17) rfl rfl (l' := #[.val (.int p0), .val (.int p1), .val (.int p2), .val (.int p3), .val (.ref b188), .val (.ref b192), .unset, .unset, .unset, .unset, .unset, .unset, .unset, .unset]) rfl k) ?_
  refine GoS.of (T' := T196) (f' := (mkF m 20 #[.val (.int p0), .val (.int p1), .val (.int p2), .val (.int p3), .val (.ref b188), .val (.ref b192), .unset, .unset, .unset, .unset, .unset, .unset, .unset, .unset] [(.int (2 : Int32))])) (fun _ k => XS.iconst X196.here hx rfl (hb hby at_19) k) ?_
  have f200 : Exa Z h196 b188 "[C" := (Exa.wr W196 (Exa.ext E192 A188))
  have f201 : Exa Z h196 b192 "[C" := (Exa.wr W196 A192)
  obtain ⟨T199, h199, k199, b199, q199, X199, e199, E199, V199, A199, st199⟩ := newAr X196 hx hZ (hw _ (List.mem_of_getElem? (i := 0) rfl)) e196 (g := (mkF m 20 #[.val (.int p0), .val (.int p1), .val (.int p2), .val (.int p3), .val (.ref b188), .val (.ref b192), .unset, .unset, .unset, .unset, .unset, .unset, .unset, .unset] [(.int (2 : Int32))])) rfl (hb hby at_20) rfl (by decide) (cap := 2) (by decide) (by decide) (by decide) (by decide) (ad := "[C") (by decide)
  have O203 := Old0.ext O198 E199
  have K203 := Keep.ext K198 E199
  have C202 := CHr.trans C197 (CHr.ext E199 C197.1)
  have hk := Nat.le_trans hk E199.1
  have g_b199 : Z.heap.size ≤ b199 := q199 ▸ O198.1
  have z_b199 : h0.size ≤ b199 := q199 ▸ K198.1
  have ne_b188_b199 : b188 ≠ b199 := q199 ▸ Nat.ne_of_lt f200.lt
  have ne_b192_b199 : b192 ≠ b199 := q199 ▸ Nat.ne_of_lt f201.lt
  have f204 : Arv Z h199 b199 k199 .char (2 : Int32) [(.int (0 : Int32)), (.int (0 : Int32))] (.int (0 : Int32)) := Arv.pad V199 (pad_rep [] (.int (0 : Int32)) 2)
  refine GoS.of (T' := T199) (f' := (mkF m 22 #[.val (.int p0), .val (.int p1), .val (.int p2), .val (.int p3), .val (.ref b188), .val (.ref b192), .unset, .unset, .unset, .unset, .unset, .unset, .unset, .unset] [(.ref b199)])) (fun _ k => st199 _ k) ?_
  refine GoS.of (T' := T199) (f' := (mkF m 23 #[.val (.int p0), .val (.int p1), .val (.int p2), .val (.int p3), .val (.ref b188), .val (.ref b192), .unset, .unset, .unset, .unset, .unset, .unset, .unset, .unset] [(.ref b199), (.ref b199)])) (fun _ k => XS.dup X199.here hx rfl (hb hby at_22) rfl rfl k) ?_
  refine GoS.of (T' := T199) (f' := (mkF m 24 #[.val (.int p0), .val (.int p1), .val (.int p2), .val (.int p3), .val (.ref b188), .val (.ref b192), .unset, .unset, .unset, .unset, .unset, .unset, .unset, .unset] [(.int (0 : Int32)), (.ref b199), (.ref b199)])) (fun _ k => XS.iconst X199.here hx rfl (hb hby at_23) k) ?_
  refine GoS.of (T' := T199) (f' := (mkF m 25 #[.val (.int p0), .val (.int p1), .val (.int p2), .val (.int p3), .val (.ref b188), .val (.ref b192), .unset, .unset, .unset, .unset, .unset, .unset, .unset, .unset] [(.int p0), (.int (0 : Int32)), (.ref b199), (.ref b199)])) (fun _ k => XS.iloadN X199.here hx rfl (hb hby at_24) rfl k) ?_
  refine GoS.of (T' := T199) (f' := (mkF m 28 #[.val (.int p0), .val (.int p1), .val (.int p2), .val (.int p3), .val (.ref b188), .val (.ref b192), .unset, .unset, .unset, .unset, .unset, .unset, .unset, .unset] [(.int (255 : Int32)), (.int p0), (.int (0 : Int32)), (.ref b199), (.ref b199)])) (fun _ k => XS.sipush X199.here hx rfl (hb hby at_25) k) ?_
  refine GoS.of (T' := T199) (f' := (mkF m 29 #[.val (.int p0), .val (.int p1), .val (.int p2), .val (.int p3), .val (.ref b188), .val (.ref b192), .unset, .unset, .unset, .unset, .unset, .unset, .unset, .unset] [(.int (p0 &&& (255 : Int32))), (.int (0 : Int32)), (.ref b199), (.ref b199)])) (fun _ k => XS.iand X199.here hx rfl (hb hby at_28) rfl k) ?_
  refine GoS.of (T' := T199) (f' := (mkF m 30 #[.val (.int p0), .val (.int p1), .val (.int p2), .val (.int p3), .val (.ref b188), .val (.ref b192), .unset, .unset, .unset, .unset, .unset, .unset, .unset, .unset] [(.int ((p0 &&& (255 : Int32)).toUInt32.toUInt16.toUInt32.toInt32)), (.int (0 : Int32)), (.ref b199), (.ref b199)])) (fun _ k => XS.i2c X199.here hx rfl (hb hby at_29) rfl k) ?_
  obtain ⟨cl205, Ar205, qk205, S205, Ng205, H205, G205⟩ := id f204
  obtain ⟨T205, h205, X205, e205, W205, st205⟩ := stC X199 hx hZ e199 Ar205 (j := (0 : Int32)) (inb_of S205 ⟨by decide, by decide⟩) (g := (mkF m 30 #[.val (.int p0), .val (.int p1), .val (.int p2), .val (.int p3), .val (.ref b188), .val (.ref b192), .unset, .unset, .unset, .unset, .unset, .unset, .unset, .unset] [(.int ((p0 &&& (255 : Int32)).toUInt32.toUInt16.toUInt32.toInt32)), (.int (0 : Int32)), (.ref b199), (.ref b199)])) rfl rfl (hb hby at_30)
  have W205 : Wr h199 h205 b199 ((0 : Int32)).toNatClampNeg (.int (p0 &&& (255 : Int32))) := Eq.mp (congrArg (fun z => Wr h199 h205 b199 ((0 : Int32)).toNatClampNeg (Value.int z)) (own_c255 p0)) W205
  have O207 := Old0.wr O203 W205 g_b199
  have K207 := Keep.wr K203 W205 (Or.inr z_b199)
  have C206 := CHr.trans C202 (CHr.wr W205 (Safe.exa hZ.alike A199 (by decide) (by decide)) C202.1)
  have hk := Nat.le_trans hk (Keep.of_wr W205).1
  have f205 : Arv Z h205 b199 k199 .char (2 : Int32) [(.int (p0 &&& (255 : Int32))), (.int (0 : Int32))] (.int (0 : Int32)) := Arv.set Ar205 qk205 S205 Ng205 H205 G205 (v := (.int (p0 &&& (255 : Int32)))) (own_f255 p0) W205 0 rfl (Nat.le_of_ble_eq_true rfl)
  have N205 := Fr.snoc X205 N196 g_b199
  refine GoS.of (T' := T205) (f' := (mkF m 31 #[.val (.int p0), .val (.int p1), .val (.int p2), .val (.int p3), .val (.ref b188), .val (.ref b192), .unset, .unset, .unset, .unset, .unset, .unset, .unset, .unset] [(.ref b199)])) (fun _ k => st205 _ k) ?_
  refine GoS.of (T' := T205) (f' := (mkF m 32 #[.val (.int p0), .val (.int p1), .val (.int p2), .val (.int p3), .val (.ref b188), .val (.ref b192), .unset, .unset, .unset, .unset, .unset, .unset, .unset, .unset] [(.ref b199), (.ref b199)])) (fun _ k => XS.dup X205.here hx rfl (hb hby at_31) rfl rfl k) ?_
  refine GoS.of (T' := T205) (f' := (mkF m 33 #[.val (.int p0), .val (.int p1), .val (.int p2), .val (.int p3), .val (.ref b188), .val (.ref b192), .unset, .unset, .unset, .unset, .unset, .unset, .unset, .unset] [(.int (1 : Int32)), (.ref b199), (.ref b199)])) (fun _ k => XS.iconst X205.here hx rfl (hb hby at_32) k) ?_
  refine GoS.of (T' := T205) (f' := (mkF m 34 #[.val (.int p0), .val (.int p1), .val (.int p2), .val (.int p3), .val (.ref b188), .val (.ref b192), .unset, .unset, .unset, .unset, .unset, .unset, .unset, .unset] [(.int p1), (.int (1 : Int32)), (.ref b199), (.ref b199)])) (fun _ k => XS.iloadN X205.here hx rfl (hb hby at_33) rfl k) ?_
  refine GoS.of (T' := T205) (f' := (mkF m 37 #[.val (.int p0), .val (.int p1), .val (.int p2), .val (.int p3), .val (.ref b188), .val (.ref b192), .unset, .unset, .unset, .unset, .unset, .unset, .unset, .unset] [(.int (255 : Int32)), (.int p1), (.int (1 : Int32)), (.ref b199), (.ref b199)])) (fun _ k => XS.sipush X205.here hx rfl (hb hby at_34) k) ?_
  refine GoS.of (T' := T205) (f' := (mkF m 38 #[.val (.int p0), .val (.int p1), .val (.int p2), .val (.int p3), .val (.ref b188), .val (.ref b192), .unset, .unset, .unset, .unset, .unset, .unset, .unset, .unset] [(.int (p1 &&& (255 : Int32))), (.int (1 : Int32)), (.ref b199), (.ref b199)])) (fun _ k => XS.iand X205.here hx rfl (hb hby at_37) rfl k) ?_
  refine GoS.of (T' := T205) (f' := (mkF m 39 #[.val (.int p0), .val (.int p1), .val (.int p2), .val (.int p3), .val (.ref b188), .val (.ref b192), .unset, .unset, .unset, .unset, .unset, .unset, .unset, .unset] [(.int ((p1 &&& (255 : Int32)).toUInt32.toUInt16.toUInt32.toInt32)), (.int (1 : Int32)), (.ref b199), (.ref b199)])) (fun _ k => XS.i2c X205.here hx rfl (hb hby at_38) rfl k) ?_
  obtain ⟨cl208, Ar208, qk208, S208, Ng208, H208, G208⟩ := id f205
  obtain ⟨T208, h208, X208, e208, W208, st208⟩ := stC X205 hx hZ e205 Ar208 (j := (1 : Int32)) (inb_of S208 ⟨by decide, by decide⟩) (g := (mkF m 39 #[.val (.int p0), .val (.int p1), .val (.int p2), .val (.int p3), .val (.ref b188), .val (.ref b192), .unset, .unset, .unset, .unset, .unset, .unset, .unset, .unset] [(.int ((p1 &&& (255 : Int32)).toUInt32.toUInt16.toUInt32.toInt32)), (.int (1 : Int32)), (.ref b199), (.ref b199)])) rfl rfl (hb hby at_39)
  have W208 : Wr h205 h208 b199 ((1 : Int32)).toNatClampNeg (.int (p1 &&& (255 : Int32))) := Eq.mp (congrArg (fun z => Wr h205 h208 b199 ((1 : Int32)).toNatClampNeg (Value.int z)) (own_c255 p1)) W208
  have f210 : Exa Z h205 b199 "[C" := (Exa.wr W205 A199)
  have O211 := Old0.wr O207 W208 g_b199
  have K211 := Keep.wr K207 W208 (Or.inr z_b199)
  have C209 := CHr.trans C206 (CHr.wr W208 (Safe.exa hZ.alike f210 (by decide) (by decide)) C206.1)
  have hk := Nat.le_trans hk (Keep.of_wr W208).1
  have f208 : Arv Z h208 b199 k199 .char (2 : Int32) [(.int (p0 &&& (255 : Int32))), (.int (p1 &&& (255 : Int32)))] (.int (0 : Int32)) := Arv.set Ar208 qk208 S208 Ng208 H208 G208 (v := (.int (p1 &&& (255 : Int32)))) (own_f255 p1) W208 1 rfl (Nat.le_of_ble_eq_true rfl)
  have N208 := Fr.snoc X208 N205 g_b199
  refine GoS.of (T' := T208) (f' := (mkF m 40 #[.val (.int p0), .val (.int p1), .val (.int p2), .val (.int p3), .val (.ref b188), .val (.ref b192), .unset, .unset, .unset, .unset, .unset, .unset, .unset, .unset] [(.ref b199)])) (fun _ k => st208 _ k) ?_
  refine GoS.of (T' := T208) (f' := (mkF m 42 #[.val (.int p0), .val (.int p1), .val (.int p2), .val (.int p3), .val (.ref b188), .val (.ref b192), .val (.ref b199), .unset, .unset, .unset, .unset, .unset, .unset, .unset] [])) (fun _ k => XS.astore X208.here hx rfl (hb hby at_40) rfl rfl (l' := #[.val (.int p0), .val (.int p1), .val (.int p2), .val (.int p3), .val (.ref b188), .val (.ref b192), .val (.ref b199), .unset, .unset, .unset, .unset, .unset, .unset, .unset]) rfl k) ?_
  refine GoS.of (T' := T208) (f' := (mkF m 43 #[.val (.int p0), .val (.int p1), .val (.int p2), .val (.int p3), .val (.ref b188), .val (.ref b192), .val (.ref b199), .unset, .unset, .unset, .unset, .unset, .unset, .unset] [(.int (3 : Int32))])) (fun _ k => XS.iconst X208.here hx rfl (hb hby at_42) k) ?_
  have f213 : Exa Z h208 b188 "[C" := (Exa.wr W208 (Exa.wr W205 (Exa.ext E199 f200)))
  have f214 : Exa Z h208 b192 "[C" := (Exa.wr W208 (Exa.wr W205 (Exa.ext E199 f201)))
  have f215 : Exa Z h208 b199 "[C" := (Exa.wr W208 f210)
  obtain ⟨T212, h212, k212, b212, q212, X212, e212, E212, V212, A212, st212⟩ := newAr X208 hx hZ (hw _ (List.mem_of_getElem? (i := 0) rfl)) e208 (g := (mkF m 43 #[.val (.int p0), .val (.int p1), .val (.int p2), .val (.int p3), .val (.ref b188), .val (.ref b192), .val (.ref b199), .unset, .unset, .unset, .unset, .unset, .unset, .unset] [(.int (3 : Int32))])) rfl (hb hby at_43) rfl (by decide) (cap := 3) (by decide) (by decide) (by decide) (by decide) (ad := "[C") (by decide)
  have O217 := Old0.ext O211 E212
  have K217 := Keep.ext K211 E212
  have C216 := CHr.trans C209 (CHr.ext E212 C209.1)
  have hk := Nat.le_trans hk E212.1
  have g_b212 : Z.heap.size ≤ b212 := q212 ▸ O211.1
  have z_b212 : h0.size ≤ b212 := q212 ▸ K211.1
  have ne_b188_b212 : b188 ≠ b212 := q212 ▸ Nat.ne_of_lt f213.lt
  have ne_b192_b212 : b192 ≠ b212 := q212 ▸ Nat.ne_of_lt f214.lt
  have ne_b199_b212 : b199 ≠ b212 := q212 ▸ Nat.ne_of_lt f215.lt
  have f218 : Arv Z h212 b212 k212 .char (3 : Int32) [(.int (0 : Int32)), (.int (0 : Int32)), (.int (0 : Int32))] (.int (0 : Int32)) := Arv.pad V212 (pad_rep [] (.int (0 : Int32)) 3)
  refine GoS.of (T' := T212) (f' := (mkF m 45 #[.val (.int p0), .val (.int p1), .val (.int p2), .val (.int p3), .val (.ref b188), .val (.ref b192), .val (.ref b199), .unset, .unset, .unset, .unset, .unset, .unset, .unset] [(.ref b212)])) (fun _ k => st212 _ k) ?_
  refine GoS.of (T' := T212) (f' := (mkF m 46 #[.val (.int p0), .val (.int p1), .val (.int p2), .val (.int p3), .val (.ref b188), .val (.ref b192), .val (.ref b199), .unset, .unset, .unset, .unset, .unset, .unset, .unset] [(.ref b212), (.ref b212)])) (fun _ k => XS.dup X212.here hx rfl (hb hby at_45) rfl rfl k) ?_
  refine GoS.of (T' := T212) (f' := (mkF m 47 #[.val (.int p0), .val (.int p1), .val (.int p2), .val (.int p3), .val (.ref b188), .val (.ref b192), .val (.ref b199), .unset, .unset, .unset, .unset, .unset, .unset, .unset] [(.int (0 : Int32)), (.ref b212), (.ref b212)])) (fun _ k => XS.iconst X212.here hx rfl (hb hby at_46) k) ?_
  refine GoS.of (T' := T212) (f' := (mkF m 48 #[.val (.int p0), .val (.int p1), .val (.int p2), .val (.int p3), .val (.ref b188), .val (.ref b192), .val (.ref b199), .unset, .unset, .unset, .unset, .unset, .unset, .unset] [(.int p0), (.int (0 : Int32)), (.ref b212), (.ref b212)])) (fun _ k => XS.iloadN X212.here hx rfl (hb hby at_47) rfl k) ?_
  refine GoS.of (T' := T212) (f' := (mkF m 51 #[.val (.int p0), .val (.int p1), .val (.int p2), .val (.int p3), .val (.ref b188), .val (.ref b192), .val (.ref b199), .unset, .unset, .unset, .unset, .unset, .unset, .unset] [(.int (255 : Int32)), (.int p0), (.int (0 : Int32)), (.ref b212), (.ref b212)])) (fun _ k => XS.sipush X212.here hx rfl (hb hby at_48) k) ?_
  refine GoS.of (T' := T212) (f' := (mkF m 52 #[.val (.int p0), .val (.int p1), .val (.int p2), .val (.int p3), .val (.ref b188), .val (.ref b192), .val (.ref b199), .unset, .unset, .unset, .unset, .unset, .unset, .unset] [(.int (p0 &&& (255 : Int32))), (.int (0 : Int32)), (.ref b212), (.ref b212)])) (fun _ k => XS.iand X212.here hx rfl (hb hby at_51) rfl k) ?_
  refine GoS.of (T' := T212) (f' := (mkF m 53 #[.val (.int p0), .val (.int p1), .val (.int p2), .val (.int p3), .val (.ref b188), .val (.ref b192), .val (.ref b199), .unset, .unset, .unset, .unset, .unset, .unset, .unset] [(.int ((p0 &&& (255 : Int32)).toUInt32.toUInt16.toUInt32.toInt32)), (.int (0 : Int32)), (.ref b212), (.ref b212)])) (fun _ k => XS.i2c X212.here hx rfl (hb hby at_52) rfl k) ?_
  obtain ⟨cl219, Ar219, qk219, S219, Ng219, H219, G219⟩ := id f218
  obtain ⟨T219, h219, X219, e219, W219, st219⟩ := stC X212 hx hZ e212 Ar219 (j := (0 : Int32)) (inb_of S219 ⟨by decide, by decide⟩) (g := (mkF m 53 #[.val (.int p0), .val (.int p1), .val (.int p2), .val (.int p3), .val (.ref b188), .val (.ref b192), .val (.ref b199), .unset, .unset, .unset, .unset, .unset, .unset, .unset] [(.int ((p0 &&& (255 : Int32)).toUInt32.toUInt16.toUInt32.toInt32)), (.int (0 : Int32)), (.ref b212), (.ref b212)])) rfl rfl (hb hby at_53)
  have W219 : Wr h212 h219 b212 ((0 : Int32)).toNatClampNeg (.int (p0 &&& (255 : Int32))) := Eq.mp (congrArg (fun z => Wr h212 h219 b212 ((0 : Int32)).toNatClampNeg (Value.int z)) (own_c255 p0)) W219
  have O221 := Old0.wr O217 W219 g_b212
  have K221 := Keep.wr K217 W219 (Or.inr z_b212)
  have C220 := CHr.trans C216 (CHr.wr W219 (Safe.exa hZ.alike A212 (by decide) (by decide)) C216.1)
  have hk := Nat.le_trans hk (Keep.of_wr W219).1
  have f219 : Arv Z h219 b212 k212 .char (3 : Int32) [(.int (p0 &&& (255 : Int32))), (.int (0 : Int32)), (.int (0 : Int32))] (.int (0 : Int32)) := Arv.set Ar219 qk219 S219 Ng219 H219 G219 (v := (.int (p0 &&& (255 : Int32)))) (own_f255 p0) W219 0 rfl (Nat.le_of_ble_eq_true rfl)
  have N219 := Fr.snoc X219 N208 g_b212
  refine GoS.of (T' := T219) (f' := (mkF m 54 #[.val (.int p0), .val (.int p1), .val (.int p2), .val (.int p3), .val (.ref b188), .val (.ref b192), .val (.ref b199), .unset, .unset, .unset, .unset, .unset, .unset, .unset] [(.ref b212)])) (fun _ k => st219 _ k) ?_
  refine GoS.of (T' := T219) (f' := (mkF m 55 #[.val (.int p0), .val (.int p1), .val (.int p2), .val (.int p3), .val (.ref b188), .val (.ref b192), .val (.ref b199), .unset, .unset, .unset, .unset, .unset, .unset, .unset] [(.ref b212), (.ref b212)])) (fun _ k => XS.dup X219.here hx rfl (hb hby at_54) rfl rfl k) ?_
  refine GoS.of (T' := T219) (f' := (mkF m 56 #[.val (.int p0), .val (.int p1), .val (.int p2), .val (.int p3), .val (.ref b188), .val (.ref b192), .val (.ref b199), .unset, .unset, .unset, .unset, .unset, .unset, .unset] [(.int (1 : Int32)), (.ref b212), (.ref b212)])) (fun _ k => XS.iconst X219.here hx rfl (hb hby at_55) k) ?_
  refine GoS.of (T' := T219) (f' := (mkF m 57 #[.val (.int p0), .val (.int p1), .val (.int p2), .val (.int p3), .val (.ref b188), .val (.ref b192), .val (.ref b199), .unset, .unset, .unset, .unset, .unset, .unset, .unset] [(.int p1), (.int (1 : Int32)), (.ref b212), (.ref b212)])) (fun _ k => XS.iloadN X219.here hx rfl (hb hby at_56) rfl k) ?_
  refine GoS.of (T' := T219) (f' := (mkF m 60 #[.val (.int p0), .val (.int p1), .val (.int p2), .val (.int p3), .val (.ref b188), .val (.ref b192), .val (.ref b199), .unset, .unset, .unset, .unset, .unset, .unset, .unset] [(.int (255 : Int32)), (.int p1), (.int (1 : Int32)), (.ref b212), (.ref b212)])) (fun _ k => XS.sipush X219.here hx rfl (hb hby at_57) k) ?_
  refine GoS.of (T' := T219) (f' := (mkF m 61 #[.val (.int p0), .val (.int p1), .val (.int p2), .val (.int p3), .val (.ref b188), .val (.ref b192), .val (.ref b199), .unset, .unset, .unset, .unset, .unset, .unset, .unset] [(.int (p1 &&& (255 : Int32))), (.int (1 : Int32)), (.ref b212), (.ref b212)])) (fun _ k => XS.iand X219.here hx rfl (hb hby at_60) rfl k) ?_
  refine GoS.of (T' := T219) (f' := (mkF m 62 #[.val (.int p0), .val (.int p1), .val (.int p2), .val (.int p3), .val (.ref b188), .val (.ref b192), .val (.ref b199), .unset, .unset, .unset, .unset, .unset, .unset, .unset] [(.int ((p1 &&& (255 : Int32)).toUInt32.toUInt16.toUInt32.toInt32)), (.int (1 : Int32)), (.ref b212), (.ref b212)])) (fun _ k => XS.i2c X219.here hx rfl (hb hby at_61) rfl k) ?_
  obtain ⟨cl222, Ar222, qk222, S222, Ng222, H222, G222⟩ := id f219
  obtain ⟨T222, h222, X222, e222, W222, st222⟩ := stC X219 hx hZ e219 Ar222 (j := (1 : Int32)) (inb_of S222 ⟨by decide, by decide⟩) (g := (mkF m 62 #[.val (.int p0), .val (.int p1), .val (.int p2), .val (.int p3), .val (.ref b188), .val (.ref b192), .val (.ref b199), .unset, .unset, .unset, .unset, .unset, .unset, .unset] [(.int ((p1 &&& (255 : Int32)).toUInt32.toUInt16.toUInt32.toInt32)), (.int (1 : Int32)), (.ref b212), (.ref b212)])) rfl rfl (hb hby at_62)
  have W222 : Wr h219 h222 b212 ((1 : Int32)).toNatClampNeg (.int (p1 &&& (255 : Int32))) := Eq.mp (congrArg (fun z => Wr h219 h222 b212 ((1 : Int32)).toNatClampNeg (Value.int z)) (own_c255 p1)) W222
  have f224 : Exa Z h219 b212 "[C" := (Exa.wr W219 A212)
  have O225 := Old0.wr O221 W222 g_b212
  have K225 := Keep.wr K221 W222 (Or.inr z_b212)
  have C223 := CHr.trans C220 (CHr.wr W222 (Safe.exa hZ.alike f224 (by decide) (by decide)) C220.1)
  have hk := Nat.le_trans hk (Keep.of_wr W222).1
  have f222 : Arv Z h222 b212 k212 .char (3 : Int32) [(.int (p0 &&& (255 : Int32))), (.int (p1 &&& (255 : Int32))), (.int (0 : Int32))] (.int (0 : Int32)) := Arv.set Ar222 qk222 S222 Ng222 H222 G222 (v := (.int (p1 &&& (255 : Int32)))) (own_f255 p1) W222 1 rfl (Nat.le_of_ble_eq_true rfl)
  have N222 := Fr.snoc X222 N219 g_b212
  refine GoS.of (T' := T222) (f' := (mkF m 63 #[.val (.int p0), .val (.int p1), .val (.int p2), .val (.int p3), .val (.ref b188), .val (.ref b192), .val (.ref b199), .unset, .unset, .unset, .unset, .unset, .unset, .unset] [(.ref b212)])) (fun _ k => st222 _ k) ?_
  refine GoS.of (T' := T222) (f' := (mkF m 64 #[.val (.int p0), .val (.int p1), .val (.int p2), .val (.int p3), .val (.ref b188), .val (.ref b192), .val (.ref b199), .unset, .unset, .unset, .unset, .unset, .unset, .unset] [(.ref b212), (.ref b212)])) (fun _ k => XS.dup X222.here hx rfl (hb hby at_63) rfl rfl k) ?_
  refine GoS.of (T' := T222) (f' := (mkF m 65 #[.val (.int p0), .val (.int p1), .val (.int p2), .val (.int p3), .val (.ref b188), .val (.ref b192), .val (.ref b199), .unset, .unset, .unset, .unset, .unset, .unset, .unset] [(.int (2 : Int32)), (.ref b212), (.ref b212)])) (fun _ k => XS.iconst X222.here hx rfl (hb hby at_64) k) ?_
  refine GoS.of (T' := T222) (f' := (mkF m 66 #[.val (.int p0), .val (.int p1), .val (.int p2), .val (.int p3), .val (.ref b188), .val (.ref b192), .val (.ref b199), .unset, .unset, .unset, .unset, .unset, .unset, .unset] [(.int p2), (.int (2 : Int32)), (.ref b212), (.ref b212)])) (fun _ k => XS.iloadN X222.here hx rfl (hb hby at_65) rfl k) ?_
  refine GoS.of (T' := T222) (f' := (mkF m 69 #[.val (.int p0), .val (.int p1), .val (.int p2), .val (.int p3), .val (.ref b188), .val (.ref b192), .val (.ref b199), .unset, .unset, .unset, .unset, .unset, .unset, .unset] [(.int (255 : Int32)), (.int p2), (.int (2 : Int32)), (.ref b212), (.ref b212)])) (fun _ k => XS.sipush X222.here hx rfl (hb hby at_66) k) ?_
  refine GoS.of (T' := T222) (f' := (mkF m 70 #[.val (.int p0), .val (.int p1), .val (.int p2), .val (.int p3), .val (.ref b188), .val (.ref b192), .val (.ref b199), .unset, .unset, .unset, .unset, .unset, .unset, .unset] [(.int (p2 &&& (255 : Int32))), (.int (2 : Int32)), (.ref b212), (.ref b212)])) (fun _ k => XS.iand X222.here hx rfl (hb hby at_69) rfl k) ?_
  refine GoS.of (T' := T222) (f' := (mkF m 71 #[.val (.int p0), .val (.int p1), .val (.int p2), .val (.int p3), .val (.ref b188), .val (.ref b192), .val (.ref b199), .unset, .unset, .unset, .unset, .unset, .unset, .unset] [(.int ((p2 &&& (255 : Int32)).toUInt32.toUInt16.toUInt32.toInt32)), (.int (2 : Int32)), (.ref b212), (.ref b212)])) (fun _ k => XS.i2c X222.here hx rfl (hb hby at_70) rfl k) ?_
  obtain ⟨cl226, Ar226, qk226, S226, Ng226, H226, G226⟩ := id f222
  obtain ⟨T226, h226, X226, e226, W226, st226⟩ := stC X222 hx hZ e222 Ar226 (j := (2 : Int32)) (inb_of S226 ⟨by decide, by decide⟩) (g := (mkF m 71 #[.val (.int p0), .val (.int p1), .val (.int p2), .val (.int p3), .val (.ref b188), .val (.ref b192), .val (.ref b199), .unset, .unset, .unset, .unset, .unset, .unset, .unset] [(.int ((p2 &&& (255 : Int32)).toUInt32.toUInt16.toUInt32.toInt32)), (.int (2 : Int32)), (.ref b212), (.ref b212)])) rfl rfl (hb hby at_71)
  have W226 : Wr h222 h226 b212 ((2 : Int32)).toNatClampNeg (.int (p2 &&& (255 : Int32))) := Eq.mp (congrArg (fun z => Wr h222 h226 b212 ((2 : Int32)).toNatClampNeg (Value.int z)) (own_c255 p2)) W226
  have f228 : Exa Z h222 b212 "[C" := (Exa.wr W222 f224)
  have O229 := Old0.wr O225 W226 g_b212
  have K229 := Keep.wr K225 W226 (Or.inr z_b212)
  have C227 := CHr.trans C223 (CHr.wr W226 (Safe.exa hZ.alike f228 (by decide) (by decide)) C223.1)
  have hk := Nat.le_trans hk (Keep.of_wr W226).1
  have f226 : Arv Z h226 b212 k212 .char (3 : Int32) [(.int (p0 &&& (255 : Int32))), (.int (p1 &&& (255 : Int32))), (.int (p2 &&& (255 : Int32)))] (.int (0 : Int32)) := Arv.set Ar226 qk226 S226 Ng226 H226 G226 (v := (.int (p2 &&& (255 : Int32)))) (own_f255 p2) W226 2 rfl (Nat.le_of_ble_eq_true rfl)
  have N226 := Fr.snoc X226 N222 g_b212
  refine GoS.of (T' := T226) (f' := (mkF m 72 #[.val (.int p0), .val (.int p1), .val (.int p2), .val (.int p3), .val (.ref b188), .val (.ref b192), .val (.ref b199), .unset, .unset, .unset, .unset, .unset, .unset, .unset] [(.ref b212)])) (fun _ k => st226 _ k) ?_
  refine GoS.of (T' := T226) (f' := (mkF m 74 #[.val (.int p0), .val (.int p1), .val (.int p2), .val (.int p3), .val (.ref b188), .val (.ref b192), .val (.ref b199), .val (.ref b212), .unset, .unset, .unset, .unset, .unset, .unset] [])) (fun _ k => XS.astore X226.here hx rfl (hb hby at_72) rfl rfl (l' := #[.val (.int p0), .val (.int p1), .val (.int p2), .val (.int p3), .val (.ref b188), .val (.ref b192), .val (.ref b199), .val (.ref b212), .unset, .unset, .unset, .unset, .unset, .unset]) rfl k) ?_
  refine GoS.of (T' := T226) (f' := (mkF m 75 #[.val (.int p0), .val (.int p1), .val (.int p2), .val (.int p3), .val (.ref b188), .val (.ref b192), .val (.ref b199), .val (.ref b212), .unset, .unset, .unset, .unset, .unset, .unset] [(.int p3)])) (fun _ k => XS.iloadN X226.here hx rfl (hb hby at_74) rfl k) ?_
  refine GoS.of (T' := T226) (f' := (mkF m 77 #[.val (.int p0), .val (.int p1), .val (.int p2), .val (.int p3), .val (.ref b188), .val (.ref b192), .val (.ref b199), .val (.ref b212), .unset, .unset, .unset, .unset, .unset, .unset] [(.int (7 : Int32)), (.int p3)])) (fun _ k => XS.bipush X226.here hx rfl (hb hby at_75) k) ?_
  refine GoS.of (T' := T226) (f' := (mkF m 78 #[.val (.int p0), .val (.int p1), .val (.int p2), .val (.int p3), .val (.ref b188), .val (.ref b192), .val (.ref b199), .val (.ref b212), .unset, .unset, .unset, .unset, .unset, .unset] [(.int (p3 &&& (7 : Int32)))])) (fun _ k => XS.iand X226.here hx rfl (hb hby at_77) rfl k) ?_
  refine GoS.of (T' := T226) (f' := (mkF m 80 #[.val (.int p0), .val (.int p1), .val (.int p2), .val (.int p3), .val (.ref b188), .val (.ref b192), .val (.ref b199), .val (.ref b212), .val (.int (p3 &&& (7 : Int32))), .unset, .unset, .unset, .unset, .unset] [])) (fun _ k => XS.istore X226.here hx rfl (hb hby at_78) rfl (l' := #[.val (.int p0), .val (.int p1), .val (.int p2), .val (.int p3), .val (.ref b188), .val (.ref b192), .val (.ref b199), .val (.ref b212), .val (.int (p3 &&& (7 : Int32))), .unset, .unset, .unset, .unset, .unset]) rfl k) ?_
  refine GoS.of (T' := T226) (f' := (mkF m 82 #[.val (.int p0), .val (.int p1), .val (.int p2), .val (.int p3), .val (.ref b188), .val (.ref b192), .val (.ref b199), .val (.ref b212), .val (.int (p3 &&& (7 : Int32))), .unset, .unset, .unset, .unset, .unset] [(.int (p3 &&& (7 : Int32)))])) (fun _ k => XS.iload X226.here hx rfl (hb hby at_80) rfl k) ?_
  refine GoS.of (T' := T226) (f' := (mkF m 83 #[.val (.int p0), .val (.int p1), .val (.int p2), .val (.int p3), .val (.ref b188), .val (.ref b192), .val (.ref b199), .val (.ref b212), .val (.int (p3 &&& (7 : Int32))), .unset, .unset, .unset, .unset, .unset] [(.int (4 : Int32)), (.int (p3 &&& (7 : Int32)))])) (fun _ k => XS.iconst X226.here hx rfl (hb hby at_82) k) ?_
  by_cases hc230 : (p3 &&& (7 : Int32)) = (4 : Int32)
  · skip
    refine GoS.of (T' := T226) (f' := (mkF m 86 #[.val (.int p0), .val (.int p1), .val (.int p2), .val (.int p3), .val (.ref b188), .val (.ref b192), .val (.ref b199), .val (.ref b212), .val (.int (p3 &&& (7 : Int32))), .unset, .unset, .unset, .unset, .unset] [])) (fun _ k => XS.icmpNo X226.here hx rfl (hb hby at_83) rfl (teq hc230).2 k) ?_
    refine GoS.of (T' := T226) (f' := (mkF m 87 #[.val (.int p0), .val (.int p1), .val (.int p2), .val (.int p3), .val (.ref b188), .val (.ref b192), .val (.ref b199), .val (.ref b212), .val (.int (p3 &&& (7 : Int32))), .unset, .unset, .unset, .unset, .unset] [.null])) (fun _ k => XS.aconstNull X226.here hx rfl (hb hby at_86) k) ?_
    refine GoS.of (T' := T226) (f' := (mkF m 89 #[.val (.int p0), .val (.int p1), .val (.int p2), .val (.int p3), .val (.ref b188), .val (.ref b192), .val (.ref b199), .val (.ref b212), .val (.int (p3 &&& (7 : Int32))), .val .null, .unset, .unset, .unset, .unset] [])) (fun _ k => XS.astore X226.here hx rfl (hb hby at_87) rfl rfl (l' := #[.val (.int p0), .val (.int p1), .val (.int p2), .val (.int p3), .val (.ref b188), .val (.ref b192), .val (.ref b199), .val (.ref b212), .val (.int (p3 &&& (7 : Int32))), .val .null, .unset, .unset, .unset, .unset]) rfl k) ?_
    refine GoS.of (T' := T226) (f' := (mkF m 162 #[.val (.int p0), .val (.int p1), .val (.int p2), .val (.int p3), .val (.ref b188), .val (.ref b192), .val (.ref b199), .val (.ref b212), .val (.int (p3 &&& (7 : Int32))), .val .null, .unset, .unset, .unset, .unset] [])) (fun _ k => XS.goto X226.here hx rfl (pc0 := 89) (pc' := 162) rfl (hb hby at_89) (by decide) (by decide) k) ?_
    refine GoS.of (T' := T226) (f' := (mkF m 164 #[.val (.int p0), .val (.int p1), .val (.int p2), .val (.int p3), .val (.ref b188), .val (.ref b192), .val (.ref b199), .val (.ref b212), .val (.int (p3 &&& (7 : Int32))), .val .null, .unset, .unset, .unset, .unset] [.null])) (fun _ k => XS.aload X226.here hx rfl (hb hby at_162) rfl rfl k) ?_
    have f232 : Exa Z h226 b188 "[C" := (Exa.wr W226 (Exa.wr W222 (Exa.wr W219 (Exa.ext E212 f213))))
    have f233 : Exa Z h226 b192 "[C" := (Exa.wr W226 (Exa.wr W222 (Exa.wr W219 (Exa.ext E212 f214))))
    have f234 : Exa Z h226 b199 "[C" := (Exa.wr W226 (Exa.wr W222 (Exa.wr W219 (Exa.ext E212 f215))))
    have f235 : Exa Z h226 b212 "[C" := (Exa.wr W226 f228)
    obtain ⟨T231, v231, L231, X231, q231, st231⟩ := callSt X226 hx hZ (y := (⟨"com/example/sealwright/sealwright/Arguments$Option", "flag", "(Ljava/lang/String;)Lcom/example/sealwright/sealwright/Arguments$Option;"⟩ : MethodName)) hown (hw _ (List.mem_of_getElem? (i := 30) rfl)) (hw _ (List.mem_of_getElem? (i := 31) rfl)) (hw _ (List.mem_of_getElem? (i := 32) rfl)) (hw _ (List.mem_of_getElem? (i := 33) rfl)) (by decide) (rm_flag_n hw G   h226 O229 ) e226 (W := 0) (by decide) (by decide) (by decide) (by decide) (g := (mkF m 164 #[.val (.int p0), .val (.int p1), .val (.int p2), .val (.int p3), .val (.ref b188), .val (.ref b192), .val (.ref b199), .val (.ref b212), .val (.int (p3 &&& (7 : Int32))), .val .null, .unset, .unset, .unset, .unset] [.null])) rfl (by rw [hml]; rfl) (argsL := [.null]) (rest := []) (lenOf pd__Ljava_lang_String__Lcom_example_sealwright_sealwright_Arguments_Option_ rfl) rfl rfl (by show 2 * 0 + _ ≤ _; exact Nat.le_of_eq rfl) (hb hby at_164)
    obtain ⟨ob_231, rfl, N231q, K231q, p231_0, p231_1, p231_2, p231_3⟩ := q231
    have N231 := Fr.app N226 N231q
    have O237 := Old0.keep O229 K231q all0
    have K237 := Keep.trans K229 K231q all0
    have C236 := CHr.trans C227 (CHr.keep K231q sf0 C227.1)
    have hk := Nat.le_trans hk K231q.1
    have z_ob_231 : h0.size ≤ ob_231 := Nat.le_trans K229.1 p231_0
    have g_ob_231 : Z.heap.size ≤ ob_231 := Nat.le_trans O229.1 p231_0
    have ne_b188_ob_231 : b188 ≠ ob_231 := Nat.ne_of_lt (Nat.lt_of_lt_of_le f232.lt p231_0)
    have ne_b192_ob_231 : b192 ≠ ob_231 := Nat.ne_of_lt (Nat.lt_of_lt_of_le f233.lt p231_0)
    have ne_b199_ob_231 : b199 ≠ ob_231 := Nat.ne_of_lt (Nat.lt_of_lt_of_le f234.lt p231_0)
    have ne_b212_ob_231 : b212 ≠ ob_231 := Nat.ne_of_lt (Nat.lt_of_lt_of_le f235.lt p231_0)
    refine GoS.of (T' := T231) (f' := (mkF m 167 #[.val (.int p0), .val (.int p1), .val (.int p2), .val (.int p3), .val (.ref b188), .val (.ref b192), .val (.ref b199), .val (.ref b212), .val (.int (p3 &&& (7 : Int32))), .val .null, .unset, .unset, .unset, .unset] [(.ref ob_231)])) (fun _ k => st231 _ k) ?_
    refine GoS.of (T' := T231) (f' := (mkF m 169 #[.val (.int p0), .val (.int p1), .val (.int p2), .val (.int p3), .val (.ref b188), .val (.ref b192), .val (.ref b199), .val (.ref b212), .val (.int (p3 &&& (7 : Int32))), .val .null, .val (.ref ob_231), .unset, .unset, .unset] [])) (fun _ k => XS.astore X231.here hx rfl (hb hby at_167) rfl rfl (l' := #[.val (.int p0), .val (.int p1), .val (.int p2), .val (.int p3), .val (.ref b188), .val (.ref b192), .val (.ref b199), .val (.ref b212), .val (.int (p3 &&& (7 : Int32))), .val .null, .val (.ref ob_231), .unset, .unset, .unset]) rfl k) ?_
    refine GoS.of (T' := T231) (f' := (mkF m 171 #[.val (.int p0), .val (.int p1), .val (.int p2), .val (.int p3), .val (.ref b188), .val (.ref b192), .val (.ref b199), .val (.ref b212), .val (.int (p3 &&& (7 : Int32))), .val .null, .val (.ref ob_231), .unset, .unset, .unset] [(.ref ob_231)])) (fun _ k => XS.aload X231.here hx rfl (hb hby at_169) rfl rfl k) ?_
    obtain ⟨T238, v238, L238, X238, q238, st238⟩ := callVi X231 hx hZ (y := (⟨"com/example/sealwright/sealwright/Arguments$Option", "name", "()Ljava/lang/String;"⟩ : MethodName)) (z := (⟨"com/example/sealwright/sealwright/Arguments$Option", "name", "()Ljava/lang/String;"⟩ : MethodName)) hown (hw _ (List.mem_of_getElem? (i := 52) rfl)) (hw _ (List.mem_of_getElem? (i := 53) rfl)) (notFace_of_selects (args := #[]) (mvT hZ (hw _ (List.mem_of_getElem? (i := 55) rfl)))) (hw _ (List.mem_of_getElem? (i := 55) rfl)) (hw _ (List.mem_of_getElem? (i := 54) rfl)) (hw _ (List.mem_of_getElem? (i := 56) rfl)) (hw _ (List.mem_of_getElem? (i := 32) rfl)) (by decide) (rm_name_n hw G ob_231  T231.heap O237 p231_2) rfl (W := 0) (by decide) (by decide) (by decide) (by decide) p231_1 (g := (mkF m 171 #[.val (.int p0), .val (.int p1), .val (.int p2), .val (.int p3), .val (.ref b188), .val (.ref b192), .val (.ref b199), .val (.ref b212), .val (.int (p3 &&& (7 : Int32))), .val .null, .val (.ref ob_231), .unset, .unset, .unset] [(.ref ob_231)])) rfl (by rw [hml]; rfl) (argsL := []) (rest := []) (lenOf pd___Ljava_lang_String_ rfl) rfl rfl (by show 2 * 0 + _ ≤ _; exact Nat.le_of_eq rfl) (hb hby at_171)
    obtain ⟨rfl, e238, rfl⟩ := q238
    have N238 := Fr.app N231 (Fr.nil _)
    refine GoS.of (T' := T238) (f' := (mkF m 174 #[.val (.int p0), .val (.int p1), .val (.int p2), .val (.int p3), .val (.ref b188), .val (.ref b192), .val (.ref b199), .val (.ref b212), .val (.int (p3 &&& (7 : Int32))), .val .null, .val (.ref ob_231), .unset, .unset, .unset] [.null])) (fun _ k => st238 _ k) ?_
    refine GoS.of (T' := T238) (f' := (mkF m 176 #[.val (.int p0), .val (.int p1), .val (.int p2), .val (.int p3), .val (.ref b188), .val (.ref b192), .val (.ref b199), .val (.ref b212), .val (.int (p3 &&& (7 : Int32))), .val .null, .val (.ref ob_231), .val .null, .unset, .unset] [])) (fun _ k => XS.astore X238.here hx rfl (hb hby at_174) rfl rfl (l' := #[.val (.int p0), .val (.int p1), .val (.int p2), .val (.int p3), .val (.ref b188), .val (.ref b192), .val (.ref b199), .val (.ref b212), .val (.int (p3 &&& (7 : Int32))), .val .null, .val (.ref ob_231), .val .null, .unset, .unset]) rfl k) ?_
    refine GoS.of (T' := T238) (f' := (mkF m 178 #[.val (.int p0), .val (.int p1), .val (.int p2), .val (.int p3), .val (.ref b188), .val (.ref b192), .val (.ref b199), .val (.ref b212), .val (.int (p3 &&& (7 : Int32))), .val .null, .val (.ref ob_231), .val .null, .unset, .unset] [.null])) (fun _ k => XS.aload X238.here hx rfl (hb hby at_176) rfl rfl k) ?_
    refine GoS.of (T' := T238) (f' := (mkF m 180 #[.val (.int p0), .val (.int p1), .val (.int p2), .val (.int p3), .val (.ref b188), .val (.ref b192), .val (.ref b199), .val (.ref b212), .val (.int (p3 &&& (7 : Int32))), .val .null, .val (.ref ob_231), .val .null, .unset, .unset] [.null, .null])) (fun _ k => XS.aload X238.here hx rfl (hb hby at_178) rfl rfl k) ?_
    refine GoS.of (T' := T238) (f' := (mkF m 183 #[.val (.int p0), .val (.int p1), .val (.int p2), .val (.int p3), .val (.ref b188), .val (.ref b192), .val (.ref b199), .val (.ref b212), .val (.int (p3 &&& (7 : Int32))), .val .null, .val (.ref ob_231), .val .null, .unset, .unset] [])) (fun _ k => Jvm.RoadKit.acmp (g := (mkF m 180 #[.val (.int p0), .val (.int p1), .val (.int p2), .val (.int p3), .val (.ref b188), .val (.ref b192), .val (.ref b199), .val (.ref b212), .val (.int (p3 &&& (7 : Int32))), .val .null, .val (.ref ob_231), .val .null, .unset, .unset] [.null, .null])) X238 hx rfl rfl rfl (pc0 := 180) (pc' := 183) (same := true) rfl (hb hby at_180) rfl (decide_eq_true rfl) (by decide) (by decide) k) ?_
    refine GoS.of (T' := T238) (f' := (mkF m 184 #[.val (.int p0), .val (.int p1), .val (.int p2), .val (.int p3), .val (.ref b188), .val (.ref b192), .val (.ref b199), .val (.ref b212), .val (.int (p3 &&& (7 : Int32))), .val .null, .val (.ref ob_231), .val .null, .unset, .unset] [(.int (1 : Int32))])) (fun _ k => XS.iconst X238.here hx rfl (hb hby at_183) k) ?_
    refine GoS.of (T' := T238) (f' := (mkF m 188 #[.val (.int p0), .val (.int p1), .val (.int p2), .val (.int p3), .val (.ref b188), .val (.ref b192), .val (.ref b199), .val (.ref b212), .val (.int (p3 &&& (7 : Int32))), .val .null, .val (.ref ob_231), .val .null, .unset, .unset] [(.int (1 : Int32))])) (fun _ k => XS.goto X238.here hx rfl (pc0 := 184) (pc' := 188) rfl (hb hby at_184) (by decide) (by decide) k) ?_
    refine GoS.of (T' := T238) (f' := (mkF m 190 #[.val (.int p0), .val (.int p1), .val (.int p2), .val (.int p3), .val (.ref b188), .val (.ref b192), .val (.ref b199), .val (.ref b212), .val (.int (p3 &&& (7 : Int32))), .val .null, .val (.ref ob_231), .val .null, .val (.int (1 : Int32)), .unset] [])) (fun _ k => XS.istore X238.here hx rfl (hb hby at_188) rfl (l' := #[.val (.int p0), .val (.int p1), .val (.int p2), .val (.int p3), .val (.ref b188), .val (.ref b192), .val (.ref b199), .val (.ref b212), .val (.int (p3 &&& (7 : Int32))), .val .null, .val (.ref ob_231), .val .null, .val (.int (1 : Int32)), .unset]) rfl k) ?_
    refine GoS.of (T' := T238) (f' := (mkF m 192 #[.val (.int p0), .val (.int p1), .val (.int p2), .val (.int p3), .val (.ref b188), .val (.ref b192), .val (.ref b199), .val (.ref b212), .val (.int (p3 &&& (7 : Int32))), .val .null, .val (.ref ob_231), .val .null, .val (.int (1 : Int32)), .unset] [.null])) (fun _ k => XS.aload X238.here hx rfl (hb hby at_190) rfl rfl k) ?_
    refine GoS.of (T' := T238) (f' := (mkF m 195 #[.val (.int p0), .val (.int p1), .val (.int p2), .val (.int p3), .val (.ref b188), .val (.ref b192), .val (.ref b199), .val (.ref b212), .val (.int (p3 &&& (7 : Int32))), .val .null, .val (.ref ob_231), .val .null, .val (.int (1 : Int32)), .unset] [])) (fun _ k => XS.ifnonnullNo X238.here hx rfl (hb hby at_192) rfl k) ?_
    refine GoS.of (T' := T238) (f' := (mkF m 197 #[.val (.int p0), .val (.int p1), .val (.int p2), .val (.int p3), .val (.ref b188), .val (.ref b192), .val (.ref b199), .val (.ref b212), .val (.int (p3 &&& (7 : Int32))), .val .null, .val (.ref ob_231), .val .null, .val (.int (1 : Int32)), .unset] [.null])) (fun _ k => XS.aload X238.here hx rfl (hb hby at_195) rfl rfl k) ?_
    refine GoS.of (T' := T238) (f' := (mkF m 200 #[.val (.int p0), .val (.int p1), .val (.int p2), .val (.int p3), .val (.ref b188), .val (.ref b192), .val (.ref b199), .val (.ref b212), .val (.int (p3 &&& (7 : Int32))), .val .null, .val (.ref ob_231), .val .null, .val (.int (1 : Int32)), .unset] [])) (fun _ k => XS.ifnonnullNo X238.here hx rfl (hb hby at_197) rfl k) ?_
    refine GoS.of (T' := T238) (f' := (mkF m 201 #[.val (.int p0), .val (.int p1), .val (.int p2), .val (.int p3), .val (.ref b188), .val (.ref b192), .val (.ref b199), .val (.ref b212), .val (.int (p3 &&& (7 : Int32))), .val .null, .val (.ref ob_231), .val .null, .val (.int (1 : Int32)), .unset] [(.int (1 : Int32))])) (fun _ k => XS.iconst X238.here hx rfl (hb hby at_200) k) ?_
    refine GoS.of (T' := T238) (f' := (mkF m 215 #[.val (.int p0), .val (.int p1), .val (.int p2), .val (.int p3), .val (.ref b188), .val (.ref b192), .val (.ref b199), .val (.ref b212), .val (.int (p3 &&& (7 : Int32))), .val .null, .val (.ref ob_231), .val .null, .val (.int (1 : Int32)), .unset] [(.int (1 : Int32))])) (fun _ k => XS.goto X238.here hx rfl (pc0 := 201) (pc' := 215) rfl (hb hby at_201) (by decide) (by decide) k) ?_
    refine GoS.of (T' := T238) (f' := (mkF m 217 #[.val (.int p0), .val (.int p1), .val (.int p2), .val (.int p3), .val (.ref b188), .val (.ref b192), .val (.ref b199), .val (.ref b212), .val (.int (p3 &&& (7 : Int32))), .val .null, .val (.ref ob_231), .val .null, .val (.int (1 : Int32)), .val (.int (1 : Int32))] [])) (fun _ k => XS.istore X238.here hx rfl (hb hby at_215) rfl (l' := #[.val (.int p0), .val (.int p1), .val (.int p2), .val (.int p3), .val (.ref b188), .val (.ref b192), .val (.ref b199), .val (.ref b212), .val (.int (p3 &&& (7 : Int32))), .val .null, .val (.ref ob_231), .val .null, .val (.int (1 : Int32)), .val (.int (1 : Int32))]) rfl k) ?_
    refine GoS.of (T' := T238) (f' := (mkF m 219 #[.val (.int p0), .val (.int p1), .val (.int p2), .val (.int p3), .val (.ref b188), .val (.ref b192), .val (.ref b199), .val (.ref b212), .val (.int (p3 &&& (7 : Int32))), .val .null, .val (.ref ob_231), .val .null, .val (.int (1 : Int32)), .val (.int (1 : Int32))] [(.int (1 : Int32))])) (fun _ k => XS.iload X238.here hx rfl (hb hby at_217) rfl k) ?_
    refine GoS.of (T' := T238) (f' := (mkF m 222 #[.val (.int p0), .val (.int p1), .val (.int p2), .val (.int p3), .val (.ref b188), .val (.ref b192), .val (.ref b199), .val (.ref b212), .val (.int (p3 &&& (7 : Int32))), .val .null, .val (.ref ob_231), .val .null, .val (.int (1 : Int32)), .val (.int (1 : Int32))] [])) (fun _ k => XS.ifNo X238.here hx rfl (hb hby at_219) rfl ((if0 _ _).trans (feq (by decide : ¬ ((1 : Int32) = (0 : Int32)))).1) k) ?_
    refine GoS.of (T' := T238) (f' := (mkF m 224 #[.val (.int p0), .val (.int p1), .val (.int p2), .val (.int p3), .val (.ref b188), .val (.ref b192), .val (.ref b199), .val (.ref b212), .val (.int (p3 &&& (7 : Int32))), .val .null, .val (.ref ob_231), .val .null, .val (.int (1 : Int32)), .val (.int (1 : Int32))] [(.int (1 : Int32))])) (fun _ k => XS.iload X238.here hx rfl (hb hby at_222) rfl k) ?_
    refine GoS.of (T' := T238) (f' := (mkF m 227 #[.val (.int p0), .val (.int p1), .val (.int p2), .val (.int p3), .val (.ref b188), .val (.ref b192), .val (.ref b199), .val (.ref b212), .val (.int (p3 &&& (7 : Int32))), .val .null, .val (.ref ob_231), .val .null, .val (.int (1 : Int32)), .val (.int (1 : Int32))] [])) (fun _ k => XS.ifNo X238.here hx rfl (hb hby at_224) rfl ((if0 _ _).trans (feq (by decide : ¬ ((1 : Int32) = (0 : Int32)))).1) k) ?_
    refine GoS.of (T' := T238) (f' := (mkF m 229 #[.val (.int p0), .val (.int p1), .val (.int p2), .val (.int p3), .val (.ref b188), .val (.ref b192), .val (.ref b199), .val (.ref b212), .val (.int (p3 &&& (7 : Int32))), .val .null, .val (.ref ob_231), .val .null, .val (.int (1 : Int32)), .val (.int (1 : Int32))] [(.ref ob_231)])) (fun _ k => XS.aload X238.here hx rfl (hb hby at_227) rfl rfl k) ?_
    obtain ⟨T242, v242, L242, X242, q242, st242⟩ := callVi X238 hx hZ (y := (⟨"com/example/sealwright/sealwright/Arguments$Option", "kind", "()Lcom/example/sealwright/sealwright/Arguments$Kind;"⟩ : MethodName)) (z := (⟨"com/example/sealwright/sealwright/Arguments$Option", "kind", "()Lcom/example/sealwright/sealwright/Arguments$Kind;"⟩ : MethodName)) hown (hw _ (List.mem_of_getElem? (i := 62) rfl)) (hw _ (List.mem_of_getElem? (i := 63) rfl)) (notFace_of_selects (args := #[]) (mvT hZ (hw _ (List.mem_of_getElem? (i := 65) rfl)))) (hw _ (List.mem_of_getElem? (i := 65) rfl)) (hw _ (List.mem_of_getElem? (i := 64) rfl)) (hw _ (List.mem_of_getElem? (i := 66) rfl)) (hw _ (List.mem_of_getElem? (i := 32) rfl)) (by decide) (rm_kind hw G ob_231  T231.heap O237 p231_3) e238 (W := 0) (by decide) (by decide) (by decide) (by decide) p231_1 (g := (mkF m 229 #[.val (.int p0), .val (.int p1), .val (.int p2), .val (.int p3), .val (.ref b188), .val (.ref b192), .val (.ref b199), .val (.ref b212), .val (.int (p3 &&& (7 : Int32))), .val .null, .val (.ref ob_231), .val .null, .val (.int (1 : Int32)), .val (.int (1 : Int32))] [(.ref ob_231)])) rfl (by rw [hml]; rfl) (argsL := []) (rest := []) (lenOf pd___Lcom_example_sealwright_sealwright_Arguments_Kind_ rfl) rfl rfl (by show 2 * 0 + _ ≤ _; exact Nat.le_of_eq rfl) (hb hby at_229)
    obtain ⟨rfl, e242, rfl⟩ := q242
    have N242 := Fr.app N238 (Fr.nil _)
    refine GoS.of (T' := T242) (f' := (mkF m 232 #[.val (.int p0), .val (.int p1), .val (.int p2), .val (.int p3), .val (.ref b188), .val (.ref b192), .val (.ref b199), .val (.ref b212), .val (.int (p3 &&& (7 : Int32))), .val .null, .val (.ref ob_231), .val .null, .val (.int (1 : Int32)), .val (.int (1 : Int32))] [(.ref s_FLAG)])) (fun _ k => st242 _ k) ?_
    obtain ⟨T243, X243, e243, st243⟩ := getS2 X242 hx hZ hown (host := "") (Or.inl (hw _ (List.mem_of_getElem? (i := 67) rfl))) Via.refl e242 (Sta.ext O237 S_FLAG) (g := (mkF m 232 #[.val (.int p0), .val (.int p1), .val (.int p2), .val (.int p3), .val (.ref b188), .val (.ref b192), .val (.ref b199), .val (.ref b212), .val (.int (p3 &&& (7 : Int32))), .val .null, .val (.ref ob_231), .val .null, .val (.int (1 : Int32)), .val (.int (1 : Int32))] [(.ref s_FLAG)])) rfl (hb hby at_232)
    refine GoS.of (T' := T243) (f' := (mkF m 235 #[.val (.int p0), .val (.int p1), .val (.int p2), .val (.int p3), .val (.ref b188), .val (.ref b192), .val (.ref b199), .val (.ref b212), .val (.int (p3 &&& (7 : Int32))), .val .null, .val (.ref ob_231), .val .null, .val (.int (1 : Int32)), .val (.int (1 : Int32))] [(.ref s_FLAG), (.ref s_FLAG)])) (fun _ k => st243 _ k) ?_
    refine GoS.of (T' := T243) (f' := (mkF m 238 #[.val (.int p0), .val (.int p1), .val (.int p2), .val (.int p3), .val (.ref b188), .val (.ref b192), .val (.ref b199), .val (.ref b212), .val (.int (p3 &&& (7 : Int32))), .val .null, .val (.ref ob_231), .val .null, .val (.int (1 : Int32)), .val (.int (1 : Int32))] [])) (fun _ k => Jvm.RoadKit.acmp (g := (mkF m 235 #[.val (.int p0), .val (.int p1), .val (.int p2), .val (.int p3), .val (.ref b188), .val (.ref b192), .val (.ref b199), .val (.ref b212), .val (.int (p3 &&& (7 : Int32))), .val .null, .val (.ref ob_231), .val .null, .val (.int (1 : Int32)), .val (.int (1 : Int32))] [(.ref s_FLAG), (.ref s_FLAG)])) X243 hx rfl rfl rfl (pc0 := 235) (pc' := 238) (same := true) rfl (hb hby at_235) rfl (decide_eq_true rfl) (by decide) (by decide) k) ?_
    refine GoS.of (T' := T243) (f' := (mkF m 239 #[.val (.int p0), .val (.int p1), .val (.int p2), .val (.int p3), .val (.ref b188), .val (.ref b192), .val (.ref b199), .val (.ref b212), .val (.int (p3 &&& (7 : Int32))), .val .null, .val (.ref ob_231), .val .null, .val (.int (1 : Int32)), .val (.int (1 : Int32))] [(.int (1 : Int32))])) (fun _ k => XS.iconst X243.here hx rfl (hb hby at_238) k) ?_
    refine GoS.of (T' := T243) (f' := (mkF m 243 #[.val (.int p0), .val (.int p1), .val (.int p2), .val (.int p3), .val (.ref b188), .val (.ref b192), .val (.ref b199), .val (.ref b212), .val (.int (p3 &&& (7 : Int32))), .val .null, .val (.ref ob_231), .val .null, .val (.int (1 : Int32)), .val (.int (1 : Int32))] [(.int (1 : Int32))])) (fun _ k => XS.goto X243.here hx rfl (pc0 := 239) (pc' := 243) rfl (hb hby at_239) (by decide) (by decide) k) ?_
    exact GoS.retB X243 hx hlk hS hk hZ hEL C236 e243 hret (by simp) (hb hby at_243) (by decide) (by decide) (z' := (1 : Int32)) rfl (by rw [e243]; exact ⟨rfl, N242, K237⟩)
  · skip
    refine GoS.of (T' := T226) (f' := (mkF m 92 #[.val (.int p0), .val (.int p1), .val (.int p2), .val (.int p3), .val (.ref b188), .val (.ref b192), .val (.ref b199), .val (.ref b212), .val (.int (p3 &&& (7 : Int32))), .unset, .unset, .unset, .unset, .unset] [])) (fun _ k => XS.icmpYes X226.here hx rfl (pc0 := 83) (pc' := 92) rfl (hb hby at_83) rfl (feq hc230).2 (by decide) (by decide) k) ?_
    refine GoS.of (T' := T226) (f' := (mkF m 94 #[.val (.int p0), .val (.int p1), .val (.int p2), .val (.int p3), .val (.ref b188), .val (.ref b192), .val (.ref b199), .val (.ref b212), .val (.int (p3 &&& (7 : Int32))), .unset, .unset, .unset, .unset, .unset] [(.int (p3 &&& (7 : Int32)))])) (fun _ k => XS.iload X226.here hx rfl (hb hby at_92) rfl k) ?_
    by_cases hc245 : (p3 &&& (7 : Int32)) = (0 : Int32)
    · skip
      refine GoS.of (T' := T226) (f' := (mkF m 97 #[.val (.int p0), .val (.int p1), .val (.int p2), .val (.int p3), .val (.ref b188), .val (.ref b192), .val (.ref b199), .val (.ref b212), .val (.int (p3 &&& (7 : Int32))), .unset, .unset, .unset, .unset, .unset] [])) (fun _ k => XS.ifNo X226.here hx rfl (hb hby at_94) rfl ((if0 _ _).trans (teq hc245).2) k) ?_
      have f247 : Exa Z h226 b188 "[C" := (Exa.wr W226 (Exa.wr W222 (Exa.wr W219 (Exa.ext E212 f213))))
      have f248 : Exa Z h226 b192 "[C" := (Exa.wr W226 (Exa.wr W222 (Exa.wr W219 (Exa.ext E212 f214))))
      have f249 : Exa Z h226 b199 "[C" := (Exa.wr W226 (Exa.wr W222 (Exa.wr W219 (Exa.ext E212 f215))))
      have f250 : Exa Z h226 b212 "[C" := (Exa.wr W226 f228)
      obtain ⟨T246, h246, b246, q246, X246, e246, E246, A246, D246, st246⟩ := newOb X226 hx hZ hown (hw _ (List.mem_of_getElem? (i := 1) rfl)) (hw _ (List.mem_of_getElem? (i := 2) rfl)) (hw _ (List.mem_of_getElem? (i := 3) rfl)) e226 (g := (mkF m 97 #[.val (.int p0), .val (.int p1), .val (.int p2), .val (.int p3), .val (.ref b188), .val (.ref b192), .val (.ref b199), .val (.ref b212), .val (.int (p3 &&& (7 : Int32))), .unset, .unset, .unset, .unset, .unset] [])) rfl (hb hby at_97) (by decide) (by decide)
      have O252 := Old0.ext O229 E246
      have K252 := Keep.ext K229 E246
      have C251 := CHr.trans C227 (CHr.ext E246 C227.1)
      have hk := Nat.le_trans hk E246.1
      have g_b246 : Z.heap.size ≤ b246 := q246 ▸ O229.1
      have z_b246 : h0.size ≤ b246 := q246 ▸ K229.1
      have ne_b188_b246 : b188 ≠ b246 := q246 ▸ Nat.ne_of_lt f247.lt
      have ne_b192_b246 : b192 ≠ b246 := q246 ▸ Nat.ne_of_lt f248.lt
      have ne_b199_b246 : b199 ≠ b246 := q246 ▸ Nat.ne_of_lt f249.lt
      have ne_b212_b246 : b212 ≠ b246 := q246 ▸ Nat.ne_of_lt f250.lt
      have f253 : Fld Z h246 b246 "java/lang/String" "coder" "B" (.int (0 : Int32)) := D246 (Or.inr (hw _ (List.mem_of_getElem? (i := 27) rfl))) (ty := .byte) (by decide)
      have f254 : Fld Z h246 b246 "java/lang/String" "value" "[B" .null := D246 (Or.inr (hw _ (List.mem_of_getElem? (i := 29) rfl))) (ty := (.array .byte)) (by decide)
      refine GoS.of (T' := T246) (f' := (mkF m 100 #[.val (.int p0), .val (.int p1), .val (.int p2), .val (.int p3), .val (.ref b188), .val (.ref b192), .val (.ref b199), .val (.ref b212), .val (.int (p3 &&& (7 : Int32))), .unset, .unset, .unset, .unset, .unset] [(.ref b246)])) (fun _ k => st246 _ k) ?_
      refine GoS.of (T' := T246) (f' := (mkF m 101 #[.val (.int p0), .val (.int p1), .val (.int p2), .val (.int p3), .val (.ref b188), .val (.ref b192), .val (.ref b199), .val (.ref b212), .val (.int (p3 &&& (7 : Int32))), .unset, .unset, .unset, .unset, .unset] [(.ref b246), (.ref b246)])) (fun _ k => XS.dup X246.here hx rfl (hb hby at_100) rfl rfl k) ?_
      refine GoS.of (T' := T246) (f' := (mkF m 103 #[.val (.int p0), .val (.int p1), .val (.int p2), .val (.int p3), .val (.ref b188), .val (.ref b192), .val (.ref b199), .val (.ref b212), .val (.int (p3 &&& (7 : Int32))), .unset, .unset, .unset, .unset, .unset] [(.ref b188), (.ref b246), (.ref b246)])) (fun _ k => XS.aload X246.here hx rfl (hb hby at_101) rfl rfl k) ?_
      have f256 : Arv Z h246 b188 k188 .char (0 : Int32) [] (.int (0 : Int32)) := (Arv.ext (Arv.other (Arv.other (Arv.other (Arv.ext (Arv.other (Arv.other (Arv.ext (Arv.other (Arv.ext f191 E192) W196 ne_b188_b192) E199) W205 ne_b188_b199) W208 ne_b188_b199) E212) W219 ne_b188_b212) W222 ne_b188_b212) W226 ne_b188_b212) E246)
      obtain ⟨T255, v255, L255, X255, q255, hS, hg255, hZ, hown, Cq255, st255⟩ := callNewS X246 hx hZ (y := (⟨"java/lang/String", "<init>", "([C)V"⟩ : MethodName)) rfl hS hk hEL C251.1 hown (hw _ (List.mem_of_getElem? (i := 4) rfl)) (hw _ (List.mem_of_getElem? (i := 5) rfl)) (hw _ (List.mem_of_getElem? (i := 3) rfl)) (hw _ (List.mem_of_getElem? (i := 6) rfl)) (by decide) (rm_str_0 hw G b246 b188 k188 h246 O252 A246 f254 f253 g_b246 f256) e246 (W := 1) (by decide) (by decide) (by decide) (by decide) (g := (mkF m 103 #[.val (.int p0), .val (.int p1), .val (.int p2), .val (.int p3), .val (.ref b188), .val (.ref b192), .val (.ref b199), .val (.ref b212), .val (.int (p3 &&& (7 : Int32))), .unset, .unset, .unset, .unset, .unset] [(.ref b188), (.ref b246), (.ref b246)])) rfl (by rw [hml]; rfl) (a := b246) (argsL := [(.ref b188)]) (rest := [(.ref b246)]) (lenOf pd___C_V rfl) rfl rfl (by show 2 * 0 + _ ≤ _; exact Nat.le_of_eq rfl) (hb hby at_103)
      obtain ⟨da_255, kd_255, rfl, N255q, K255q, p255_0, p255_1, p255_2⟩ := q255
      have N255 := Fr.app N226 N255q
      have O257 := Old0.keep O252 K255q (allS g_b246 all0)
      have K257 := Keep.trans K252 K255q (allS (Or.inr z_b246) all0)
      have C255 := CHr.trans C251 Cq255
      have hk := Nat.le_refl T255.heap.size
      refine GoS.of (T' := T255) (f' := (mkF m 106 #[.val (.int p0), .val (.int p1), .val (.int p2), .val (.int p3), .val (.ref b188), .val (.ref b192), .val (.ref b199), .val (.ref b212), .val (.int (p3 &&& (7 : Int32))), .unset, .unset, .unset, .unset, .unset] [(.ref b246)])) (fun _ k => st255 _ k) ?_
      refine GoS.of (T' := T255) (f' := (mkF m 108 #[.val (.int p0), .val (.int p1), .val (.int p2), .val (.int p3), .val (.ref b188), .val (.ref b192), .val (.ref b199), .val (.ref b212), .val (.int (p3 &&& (7 : Int32))), .val (.ref b246), .unset, .unset, .unset, .unset] [])) (fun _ k => XS.astore X255.here hx rfl (hb hby at_106) rfl rfl (l' := #[.val (.int p0), .val (.int p1), .val (.int p2), .val (.int p3), .val (.ref b188), .val (.ref b192), .val (.ref b199), .val (.ref b212), .val (.int (p3 &&& (7 : Int32))), .val (.ref b246), .unset, .unset, .unset, .unset]) rfl k) ?_
      refine GoS.of (T' := T255) (f' := (mkF m 162 #[.val (.int p0), .val (.int p1), .val (.int p2), .val (.int p3), .val (.ref b188), .val (.ref b192), .val (.ref b199), .val (.ref b212), .val (.int (p3 &&& (7 : Int32))), .val (.ref b246), .unset, .unset, .unset, .unset] [])) (fun _ k => XS.goto X255.here hx rfl (pc0 := 108) (pc' := 162) rfl (hb hby at_108) (by decide) (by decide) k) ?_
      refine GoS.of (T' := T255) (f' := (mkF m 164 #[.val (.int p0), .val (.int p1), .val (.int p2), .val (.int p3), .val (.ref b188), .val (.ref b192), .val (.ref b199), .val (.ref b212), .val (.int (p3 &&& (7 : Int32))), .val (.ref b246), .unset, .unset, .unset, .unset] [(.ref b246)])) (fun _ k => XS.aload X255.here hx rfl (hb hby at_162) rfl rfl k) ?_
      have f259 : Exa Z T255.heap b188 "[C" := (Exa.keep (Exa.ext E246 f247) K255q)
      have f260 : Exa Z T255.heap b192 "[C" := (Exa.keep (Exa.ext E246 f248) K255q)
      have f261 : Exa Z T255.heap b199 "[C" := (Exa.keep (Exa.ext E246 f249) K255q)
      have f262 : Exa Z T255.heap b212 "[C" := (Exa.keep (Exa.ext E246 f250) K255q)
      have f263 : Exa Z T255.heap b246 "java/lang/String" := (Exa.keep A246 K255q)
      obtain ⟨T258, v258, L258, X258, q258, st258⟩ := callSt X255 hx hZ (y := (⟨"com/example/sealwright/sealwright/Arguments$Option", "flag", "(Ljava/lang/String;)Lcom/example/sealwright/sealwright/Arguments$Option;"⟩ : MethodName)) hown (hw _ (List.mem_of_getElem? (i := 30) rfl)) (hw _ (List.mem_of_getElem? (i := 31) rfl)) (hw _ (List.mem_of_getElem? (i := 32) rfl)) (hw _ (List.mem_of_getElem? (i := 33) rfl)) (by decide) (rm_flag_r hw G b246  T255.heap O257 ) rfl (W := 0) (by decide) (by decide) (by decide) (by decide) (g := (mkF m 164 #[.val (.int p0), .val (.int p1), .val (.int p2), .val (.int p3), .val (.ref b188), .val (.ref b192), .val (.ref b199), .val (.ref b212), .val (.int (p3 &&& (7 : Int32))), .val (.ref b246), .unset, .unset, .unset, .unset] [(.ref b246)])) rfl (by rw [hml]; rfl) (argsL := [(.ref b246)]) (rest := []) (lenOf pd__Ljava_lang_String__Lcom_example_sealwright_sealwright_Arguments_Option_ rfl) rfl rfl (by show 2 * 0 + _ ≤ _; exact Nat.le_of_eq rfl) (hb hby at_164)
      obtain ⟨ob_258, rfl, N258q, K258q, p258_0, p258_1, p258_2, p258_3⟩ := q258
      have N258 := Fr.app N255 N258q
      have O265 := Old0.keep O257 K258q all0
      have K265 := Keep.trans K257 K258q all0
      have C264 := CHr.trans C255 (CHr.keep K258q sf0 C255.1)
      have hk := Nat.le_trans hk K258q.1
      have z_ob_258 : h0.size ≤ ob_258 := Nat.le_trans K257.1 p258_0
      have g_ob_258 : Z.heap.size ≤ ob_258 := Nat.le_trans O257.1 p258_0
      have ne_b188_ob_258 : b188 ≠ ob_258 := Nat.ne_of_lt (Nat.lt_of_lt_of_le f259.lt p258_0)
      have ne_b192_ob_258 : b192 ≠ ob_258 := Nat.ne_of_lt (Nat.lt_of_lt_of_le f260.lt p258_0)
      have ne_b199_ob_258 : b199 ≠ ob_258 := Nat.ne_of_lt (Nat.lt_of_lt_of_le f261.lt p258_0)
      have ne_b212_ob_258 : b212 ≠ ob_258 := Nat.ne_of_lt (Nat.lt_of_lt_of_le f262.lt p258_0)
      have ne_b246_ob_258 : b246 ≠ ob_258 := Nat.ne_of_lt (Nat.lt_of_lt_of_le f263.lt p258_0)
      have ne_da_255_ob_258 : da_255 ≠ ob_258 := Nat.ne_of_lt (Nat.lt_of_lt_of_le p255_2.lt p258_0)
      refine GoS.of (T' := T258) (f' := (mkF m 167 #[.val (.int p0), .val (.int p1), .val (.int p2), .val (.int p3), .val (.ref b188), .val (.ref b192), .val (.ref b199), .val (.ref b212), .val (.int (p3 &&& (7 : Int32))), .val (.ref b246), .unset, .unset, .unset, .unset] [(.ref ob_258)])) (fun _ k => st258 _ k) ?_
      refine GoS.of (T' := T258) (f' := (mkF m 169 #[.val (.int p0), .val (.int p1), .val (.int p2), .val (.int p3), .val (.ref b188), .val (.ref b192), .val (.ref b199), .val (.ref b212), .val (.int (p3 &&& (7 : Int32))), .val (.ref b246), .val (.ref ob_258), .unset, .unset, .unset] [])) (fun _ k => XS.astore X258.here hx rfl (hb hby at_167) rfl rfl (l' := #[.val (.int p0), .val (.int p1), .val (.int p2), .val (.int p3), .val (.ref b188), .val (.ref b192), .val (.ref b199), .val (.ref b212), .val (.int (p3 &&& (7 : Int32))), .val (.ref b246), .val (.ref ob_258), .unset, .unset, .unset]) rfl k) ?_
      refine GoS.of (T' := T258) (f' := (mkF m 171 #[.val (.int p0), .val (.int p1), .val (.int p2), .val (.int p3), .val (.ref b188), .val (.ref b192), .val (.ref b199), .val (.ref b212), .val (.int (p3 &&& (7 : Int32))), .val (.ref b246), .val (.ref ob_258), .unset, .unset, .unset] [(.ref ob_258)])) (fun _ k => XS.aload X258.here hx rfl (hb hby at_169) rfl rfl k) ?_
      obtain ⟨T266, v266, L266, X266, q266, st266⟩ := callVi X258 hx hZ (y := (⟨"com/example/sealwright/sealwright/Arguments$Option", "name", "()Ljava/lang/String;"⟩ : MethodName)) (z := (⟨"com/example/sealwright/sealwright/Arguments$Option", "name", "()Ljava/lang/String;"⟩ : MethodName)) hown (hw _ (List.mem_of_getElem? (i := 52) rfl)) (hw _ (List.mem_of_getElem? (i := 53) rfl)) (notFace_of_selects (args := #[]) (mvT hZ (hw _ (List.mem_of_getElem? (i := 55) rfl)))) (hw _ (List.mem_of_getElem? (i := 55) rfl)) (hw _ (List.mem_of_getElem? (i := 54) rfl)) (hw _ (List.mem_of_getElem? (i := 56) rfl)) (hw _ (List.mem_of_getElem? (i := 32) rfl)) (by decide) (rm_name_r hw G ob_258 b246 T258.heap O265 p258_2) rfl (W := 0) (by decide) (by decide) (by decide) (by decide) p258_1 (g := (mkF m 171 #[.val (.int p0), .val (.int p1), .val (.int p2), .val (.int p3), .val (.ref b188), .val (.ref b192), .val (.ref b199), .val (.ref b212), .val (.int (p3 &&& (7 : Int32))), .val (.ref b246), .val (.ref ob_258), .unset, .unset, .unset] [(.ref ob_258)])) rfl (by rw [hml]; rfl) (argsL := []) (rest := []) (lenOf pd___Ljava_lang_String_ rfl) rfl rfl (by show 2 * 0 + _ ≤ _; exact Nat.le_of_eq rfl) (hb hby at_171)
      obtain ⟨rfl, e266, rfl⟩ := q266
      have N266 := Fr.app N258 (Fr.nil _)
      refine GoS.of (T' := T266) (f' := (mkF m 174 #[.val (.int p0), .val (.int p1), .val (.int p2), .val (.int p3), .val (.ref b188), .val (.ref b192), .val (.ref b199), .val (.ref b212), .val (.int (p3 &&& (7 : Int32))), .val (.ref b246), .val (.ref ob_258), .unset, .unset, .unset] [(.ref b246)])) (fun _ k => st266 _ k) ?_
      refine GoS.of (T' := T266) (f' := (mkF m 176 #[.val (.int p0), .val (.int p1), .val (.int p2), .val (.int p3), .val (.ref b188), .val (.ref b192), .val (.ref b199), .val (.ref b212), .val (.int (p3 &&& (7 : Int32))), .val (.ref b246), .val (.ref ob_258), .val (.ref b246), .unset, .unset] [])) (fun _ k => XS.astore X266.here hx rfl (hb hby at_174) rfl rfl (l' := #[.val (.int p0), .val (.int p1), .val (.int p2), .val (.int p3), .val (.ref b188), .val (.ref b192), .val (.ref b199), .val (.ref b212), .val (.int (p3 &&& (7 : Int32))), .val (.ref b246), .val (.ref ob_258), .val (.ref b246), .unset, .unset]) rfl k) ?_
      refine GoS.of (T' := T266) (f' := (mkF m 178 #[.val (.int p0), .val (.int p1), .val (.int p2), .val (.int p3), .val (.ref b188), .val (.ref b192), .val (.ref b199), .val (.ref b212), .val (.int (p3 &&& (7 : Int32))), .val (.ref b246), .val (.ref ob_258), .val (.ref b246), .unset, .unset] [(.ref b246)])) (fun _ k => XS.aload X266.here hx rfl (hb hby at_176) rfl rfl k) ?_
      refine GoS.of (T' := T266) (f' := (mkF m 180 #[.val (.int p0), .val (.int p1), .val (.int p2), .val (.int p3), .val (.ref b188), .val (.ref b192), .val (.ref b199), .val (.ref b212), .val (.int (p3 &&& (7 : Int32))), .val (.ref b246), .val (.ref ob_258), .val (.ref b246), .unset, .unset] [(.ref b246), (.ref b246)])) (fun _ k => XS.aload X266.here hx rfl (hb hby at_178) rfl rfl k) ?_
      refine GoS.of (T' := T266) (f' := (mkF m 183 #[.val (.int p0), .val (.int p1), .val (.int p2), .val (.int p3), .val (.ref b188), .val (.ref b192), .val (.ref b199), .val (.ref b212), .val (.int (p3 &&& (7 : Int32))), .val (.ref b246), .val (.ref ob_258), .val (.ref b246), .unset, .unset] [])) (fun _ k => Jvm.RoadKit.acmp (g := (mkF m 180 #[.val (.int p0), .val (.int p1), .val (.int p2), .val (.int p3), .val (.ref b188), .val (.ref b192), .val (.ref b199), .val (.ref b212), .val (.int (p3 &&& (7 : Int32))), .val (.ref b246), .val (.ref ob_258), .val (.ref b246), .unset, .unset] [(.ref b246), (.ref b246)])) X266 hx rfl rfl rfl (pc0 := 180) (pc' := 183) (same := true) rfl (hb hby at_180) rfl (decide_eq_true rfl) (by decide) (by decide) k) ?_
      refine GoS.of (T' := T266) (f' := (mkF m 184 #[.val (.int p0), .val (.int p1), .val (.int p2), .val (.int p3), .val (.ref b188), .val (.ref b192), .val (.ref b199), .val (.ref b212), .val (.int (p3 &&& (7 : Int32))), .val (.ref b246), .val (.ref ob_258), .val (.ref b246), .unset, .unset] [(.int (1 : Int32))])) (fun _ k => XS.iconst X266.here hx rfl (hb hby at_183) k) ?_
      refine GoS.of (T' := T266) (f' := (mkF m 188 #[.val (.int p0), .val (.int p1), .val (.int p2), .val (.int p3), .val (.ref b188), .val (.ref b192), .val (.ref b199), .val (.ref b212), .val (.int (p3 &&& (7 : Int32))), .val (.ref b246), .val (.ref ob_258), .val (.ref b246), .unset, .unset] [(.int (1 : Int32))])) (fun _ k => XS.goto X266.here hx rfl (pc0 := 184) (pc' := 188) rfl (hb hby at_184) (by decide) (by decide) k) ?_
      refine GoS.of (T' := T266) (f' := (mkF m 190 #[.val (.int p0), .val (.int p1), .val (.int p2), .val (.int p3), .val (.ref b188), .val (.ref b192), .val (.ref b199), .val (.ref b212), .val (.int (p3 &&& (7 : Int32))), .val (.ref b246), .val (.ref ob_258), .val (.ref b246), .val (.int (1 : Int32)), .unset] [])) (fun _ k => XS.istore X266.here hx rfl (hb hby at_188) rfl (l' := #[.val (.int p0), .val (.int p1), .val (.int p2), .val (.int p3), .val (.ref b188), .val (.ref b192), .val (.ref b199), .val (.ref b212), .val (.int (p3 &&& (7 : Int32))), .val (.ref b246), .val (.ref ob_258), .val (.ref b246), .val (.int (1 : Int32)), .unset]) rfl k) ?_
      refine GoS.of (T' := T266) (f' := (mkF m 192 #[.val (.int p0), .val (.int p1), .val (.int p2), .val (.int p3), .val (.ref b188), .val (.ref b192), .val (.ref b199), .val (.ref b212), .val (.int (p3 &&& (7 : Int32))), .val (.ref b246), .val (.ref ob_258), .val (.ref b246), .val (.int (1 : Int32)), .unset] [(.ref b246)])) (fun _ k => XS.aload X266.here hx rfl (hb hby at_190) rfl rfl k) ?_
      refine GoS.of (T' := T266) (f' := (mkF m 208 #[.val (.int p0), .val (.int p1), .val (.int p2), .val (.int p3), .val (.ref b188), .val (.ref b192), .val (.ref b199), .val (.ref b212), .val (.int (p3 &&& (7 : Int32))), .val (.ref b246), .val (.ref ob_258), .val (.ref b246), .val (.int (1 : Int32)), .unset] [])) (fun _ k => XS.ifnonnullYes X266.here hx rfl (pc0 := 192) (pc' := 208) rfl (hb hby at_192) rfl (by decide) (by decide) k) ?_
      refine GoS.of (T' := T266) (f' := (mkF m 210 #[.val (.int p0), .val (.int p1), .val (.int p2), .val (.int p3), .val (.ref b188), .val (.ref b192), .val (.ref b199), .val (.ref b212), .val (.int (p3 &&& (7 : Int32))), .val (.ref b246), .val (.ref ob_258), .val (.ref b246), .val (.int (1 : Int32)), .unset] [(.ref b246)])) (fun _ k => XS.aload X266.here hx rfl (hb hby at_208) rfl rfl k) ?_
      refine GoS.of (T' := T266) (f' := (mkF m 212 #[.val (.int p0), .val (.int p1), .val (.int p2), .val (.int p3), .val (.ref b188), .val (.ref b192), .val (.ref b199), .val (.ref b212), .val (.int (p3 &&& (7 : Int32))), .val (.ref b246), .val (.ref ob_258), .val (.ref b246), .val (.int (1 : Int32)), .unset] [(.ref b246), (.ref b246)])) (fun _ k => XS.aload X266.here hx rfl (hb hby at_210) rfl rfl k) ?_
      have f269 : Exa Z T258.heap b246 "java/lang/String" := (Exa.keep f263 K258q)
      obtain ⟨T268, v268, L268, X268, q268, st268⟩ := callVi X266 hx hZ (y := (⟨"java/lang/String", "equals", "(Ljava/lang/Object;)Z"⟩ : MethodName)) (z := (⟨"java/lang/String", "equals", "(Ljava/lang/Object;)Z"⟩ : MethodName)) hown (hw _ (List.mem_of_getElem? (i := 57) rfl)) (hw _ (List.mem_of_getElem? (i := 58) rfl)) (notFace_of_selects (args := #[]) (mvT hZ (hw _ (List.mem_of_getElem? (i := 60) rfl)))) (hw _ (List.mem_of_getElem? (i := 60) rfl)) (hw _ (List.mem_of_getElem? (i := 59) rfl)) (hw _ (List.mem_of_getElem? (i := 61) rfl)) (hw _ (List.mem_of_getElem? (i := 3) rfl)) (by decide) (rm_eqs hw G b246 b246  T258.heap O265 (rfl)) e266 (W := 0) (by decide) (by decide) (by decide) (by decide) f269 (g := (mkF m 212 #[.val (.int p0), .val (.int p1), .val (.int p2), .val (.int p3), .val (.ref b188), .val (.ref b192), .val (.ref b199), .val (.ref b212), .val (.int (p3 &&& (7 : Int32))), .val (.ref b246), .val (.ref ob_258), .val (.ref b246), .val (.int (1 : Int32)), .unset] [(.ref b246), (.ref b246)])) rfl (by rw [hml]; rfl) (argsL := [(.ref b246)]) (rest := []) (lenOf pd__Ljava_lang_Object__Z rfl) rfl rfl (by show 2 * 0 + _ ≤ _; exact Nat.le_of_eq rfl) (hb hby at_212)
      obtain ⟨rfl, e268, rfl⟩ := q268
      have N268 := Fr.app N266 (Fr.nil _)
      refine GoS.of (T' := T268) (f' := (mkF m 215 #[.val (.int p0), .val (.int p1), .val (.int p2), .val (.int p3), .val (.ref b188), .val (.ref b192), .val (.ref b199), .val (.ref b212), .val (.int (p3 &&& (7 : Int32))), .val (.ref b246), .val (.ref ob_258), .val (.ref b246), .val (.int (1 : Int32)), .unset] [(.int (1 : Int32))])) (fun _ k => st268 _ k) ?_
      refine GoS.of (T' := T268) (f' := (mkF m 217 #[.val (.int p0), .val (.int p1), .val (.int p2), .val (.int p3), .val (.ref b188), .val (.ref b192), .val (.ref b199), .val (.ref b212), .val (.int (p3 &&& (7 : Int32))), .val (.ref b246), .val (.ref ob_258), .val (.ref b246), .val (.int (1 : Int32)), .val (.int (1 : Int32))] [])) (fun _ k => XS.istore X268.here hx rfl (hb hby at_215) rfl (l' := #[.val (.int p0), .val (.int p1), .val (.int p2), .val (.int p3), .val (.ref b188), .val (.ref b192), .val (.ref b199), .val (.ref b212), .val (.int (p3 &&& (7 : Int32))), .val (.ref b246), .val (.ref ob_258), .val (.ref b246), .val (.int (1 : Int32)), .val (.int (1 : Int32))]) rfl k) ?_
      refine GoS.of (T' := T268) (f' := (mkF m 219 #[.val (.int p0), .val (.int p1), .val (.int p2), .val (.int p3), .val (.ref b188), .val (.ref b192), .val (.ref b199), .val (.ref b212), .val (.int (p3 &&& (7 : Int32))), .val (.ref b246), .val (.ref ob_258), .val (.ref b246), .val (.int (1 : Int32)), .val (.int (1 : Int32))] [(.int (1 : Int32))])) (fun _ k => XS.iload X268.here hx rfl (hb hby at_217) rfl k) ?_
      refine GoS.of (T' := T268) (f' := (mkF m 222 #[.val (.int p0), .val (.int p1), .val (.int p2), .val (.int p3), .val (.ref b188), .val (.ref b192), .val (.ref b199), .val (.ref b212), .val (.int (p3 &&& (7 : Int32))), .val (.ref b246), .val (.ref ob_258), .val (.ref b246), .val (.int (1 : Int32)), .val (.int (1 : Int32))] [])) (fun _ k => XS.ifNo X268.here hx rfl (hb hby at_219) rfl ((if0 _ _).trans (feq (by decide : ¬ ((1 : Int32) = (0 : Int32)))).1) k) ?_
      refine GoS.of (T' := T268) (f' := (mkF m 224 #[.val (.int p0), .val (.int p1), .val (.int p2), .val (.int p3), .val (.ref b188), .val (.ref b192), .val (.ref b199), .val (.ref b212), .val (.int (p3 &&& (7 : Int32))), .val (.ref b246), .val (.ref ob_258), .val (.ref b246), .val (.int (1 : Int32)), .val (.int (1 : Int32))] [(.int (1 : Int32))])) (fun _ k => XS.iload X268.here hx rfl (hb hby at_222) rfl k) ?_
      refine GoS.of (T' := T268) (f' := (mkF m 227 #[.val (.int p0), .val (.int p1), .val (.int p2), .val (.int p3), .val (.ref b188), .val (.ref b192), .val (.ref b199), .val (.ref b212), .val (.int (p3 &&& (7 : Int32))), .val (.ref b246), .val (.ref ob_258), .val (.ref b246), .val (.int (1 : Int32)), .val (.int (1 : Int32))] [])) (fun _ k => XS.ifNo X268.here hx rfl (hb hby at_224) rfl ((if0 _ _).trans (feq (by decide : ¬ ((1 : Int32) = (0 : Int32)))).1) k) ?_
      refine GoS.of (T' := T268) (f' := (mkF m 229 #[.val (.int p0), .val (.int p1), .val (.int p2), .val (.int p3), .val (.ref b188), .val (.ref b192), .val (.ref b199), .val (.ref b212), .val (.int (p3 &&& (7 : Int32))), .val (.ref b246), .val (.ref ob_258), .val (.ref b246), .val (.int (1 : Int32)), .val (.int (1 : Int32))] [(.ref ob_258)])) (fun _ k => XS.aload X268.here hx rfl (hb hby at_227) rfl rfl k) ?_
      obtain ⟨T272, v272, L272, X272, q272, st272⟩ := callVi X268 hx hZ (y := (⟨"com/example/sealwright/sealwright/Arguments$Option", "kind", "()Lcom/example/sealwright/sealwright/Arguments$Kind;"⟩ : MethodName)) (z := (⟨"com/example/sealwright/sealwright/Arguments$Option", "kind", "()Lcom/example/sealwright/sealwright/Arguments$Kind;"⟩ : MethodName)) hown (hw _ (List.mem_of_getElem? (i := 62) rfl)) (hw _ (List.mem_of_getElem? (i := 63) rfl)) (notFace_of_selects (args := #[]) (mvT hZ (hw _ (List.mem_of_getElem? (i := 65) rfl)))) (hw _ (List.mem_of_getElem? (i := 65) rfl)) (hw _ (List.mem_of_getElem? (i := 64) rfl)) (hw _ (List.mem_of_getElem? (i := 66) rfl)) (hw _ (List.mem_of_getElem? (i := 32) rfl)) (by decide) (rm_kind hw G ob_258  T258.heap O265 p258_3) e268 (W := 0) (by decide) (by decide) (by decide) (by decide) p258_1 (g := (mkF m 229 #[.val (.int p0), .val (.int p1), .val (.int p2), .val (.int p3), .val (.ref b188), .val (.ref b192), .val (.ref b199), .val (.ref b212), .val (.int (p3 &&& (7 : Int32))), .val (.ref b246), .val (.ref ob_258), .val (.ref b246), .val (.int (1 : Int32)), .val (.int (1 : Int32))] [(.ref ob_258)])) rfl (by rw [hml]; rfl) (argsL := []) (rest := []) (lenOf pd___Lcom_example_sealwright_sealwright_Arguments_Kind_ rfl) rfl rfl (by show 2 * 0 + _ ≤ _; exact Nat.le_of_eq rfl) (hb hby at_229)
      obtain ⟨rfl, e272, rfl⟩ := q272
      have N272 := Fr.app N268 (Fr.nil _)
      refine GoS.of (T' := T272) (f' := (mkF m 232 #[.val (.int p0), .val (.int p1), .val (.int p2), .val (.int p3), .val (.ref b188), .val (.ref b192), .val (.ref b199), .val (.ref b212), .val (.int (p3 &&& (7 : Int32))), .val (.ref b246), .val (.ref ob_258), .val (.ref b246), .val (.int (1 : Int32)), .val (.int (1 : Int32))] [(.ref s_FLAG)])) (fun _ k => st272 _ k) ?_
      obtain ⟨T273, X273, e273, st273⟩ := getS2 X272 hx hZ hown (host := "") (Or.inl (hw _ (List.mem_of_getElem? (i := 67) rfl))) Via.refl e272 (Sta.ext O265 S_FLAG) (g := (mkF m 232 #[.val (.int p0), .val (.int p1), .val (.int p2), .val (.int p3), .val (.ref b188), .val (.ref b192), .val (.ref b199), .val (.ref b212), .val (.int (p3 &&& (7 : Int32))), .val (.ref b246), .val (.ref ob_258), .val (.ref b246), .val (.int (1 : Int32)), .val (.int (1 : Int32))] [(.ref s_FLAG)])) rfl (hb hby at_232)
      refine GoS.of (T' := T273) (f' := (mkF m 235 #[.val (.int p0), .val (.int p1), .val (.int p2), .val (.int p3), .val (.ref b188), .val (.ref b192), .val (.ref b199), .val (.ref b212), .val (.int (p3 &&& (7 : Int32))), .val (.ref b246), .val (.ref ob_258), .val (.ref b246), .val (.int (1 : Int32)), .val (.int (1 : Int32))] [(.ref s_FLAG), (.ref s_FLAG)])) (fun _ k => st273 _ k) ?_
      refine GoS.of (T' := T273) (f' := (mkF m 238 #[.val (.int p0), .val (.int p1), .val (.int p2), .val (.int p3), .val (.ref b188), .val (.ref b192), .val (.ref b199), .val (.ref b212), .val (.int (p3 &&& (7 : Int32))), .val (.ref b246), .val (.ref ob_258), .val (.ref b246), .val (.int (1 : Int32)), .val (.int (1 : Int32))] [])) (fun _ k => Jvm.RoadKit.acmp (g := (mkF m 235 #[.val (.int p0), .val (.int p1), .val (.int p2), .val (.int p3), .val (.ref b188), .val (.ref b192), .val (.ref b199), .val (.ref b212), .val (.int (p3 &&& (7 : Int32))), .val (.ref b246), .val (.ref ob_258), .val (.ref b246), .val (.int (1 : Int32)), .val (.int (1 : Int32))] [(.ref s_FLAG), (.ref s_FLAG)])) X273 hx rfl rfl rfl (pc0 := 235) (pc' := 238) (same := true) rfl (hb hby at_235) rfl (decide_eq_true rfl) (by decide) (by decide) k) ?_
      refine GoS.of (T' := T273) (f' := (mkF m 239 #[.val (.int p0), .val (.int p1), .val (.int p2), .val (.int p3), .val (.ref b188), .val (.ref b192), .val (.ref b199), .val (.ref b212), .val (.int (p3 &&& (7 : Int32))), .val (.ref b246), .val (.ref ob_258), .val (.ref b246), .val (.int (1 : Int32)), .val (.int (1 : Int32))] [(.int (1 : Int32))])) (fun _ k => XS.iconst X273.here hx rfl (hb hby at_238) k) ?_
      refine GoS.of (T' := T273) (f' := (mkF m 243 #[.val (.int p0), .val (.int p1), .val (.int p2), .val (.int p3), .val (.ref b188), .val (.ref b192), .val (.ref b199), .val (.ref b212), .val (.int (p3 &&& (7 : Int32))), .val (.ref b246), .val (.ref ob_258), .val (.ref b246), .val (.int (1 : Int32)), .val (.int (1 : Int32))] [(.int (1 : Int32))])) (fun _ k => XS.goto X273.here hx rfl (pc0 := 239) (pc' := 243) rfl (hb hby at_239) (by decide) (by decide) k) ?_
      exact GoS.retB X273 hx hlk hS hk hZ hEL C264 e273 hret (by simp) (hb hby at_243) (by decide) (by decide) (z' := (1 : Int32)) rfl (by rw [e273]; exact ⟨rfl, N272, K265⟩)
    · skip
      refine GoS.of (T' := T226) (f' := (mkF m 111 #[.val (.int p0), .val (.int p1), .val (.int p2), .val (.int p3), .val (.ref b188), .val (.ref b192), .val (.ref b199), .val (.ref b212), .val (.int (p3 &&& (7 : Int32))), .unset, .unset, .unset, .unset, .unset] [])) (fun _ k => XS.ifYes X226.here hx rfl (pc0 := 94) (pc' := 111) rfl (hb hby at_94) rfl ((if0 _ _).trans (feq hc245).2) (by decide) (by decide) k) ?_
      refine GoS.of (T' := T226) (f' := (mkF m 113 #[.val (.int p0), .val (.int p1), .val (.int p2), .val (.int p3), .val (.ref b188), .val (.ref b192), .val (.ref b199), .val (.ref b212), .val (.int (p3 &&& (7 : Int32))), .unset, .unset, .unset, .unset, .unset] [(.int (p3 &&& (7 : Int32)))])) (fun _ k => XS.iload X226.here hx rfl (hb hby at_111) rfl k) ?_
      refine GoS.of (T' := T226) (f' := (mkF m 114 #[.val (.int p0), .val (.int p1), .val (.int p2), .val (.int p3), .val (.ref b188), .val (.ref b192), .val (.ref b199), .val (.ref b212), .val (.int (p3 &&& (7 : Int32))), .unset, .unset, .unset, .unset, .unset] [(.int (1 : Int32)), (.int (p3 &&& (7 : Int32)))])) (fun _ k => XS.iconst X226.here hx rfl (hb hby at_113) k) ?_
      by_cases hc275 : (p3 &&& (7 : Int32)) = (1 : Int32)
      · skip
        refine GoS.of (T' := T226) (f' := (mkF m 117 #[.val (.int p0), .val (.int p1), .val (.int p2), .val (.int p3), .val (.ref b188), .val (.ref b192), .val (.ref b199), .val (.ref b212), .val (.int (p3 &&& (7 : Int32))), .unset, .unset, .unset, .unset, .unset] [])) (fun _ k => XS.icmpNo X226.here hx rfl (hb hby at_114) rfl (teq hc275).2 k) ?_
        have f277 : Exa Z h226 b188 "[C" := (Exa.wr W226 (Exa.wr W222 (Exa.wr W219 (Exa.ext E212 f213))))
        have f278 : Exa Z h226 b192 "[C" := (Exa.wr W226 (Exa.wr W222 (Exa.wr W219 (Exa.ext E212 f214))))
        have f279 : Exa Z h226 b199 "[C" := (Exa.wr W226 (Exa.wr W222 (Exa.wr W219 (Exa.ext E212 f215))))
        have f280 : Exa Z h226 b212 "[C" := (Exa.wr W226 f228)
        obtain ⟨T276, h276, b276, q276, X276, e276, E276, A276, D276, st276⟩ := newOb X226 hx hZ hown (hw _ (List.mem_of_getElem? (i := 1) rfl)) (hw _ (List.mem_of_getElem? (i := 2) rfl)) (hw _ (List.mem_of_getElem? (i := 3) rfl)) e226 (g := (mkF m 117 #[.val (.int p0), .val (.int p1), .val (.int p2), .val (.int p3), .val (.ref b188), .val (.ref b192), .val (.ref b199), .val (.ref b212), .val (.int (p3 &&& (7 : Int32))), .unset, .unset, .unset, .unset, .unset] [])) rfl (hb hby at_117) (by decide) (by decide)
        have O282 := Old0.ext O229 E276
        have K282 := Keep.ext K229 E276
        have C281 := CHr.trans C227 (CHr.ext E276 C227.1)
        have hk := Nat.le_trans hk E276.1
        have g_b276 : Z.heap.size ≤ b276 := q276 ▸ O229.1
        have z_b276 : h0.size ≤ b276 := q276 ▸ K229.1
        have ne_b188_b276 : b188 ≠ b276 := q276 ▸ Nat.ne_of_lt f277.lt
        have ne_b192_b276 : b192 ≠ b276 := q276 ▸ Nat.ne_of_lt f278.lt
        have ne_b199_b276 : b199 ≠ b276 := q276 ▸ Nat.ne_of_lt f279.lt
        have ne_b212_b276 : b212 ≠ b276 := q276 ▸ Nat.ne_of_lt f280.lt
        have f283 : Fld Z h276 b276 "java/lang/String" "coder" "B" (.int (0 : Int32)) := D276 (Or.inr (hw _ (List.mem_of_getElem? (i := 27) rfl))) (ty := .byte) (by decide)
        have f284 : Fld Z h276 b276 "java/lang/String" "value" "[B" .null := D276 (Or.inr (hw _ (List.mem_of_getElem? (i := 29) rfl))) (ty := (.array .byte)) (by decide)
        refine GoS.of (T' := T276) (f' := (mkF m 120 #[.val (.int p0), .val (.int p1), .val (.int p2), .val (.int p3), .val (.ref b188), .val (.ref b192), .val (.ref b199), .val (.ref b212), .val (.int (p3 &&& (7 : Int32))), .unset, .unset, .unset, .unset, .unset] [(.ref b276)])) (fun _ k => st276 _ k) ?_
        refine GoS.of (T' := T276) (f' := (mkF m 121 #[.val (.int p0), .val (.int p1), .val (.int p2), .val (.int p3), .val (.ref b188), .val (.ref b192), .val (.ref b199), .val (.ref b212), .val (.int (p3 &&& (7 : Int32))), .unset, .unset, .unset, .unset, .unset] [(.ref b276), (.ref b276)])) (fun _ k => XS.dup X276.here hx rfl (hb hby at_120) rfl rfl k) ?_
        refine GoS.of (T' := T276) (f' := (mkF m 123 #[.val (.int p0), .val (.int p1), .val (.int p2), .val (.int p3), .val (.ref b188), .val (.ref b192), .val (.ref b199), .val (.ref b212), .val (.int (p3 &&& (7 : Int32))), .unset, .unset, .unset, .unset, .unset] [(.ref b192), (.ref b276), (.ref b276)])) (fun _ k => XS.aload X276.here hx rfl (hb hby at_121) rfl rfl k) ?_
        have f286 : Arv Z h276 b192 k192 .char (1 : Int32) [(.int (p0 &&& (255 : Int32)))] (.int (0 : Int32)) := (Arv.ext (Arv.other (Arv.other (Arv.other (Arv.ext (Arv.other (Arv.other (Arv.ext f196 E199) W205 ne_b192_b199) W208 ne_b192_b199) E212) W219 ne_b192_b212) W222 ne_b192_b212) W226 ne_b192_b212) E276)
        have f287 : Exa Z h276 b188 "[C" := (Exa.ext E276 f277)
        have f288 : Exa Z h276 b192 "[C" := (Exa.ext E276 f278)
        have f289 : Exa Z h276 b199 "[C" := (Exa.ext E276 f279)
        have f290 : Exa Z h276 b212 "[C" := (Exa.ext E276 f280)
        obtain ⟨T285, v285, L285, X285, q285, st285⟩ := callNew X276 hx hZ (y := (⟨"java/lang/String", "<init>", "([C)V"⟩ : MethodName)) rfl hown (hw _ (List.mem_of_getElem? (i := 4) rfl)) (hw _ (List.mem_of_getElem? (i := 5) rfl)) (hw _ (List.mem_of_getElem? (i := 3) rfl)) (hw _ (List.mem_of_getElem? (i := 6) rfl)) (by decide) (rm_str_1 hw G b276 b192 k192 ((p0 &&& (255 : Int32))) h276 O282 (own_le255 _) A276 f284 f283 g_b276 f286 (Ne.symm ne_b192_b276)) e276 (W := 1) (by decide) (by decide) (by decide) (by decide) (g := (mkF m 123 #[.val (.int p0), .val (.int p1), .val (.int p2), .val (.int p3), .val (.ref b188), .val (.ref b192), .val (.ref b199), .val (.ref b212), .val (.int (p3 &&& (7 : Int32))), .unset, .unset, .unset, .unset, .unset] [(.ref b192), (.ref b276), (.ref b276)])) rfl (by rw [hml]; rfl) (a := b276) (argsL := [(.ref b192)]) (rest := [(.ref b276)]) (lenOf pd___C_V rfl) rfl rfl (by show 2 * 0 + _ ≤ _; exact Nat.le_of_eq rfl) (hb hby at_123)
        obtain ⟨da_285, kd_285, rfl, N285q, K285q, p285_0, p285_1, p285_2, p285_3, p285_4⟩ := q285
        have N285 := Fr.app N226 N285q
        have sf292 : Safe Z own_EL s.vm h276 b276 := (Safe.ext E276 C227.1 (Safe.new (Nat.le_of_eq q276.symm)))
        have O293 := Old0.keep O282 K285q (allS g_b276 all0)
        have K293 := Keep.trans K282 K285q (allS (Or.inr z_b276) all0)
        have C291 := CHr.trans C281 (CHr.keep K285q (sfS sf292 sf0) C281.1)
        have hk := Nat.le_trans hk K285q.1
        have z_da_285 : h0.size ≤ da_285 := Nat.le_trans K282.1 p285_0
        have g_da_285 : Z.heap.size ≤ da_285 := Nat.le_trans O282.1 p285_0
        have ne_b188_da_285 : b188 ≠ da_285 := Nat.ne_of_lt (Nat.lt_of_lt_of_le f287.lt p285_0)
        have ne_b192_da_285 : b192 ≠ da_285 := Nat.ne_of_lt (Nat.lt_of_lt_of_le f288.lt p285_0)
        have ne_b199_da_285 : b199 ≠ da_285 := Nat.ne_of_lt (Nat.lt_of_lt_of_le f289.lt p285_0)
        have ne_b212_da_285 : b212 ≠ da_285 := Nat.ne_of_lt (Nat.lt_of_lt_of_le f290.lt p285_0)
        have ne_b276_da_285 : b276 ≠ da_285 := Nat.ne_of_lt (Nat.lt_of_lt_of_le A276.lt p285_0)
        refine GoS.of (T' := T285) (f' := (mkF m 126 #[.val (.int p0), .val (.int p1), .val (.int p2), .val (.int p3), .val (.ref b188), .val (.ref b192), .val (.ref b199), .val (.ref b212), .val (.int (p3 &&& (7 : Int32))), .unset, .unset, .unset, .unset, .unset] [(.ref b276)])) (fun _ k => st285 _ k) ?_
        refine GoS.of (T' := T285) (f' := (mkF m 128 #[.val (.int p0), .val (.int p1), .val (.int p2), .val (.int p3), .val (.ref b188), .val (.ref b192), .val (.ref b199), .val (.ref b212), .val (.int (p3 &&& (7 : Int32))), .val (.ref b276), .unset, .unset, .unset, .unset] [])) (fun _ k => XS.astore X285.here hx rfl (hb hby at_126) rfl rfl (l' := #[.val (.int p0), .val (.int p1), .val (.int p2), .val (.int p3), .val (.ref b188), .val (.ref b192), .val (.ref b199), .val (.ref b212), .val (.int (p3 &&& (7 : Int32))), .val (.ref b276), .unset, .unset, .unset, .unset]) rfl k) ?_
        refine GoS.of (T' := T285) (f' := (mkF m 162 #[.val (.int p0), .val (.int p1), .val (.int p2), .val (.int p3), .val (.ref b188), .val (.ref b192), .val (.ref b199), .val (.ref b212), .val (.int (p3 &&& (7 : Int32))), .val (.ref b276), .unset, .unset, .unset, .unset] [])) (fun _ k => XS.goto X285.here hx rfl (pc0 := 128) (pc' := 162) rfl (hb hby at_128) (by decide) (by decide) k) ?_
        refine GoS.of (T' := T285) (f' := (mkF m 164 #[.val (.int p0), .val (.int p1), .val (.int p2), .val (.int p3), .val (.ref b188), .val (.ref b192), .val (.ref b199), .val (.ref b212), .val (.int (p3 &&& (7 : Int32))), .val (.ref b276), .unset, .unset, .unset, .unset] [(.ref b276)])) (fun _ k => XS.aload X285.here hx rfl (hb hby at_162) rfl rfl k) ?_
        have f295 : Exa Z T285.heap b188 "[C" := (Exa.keep f287 K285q)
        have f296 : Exa Z T285.heap b192 "[C" := (Exa.keep f288 K285q)
        have f297 : Exa Z T285.heap b199 "[C" := (Exa.keep f289 K285q)
        have f298 : Exa Z T285.heap b212 "[C" := (Exa.keep f290 K285q)
        have f299 : Exa Z T285.heap b276 "java/lang/String" := (Exa.keep A276 K285q)
        obtain ⟨T294, v294, L294, X294, q294, st294⟩ := callSt X285 hx hZ (y := (⟨"com/example/sealwright/sealwright/Arguments$Option", "flag", "(Ljava/lang/String;)Lcom/example/sealwright/sealwright/Arguments$Option;"⟩ : MethodName)) hown (hw _ (List.mem_of_getElem? (i := 30) rfl)) (hw _ (List.mem_of_getElem? (i := 31) rfl)) (hw _ (List.mem_of_getElem? (i := 32) rfl)) (hw _ (List.mem_of_getElem? (i := 33) rfl)) (by decide) (rm_flag_r hw G b276  T285.heap O293 ) rfl (W := 0) (by decide) (by decide) (by decide) (by decide) (g := (mkF m 164 #[.val (.int p0), .val (.int p1), .val (.int p2), .val (.int p3), .val (.ref b188), .val (.ref b192), .val (.ref b199), .val (.ref b212), .val (.int (p3 &&& (7 : Int32))), .val (.ref b276), .unset, .unset, .unset, .unset] [(.ref b276)])) rfl (by rw [hml]; rfl) (argsL := [(.ref b276)]) (rest := []) (lenOf pd__Ljava_lang_String__Lcom_example_sealwright_sealwright_Arguments_Option_ rfl) rfl rfl (by show 2 * 0 + _ ≤ _; exact Nat.le_of_eq rfl) (hb hby at_164)
        obtain ⟨ob_294, rfl, N294q, K294q, p294_0, p294_1, p294_2, p294_3⟩ := q294
        have N294 := Fr.app N285 N294q
        have O301 := Old0.keep O293 K294q all0
        have K301 := Keep.trans K293 K294q all0
        have C300 := CHr.trans C291 (CHr.keep K294q sf0 C291.1)
        have hk := Nat.le_trans hk K294q.1
        have z_ob_294 : h0.size ≤ ob_294 := Nat.le_trans K293.1 p294_0
        have g_ob_294 : Z.heap.size ≤ ob_294 := Nat.le_trans O293.1 p294_0
        have ne_b188_ob_294 : b188 ≠ ob_294 := Nat.ne_of_lt (Nat.lt_of_lt_of_le f295.lt p294_0)
        have ne_b192_ob_294 : b192 ≠ ob_294 := Nat.ne_of_lt (Nat.lt_of_lt_of_le f296.lt p294_0)
        have ne_b199_ob_294 : b199 ≠ ob_294 := Nat.ne_of_lt (Nat.lt_of_lt_of_le f297.lt p294_0)
        have ne_b212_ob_294 : b212 ≠ ob_294 := Nat.ne_of_lt (Nat.lt_of_lt_of_le f298.lt p294_0)
        have ne_b276_ob_294 : b276 ≠ ob_294 := Nat.ne_of_lt (Nat.lt_of_lt_of_le f299.lt p294_0)
        have ne_da_285_ob_294 : da_285 ≠ ob_294 := Nat.ne_of_lt (Nat.lt_of_lt_of_le p285_4.lt p294_0)
        refine GoS.of (T' := T294) (f' := (mkF m 167 #[.val (.int p0), .val (.int p1), .val (.int p2), .val (.int p3), .val (.ref b188), .val (.ref b192), .val (.ref b199), .val (.ref b212), .val (.int (p3 &&& (7 : Int32))), .val (.ref b276), .unset, .unset, .unset, .unset] [(.ref ob_294)])) (fun _ k => st294 _ k) ?_
        refine GoS.of (T' := T294) (f' := (mkF m 169 #[.val (.int p0), .val (.int p1), .val (.int p2), .val (.int p3), .val (.ref b188), .val (.ref b192), .val (.ref b199), .val (.ref b212), .val (.int (p3 &&& (7 : Int32))), .val (.ref b276), .val (.ref ob_294), .unset, .unset, .unset] [])) (fun _ k => XS.astore X294.here hx rfl (hb hby at_167) rfl rfl (l' := #[.val (.int p0), .val (.int p1), .val (.int p2), .val (.int p3), .val (.ref b188), .val (.ref b192), .val (.ref b199), .val (.ref b212), .val (.int (p3 &&& (7 : Int32))), .val (.ref b276), .val (.ref ob_294), .unset, .unset, .unset]) rfl k) ?_
        refine GoS.of (T' := T294) (f' := (mkF m 171 #[.val (.int p0), .val (.int p1), .val (.int p2), .val (.int p3), .val (.ref b188), .val (.ref b192), .val (.ref b199), .val (.ref b212), .val (.int (p3 &&& (7 : Int32))), .val (.ref b276), .val (.ref ob_294), .unset, .unset, .unset] [(.ref ob_294)])) (fun _ k => XS.aload X294.here hx rfl (hb hby at_169) rfl rfl k) ?_
        obtain ⟨T302, v302, L302, X302, q302, st302⟩ := callVi X294 hx hZ (y := (⟨"com/example/sealwright/sealwright/Arguments$Option", "name", "()Ljava/lang/String;"⟩ : MethodName)) (z := (⟨"com/example/sealwright/sealwright/Arguments$Option", "name", "()Ljava/lang/String;"⟩ : MethodName)) hown (hw _ (List.mem_of_getElem? (i := 52) rfl)) (hw _ (List.mem_of_getElem? (i := 53) rfl)) (notFace_of_selects (args := #[]) (mvT hZ (hw _ (List.mem_of_getElem? (i := 55) rfl)))) (hw _ (List.mem_of_getElem? (i := 55) rfl)) (hw _ (List.mem_of_getElem? (i := 54) rfl)) (hw _ (List.mem_of_getElem? (i := 56) rfl)) (hw _ (List.mem_of_getElem? (i := 32) rfl)) (by decide) (rm_name_r hw G ob_294 b276 T294.heap O301 p294_2) rfl (W := 0) (by decide) (by decide) (by decide) (by decide) p294_1 (g := (mkF m 171 #[.val (.int p0), .val (.int p1), .val (.int p2), .val (.int p3), .val (.ref b188), .val (.ref b192), .val (.ref b199), .val (.ref b212), .val (.int (p3 &&& (7 : Int32))), .val (.ref b276), .val (.ref ob_294), .unset, .unset, .unset] [(.ref ob_294)])) rfl (by rw [hml]; rfl) (argsL := []) (rest := []) (lenOf pd___Ljava_lang_String_ rfl) rfl rfl (by show 2 * 0 + _ ≤ _; exact Nat.le_of_eq rfl) (hb hby at_171)
        obtain ⟨rfl, e302, rfl⟩ := q302
        have N302 := Fr.app N294 (Fr.nil _)
        refine GoS.of (T' := T302) (f' := (mkF m 174 #[.val (.int p0), .val (.int p1), .val (.int p2), .val (.int p3), .val (.ref b188), .val (.ref b192), .val (.ref b199), .val (.ref b212), .val (.int (p3 &&& (7 : Int32))), .val (.ref b276), .val (.ref ob_294), .unset, .unset, .unset] [(.ref b276)])) (fun _ k => st302 _ k) ?_
        refine GoS.of (T' := T302) (f' := (mkF m 176 #[.val (.int p0), .val (.int p1), .val (.int p2), .val (.int p3), .val (.ref b188), .val (.ref b192), .val (.ref b199), .val (.ref b212), .val (.int (p3 &&& (7 : Int32))), .val (.ref b276), .val (.ref ob_294), .val (.ref b276), .unset, .unset] [])) (fun _ k => XS.astore X302.here hx rfl (hb hby at_174) rfl rfl (l' := #[.val (.int p0), .val (.int p1), .val (.int p2), .val (.int p3), .val (.ref b188), .val (.ref b192), .val (.ref b199), .val (.ref b212), .val (.int (p3 &&& (7 : Int32))), .val (.ref b276), .val (.ref ob_294), .val (.ref b276), .unset, .unset]) rfl k) ?_
        refine GoS.of (T' := T302) (f' := (mkF m 178 #[.val (.int p0), .val (.int p1), .val (.int p2), .val (.int p3), .val (.ref b188), .val (.ref b192), .val (.ref b199), .val (.ref b212), .val (.int (p3 &&& (7 : Int32))), .val (.ref b276), .val (.ref ob_294), .val (.ref b276), .unset, .unset] [(.ref b276)])) (fun _ k => XS.aload X302.here hx rfl (hb hby at_176) rfl rfl k) ?_
        refine GoS.of (T' := T302) (f' := (mkF m 180 #[.val (.int p0), .val (.int p1), .val (.int p2), .val (.int p3), .val (.ref b188), .val (.ref b192), .val (.ref b199), .val (.ref b212), .val (.int (p3 &&& (7 : Int32))), .val (.ref b276), .val (.ref ob_294), .val (.ref b276), .unset, .unset] [(.ref b276), (.ref b276)])) (fun _ k => XS.aload X302.here hx rfl (hb hby at_178) rfl rfl k) ?_
        refine GoS.of (T' := T302) (f' := (mkF m 183 #[.val (.int p0), .val (.int p1), .val (.int p2), .val (.int p3), .val (.ref b188), .val (.ref b192), .val (.ref b199), .val (.ref b212), .val (.int (p3 &&& (7 : Int32))), .val (.ref b276), .val (.ref ob_294), .val (.ref b276), .unset, .unset] [])) (fun _ k => Jvm.RoadKit.acmp (g := (mkF m 180 #[.val (.int p0), .val (.int p1), .val (.int p2), .val (.int p3), .val (.ref b188), .val (.ref b192), .val (.ref b199), .val (.ref b212), .val (.int (p3 &&& (7 : Int32))), .val (.ref b276), .val (.ref ob_294), .val (.ref b276), .unset, .unset] [(.ref b276), (.ref b276)])) X302 hx rfl rfl rfl (pc0 := 180) (pc' := 183) (same := true) rfl (hb hby at_180) rfl (decide_eq_true rfl) (by decide) (by decide) k) ?_
        refine GoS.of (T' := T302) (f' := (mkF m 184 #[.val (.int p0), .val (.int p1), .val (.int p2), .val (.int p3), .val (.ref b188), .val (.ref b192), .val (.ref b199), .val (.ref b212), .val (.int (p3 &&& (7 : Int32))), .val (.ref b276), .val (.ref ob_294), .val (.ref b276), .unset, .unset] [(.int (1 : Int32))])) (fun _ k => XS.iconst X302.here hx rfl (hb hby at_183) k) ?_
        refine GoS.of (T' := T302) (f' := (mkF m 188 #[.val (.int p0), .val (.int p1), .val (.int p2), .val (.int p3), .val (.ref b188), .val (.ref b192), .val (.ref b199), .val (.ref b212), .val (.int (p3 &&& (7 : Int32))), .val (.ref b276), .val (.ref ob_294), .val (.ref b276), .unset, .unset] [(.int (1 : Int32))])) (fun _ k => XS.goto X302.here hx rfl (pc0 := 184) (pc' := 188) rfl (hb hby at_184) (by decide) (by decide) k) ?_
        refine GoS.of (T' := T302) (f' := (mkF m 190 #[.val (.int p0), .val (.int p1), .val (.int p2), .val (.int p3), .val (.ref b188), .val (.ref b192), .val (.ref b199), .val (.ref b212), .val (.int (p3 &&& (7 : Int32))), .val (.ref b276), .val (.ref ob_294), .val (.ref b276), .val (.int (1 : Int32)), .unset] [])) (fun _ k => XS.istore X302.here hx rfl (hb hby at_188) rfl (l' := #[.val (.int p0), .val (.int p1), .val (.int p2), .val (.int p3), .val (.ref b188), .val (.ref b192), .val (.ref b199), .val (.ref b212), .val (.int (p3 &&& (7 : Int32))), .val (.ref b276), .val (.ref ob_294), .val (.ref b276), .val (.int (1 : Int32)), .unset]) rfl k) ?_
        refine GoS.of (T' := T302) (f' := (mkF m 192 #[.val (.int p0), .val (.int p1), .val (.int p2), .val (.int p3), .val (.ref b188), .val (.ref b192), .val (.ref b199), .val (.ref b212), .val (.int (p3 &&& (7 : Int32))), .val (.ref b276), .val (.ref ob_294), .val (.ref b276), .val (.int (1 : Int32)), .unset] [(.ref b276)])) (fun _ k => XS.aload X302.here hx rfl (hb hby at_190) rfl rfl k) ?_
        refine GoS.of (T' := T302) (f' := (mkF m 208 #[.val (.int p0), .val (.int p1), .val (.int p2), .val (.int p3), .val (.ref b188), .val (.ref b192), .val (.ref b199), .val (.ref b212), .val (.int (p3 &&& (7 : Int32))), .val (.ref b276), .val (.ref ob_294), .val (.ref b276), .val (.int (1 : Int32)), .unset] [])) (fun _ k => XS.ifnonnullYes X302.here hx rfl (pc0 := 192) (pc' := 208) rfl (hb hby at_192) rfl (by decide) (by decide) k) ?_
        refine GoS.of (T' := T302) (f' := (mkF m 210 #[.val (.int p0), .val (.int p1), .val (.int p2), .val (.int p3), .val (.ref b188), .val (.ref b192), .val (.ref b199), .val (.ref b212), .val (.int (p3 &&& (7 : Int32))), .val (.ref b276), .val (.ref ob_294), .val (.ref b276), .val (.int (1 : Int32)), .unset] [(.ref b276)])) (fun _ k => XS.aload X302.here hx rfl (hb hby at_208) rfl rfl k) ?_
        refine GoS.of (T' := T302) (f' := (mkF m 212 #[.val (.int p0), .val (.int p1), .val (.int p2), .val (.int p3), .val (.ref b188), .val (.ref b192), .val (.ref b199), .val (.ref b212), .val (.int (p3 &&& (7 : Int32))), .val (.ref b276), .val (.ref ob_294), .val (.ref b276), .val (.int (1 : Int32)), .unset] [(.ref b276), (.ref b276)])) (fun _ k => XS.aload X302.here hx rfl (hb hby at_210) rfl rfl k) ?_
        have f305 : Exa Z T294.heap b276 "java/lang/String" := (Exa.keep f299 K294q)
        obtain ⟨T304, v304, L304, X304, q304, st304⟩ := callVi X302 hx hZ (y := (⟨"java/lang/String", "equals", "(Ljava/lang/Object;)Z"⟩ : MethodName)) (z := (⟨"java/lang/String", "equals", "(Ljava/lang/Object;)Z"⟩ : MethodName)) hown (hw _ (List.mem_of_getElem? (i := 57) rfl)) (hw _ (List.mem_of_getElem? (i := 58) rfl)) (notFace_of_selects (args := #[]) (mvT hZ (hw _ (List.mem_of_getElem? (i := 60) rfl)))) (hw _ (List.mem_of_getElem? (i := 60) rfl)) (hw _ (List.mem_of_getElem? (i := 59) rfl)) (hw _ (List.mem_of_getElem? (i := 61) rfl)) (hw _ (List.mem_of_getElem? (i := 3) rfl)) (by decide) (rm_eqs hw G b276 b276  T294.heap O301 (rfl)) e302 (W := 0) (by decide) (by decide) (by decide) (by decide) f305 (g := (mkF m 212 #[.val (.int p0), .val (.int p1), .val (.int p2), .val (.int p3), .val (.ref b188), .val (.ref b192), .val (.ref b199), .val (.ref b212), .val (.int (p3 &&& (7 : Int32))), .val (.ref b276), .val (.ref ob_294), .val (.ref b276), .val (.int (1 : Int32)), .unset] [(.ref b276), (.ref b276)])) rfl (by rw [hml]; rfl) (argsL := [(.ref b276)]) (rest := []) (lenOf pd__Ljava_lang_Object__Z rfl) rfl rfl (by show 2 * 0 + _ ≤ _; exact Nat.le_of_eq rfl) (hb hby at_212)
        obtain ⟨rfl, e304, rfl⟩ := q304
        have N304 := Fr.app N302 (Fr.nil _)
        refine GoS.of (T' := T304) (f' := (mkF m 215 #[.val (.int p0), .val (.int p1), .val (.int p2), .val (.int p3), .val (.ref b188), .val (.ref b192), .val (.ref b199), .val (.ref b212), .val (.int (p3 &&& (7 : Int32))), .val (.ref b276), .val (.ref ob_294), .val (.ref b276), .val (.int (1 : Int32)), .unset] [(.int (1 : Int32))])) (fun _ k => st304 _ k) ?_
        refine GoS.of (T' := T304) (f' := (mkF m 217 #[.val (.int p0), .val (.int p1), .val (.int p2), .val (.int p3), .val (.ref b188), .val (.ref b192), .val (.ref b199), .val (.ref b212), .val (.int (p3 &&& (7 : Int32))), .val (.ref b276), .val (.ref ob_294), .val (.ref b276), .val (.int (1 : Int32)), .val (.int (1 : Int32))] [])) (fun _ k => XS.istore X304.here hx rfl (hb hby at_215) rfl (l' := #[.val (.int p0), .val (.int p1), .val (.int p2), .val (.int p3), .val (.ref b188), .val (.ref b192), .val (.ref b199), .val (.ref b212), .val (.int (p3 &&& (7 : Int32))), .val (.ref b276), .val (.ref ob_294), .val (.ref b276), .val (.int (1 : Int32)), .val (.int (1 : Int32))]) rfl k) ?_
        refine GoS.of (T' := T304) (f' := (mkF m 219 #[.val (.int p0), .val (.int p1), .val (.int p2), .val (.int p3), .val (.ref b188), .val (.ref b192), .val (.ref b199), .val (.ref b212), .val (.int (p3 &&& (7 : Int32))), .val (.ref b276), .val (.ref ob_294), .val (.ref b276), .val (.int (1 : Int32)), .val (.int (1 : Int32))] [(.int (1 : Int32))])) (fun _ k => XS.iload X304.here hx rfl (hb hby at_217) rfl k) ?_
        refine GoS.of (T' := T304) (f' := (mkF m 222 #[.val (.int p0), .val (.int p1), .val (.int p2), .val (.int p3), .val (.ref b188), .val (.ref b192), .val (.ref b199), .val (.ref b212), .val (.int (p3 &&& (7 : Int32))), .val (.ref b276), .val (.ref ob_294), .val (.ref b276), .val (.int (1 : Int32)), .val (.int (1 : Int32))] [])) (fun _ k => XS.ifNo X304.here hx rfl (hb hby at_219) rfl ((if0 _ _).trans (feq (by decide : ¬ ((1 : Int32) = (0 : Int32)))).1) k) ?_
        refine GoS.of (T' := T304) (f' := (mkF m 224 #[.val (.int p0), .val (.int p1), .val (.int p2), .val (.int p3), .val (.ref b188), .val (.ref b192), .val (.ref b199), .val (.ref b212), .val (.int (p3 &&& (7 : Int32))), .val (.ref b276), .val (.ref ob_294), .val (.ref b276), .val (.int (1 : Int32)), .val (.int (1 : Int32))] [(.int (1 : Int32))])) (fun _ k => XS.iload X304.here hx rfl (hb hby at_222) rfl k) ?_
        refine GoS.of (T' := T304) (f' := (mkF m 227 #[.val (.int p0), .val (.int p1), .val (.int p2), .val (.int p3), .val (.ref b188), .val (.ref b192), .val (.ref b199), .val (.ref b212), .val (.int (p3 &&& (7 : Int32))), .val (.ref b276), .val (.ref ob_294), .val (.ref b276), .val (.int (1 : Int32)), .val (.int (1 : Int32))] [])) (fun _ k => XS.ifNo X304.here hx rfl (hb hby at_224) rfl ((if0 _ _).trans (feq (by decide : ¬ ((1 : Int32) = (0 : Int32)))).1) k) ?_
        refine GoS.of (T' := T304) (f' := (mkF m 229 #[.val (.int p0), .val (.int p1), .val (.int p2), .val (.int p3), .val (.ref b188), .val (.ref b192), .val (.ref b199), .val (.ref b212), .val (.int (p3 &&& (7 : Int32))), .val (.ref b276), .val (.ref ob_294), .val (.ref b276), .val (.int (1 : Int32)), .val (.int (1 : Int32))] [(.ref ob_294)])) (fun _ k => XS.aload X304.here hx rfl (hb hby at_227) rfl rfl k) ?_
        obtain ⟨T308, v308, L308, X308, q308, st308⟩ := callVi X304 hx hZ (y := (⟨"com/example/sealwright/sealwright/Arguments$Option", "kind", "()Lcom/example/sealwright/sealwright/Arguments$Kind;"⟩ : MethodName)) (z := (⟨"com/example/sealwright/sealwright/Arguments$Option", "kind", "()Lcom/example/sealwright/sealwright/Arguments$Kind;"⟩ : MethodName)) hown (hw _ (List.mem_of_getElem? (i := 62) rfl)) (hw _ (List.mem_of_getElem? (i := 63) rfl)) (notFace_of_selects (args := #[]) (mvT hZ (hw _ (List.mem_of_getElem? (i := 65) rfl)))) (hw _ (List.mem_of_getElem? (i := 65) rfl)) (hw _ (List.mem_of_getElem? (i := 64) rfl)) (hw _ (List.mem_of_getElem? (i := 66) rfl)) (hw _ (List.mem_of_getElem? (i := 32) rfl)) (by decide) (rm_kind hw G ob_294  T294.heap O301 p294_3) e304 (W := 0) (by decide) (by decide) (by decide) (by decide) p294_1 (g := (mkF m 229 #[.val (.int p0), .val (.int p1), .val (.int p2), .val (.int p3), .val (.ref b188), .val (.ref b192), .val (.ref b199), .val (.ref b212), .val (.int (p3 &&& (7 : Int32))), .val (.ref b276), .val (.ref ob_294), .val (.ref b276), .val (.int (1 : Int32)), .val (.int (1 : Int32))] [(.ref ob_294)])) rfl (by rw [hml]; rfl) (argsL := []) (rest := []) (lenOf pd___Lcom_example_sealwright_sealwright_Arguments_Kind_ rfl) rfl rfl (by show 2 * 0 + _ ≤ _; exact Nat.le_of_eq rfl) (hb hby at_229)
        obtain ⟨rfl, e308, rfl⟩ := q308
        have N308 := Fr.app N304 (Fr.nil _)
        refine GoS.of (T' := T308) (f' := (mkF m 232 #[.val (.int p0), .val (.int p1), .val (.int p2), .val (.int p3), .val (.ref b188), .val (.ref b192), .val (.ref b199), .val (.ref b212), .val (.int (p3 &&& (7 : Int32))), .val (.ref b276), .val (.ref ob_294), .val (.ref b276), .val (.int (1 : Int32)), .val (.int (1 : Int32))] [(.ref s_FLAG)])) (fun _ k => st308 _ k) ?_
        obtain ⟨T309, X309, e309, st309⟩ := getS2 X308 hx hZ hown (host := "") (Or.inl (hw _ (List.mem_of_getElem? (i := 67) rfl))) Via.refl e308 (Sta.ext O301 S_FLAG) (g := (mkF m 232 #[.val (.int p0), .val (.int p1), .val (.int p2), .val (.int p3), .val (.ref b188), .val (.ref b192), .val (.ref b199), .val (.ref b212), .val (.int (p3 &&& (7 : Int32))), .val (.ref b276), .val (.ref ob_294), .val (.ref b276), .val (.int (1 : Int32)), .val (.int (1 : Int32))] [(.ref s_FLAG)])) rfl (hb hby at_232)
        refine GoS.of (T' := T309) (f' := (mkF m 235 #[.val (.int p0), .val (.int p1), .val (.int p2), .val (.int p3), .val (.ref b188), .val (.ref b192), .val (.ref b199), .val (.ref b212), .val (.int (p3 &&& (7 : Int32))), .val (.ref b276), .val (.ref ob_294), .val (.ref b276), .val (.int (1 : Int32)), .val (.int (1 : Int32))] [(.ref s_FLAG), (.ref s_FLAG)])) (fun _ k => st309 _ k) ?_
        refine GoS.of (T' := T309) (f' := (mkF m 238 #[.val (.int p0), .val (.int p1), .val (.int p2), .val (.int p3), .val (.ref b188), .val (.ref b192), .val (.ref b199), .val (.ref b212), .val (.int (p3 &&& (7 : Int32))), .val (.ref b276), .val (.ref ob_294), .val (.ref b276), .val (.int (1 : Int32)), .val (.int (1 : Int32))] [])) (fun _ k => Jvm.RoadKit.acmp (g := (mkF m 235 #[.val (.int p0), .val (.int p1), .val (.int p2), .val (.int p3), .val (.ref b188), .val (.ref b192), .val (.ref b199), .val (.ref b212), .val (.int (p3 &&& (7 : Int32))), .val (.ref b276), .val (.ref ob_294), .val (.ref b276), .val (.int (1 : Int32)), .val (.int (1 : Int32))] [(.ref s_FLAG), (.ref s_FLAG)])) X309 hx rfl rfl rfl (pc0 := 235) (pc' := 238) (same := true) rfl (hb hby at_235) rfl (decide_eq_true rfl) (by decide) (by decide) k) ?_
        refine GoS.of (T' := T309) (f' := (mkF m 239 #[.val (.int p0), .val (.int p1), .val (.int p2), .val (.int p3), .val (.ref b188), .val (.ref b192), .val (.ref b199), .val (.ref b212), .val (.int (p3 &&& (7 : Int32))), .val (.ref b276), .val (.ref ob_294), .val (.ref b276), .val (.int (1 : Int32)), .val (.int (1 : Int32))] [(.int (1 : Int32))])) (fun _ k => XS.iconst X309.here hx rfl (hb hby at_238) k) ?_
        refine GoS.of (T' := T309) (f' := (mkF m 243 #[.val (.int p0), .val (.int p1), .val (.int p2), .val (.int p3), .val (.ref b188), .val (.ref b192), .val (.ref b199), .val (.ref b212), .val (.int (p3 &&& (7 : Int32))), .val (.ref b276), .val (.ref ob_294), .val (.ref b276), .val (.int (1 : Int32)), .val (.int (1 : Int32))] [(.int (1 : Int32))])) (fun _ k => XS.goto X309.here hx rfl (pc0 := 239) (pc' := 243) rfl (hb hby at_239) (by decide) (by decide) k) ?_
        exact GoS.retB X309 hx hlk hS hk hZ hEL C300 e309 hret (by simp) (hb hby at_243) (by decide) (by decide) (z' := (1 : Int32)) rfl (by rw [e309]; exact ⟨rfl, N308, K301⟩)
      · skip
        refine GoS.of (T' := T226) (f' := (mkF m 131 #[.val (.int p0), .val (.int p1), .val (.int p2), .val (.int p3), .val (.ref b188), .val (.ref b192), .val (.ref b199), .val (.ref b212), .val (.int (p3 &&& (7 : Int32))), .unset, .unset, .unset, .unset, .unset] [])) (fun _ k => XS.icmpYes X226.here hx rfl (pc0 := 114) (pc' := 131) rfl (hb hby at_114) rfl (feq hc275).2 (by decide) (by decide) k) ?_
        refine GoS.of (T' := T226) (f' := (mkF m 133 #[.val (.int p0), .val (.int p1), .val (.int p2), .val (.int p3), .val (.ref b188), .val (.ref b192), .val (.ref b199), .val (.ref b212), .val (.int (p3 &&& (7 : Int32))), .unset, .unset, .unset, .unset, .unset] [(.int (p3 &&& (7 : Int32)))])) (fun _ k => XS.iload X226.here hx rfl (hb hby at_131) rfl k) ?_
        refine GoS.of (T' := T226) (f' := (mkF m 134 #[.val (.int p0), .val (.int p1), .val (.int p2), .val (.int p3), .val (.ref b188), .val (.ref b192), .val (.ref b199), .val (.ref b212), .val (.int (p3 &&& (7 : Int32))), .unset, .unset, .unset, .unset, .unset] [(.int (2 : Int32)), (.int (p3 &&& (7 : Int32)))])) (fun _ k => XS.iconst X226.here hx rfl (hb hby at_133) k) ?_
        by_cases hc311 : (p3 &&& (7 : Int32)) = (2 : Int32)
        · skip
          refine GoS.of (T' := T226) (f' := (mkF m 137 #[.val (.int p0), .val (.int p1), .val (.int p2), .val (.int p3), .val (.ref b188), .val (.ref b192), .val (.ref b199), .val (.ref b212), .val (.int (p3 &&& (7 : Int32))), .unset, .unset, .unset, .unset, .unset] [])) (fun _ k => XS.icmpNo X226.here hx rfl (hb hby at_134) rfl (teq hc311).2 k) ?_
          have f313 : Exa Z h226 b188 "[C" := (Exa.wr W226 (Exa.wr W222 (Exa.wr W219 (Exa.ext E212 f213))))
          have f314 : Exa Z h226 b192 "[C" := (Exa.wr W226 (Exa.wr W222 (Exa.wr W219 (Exa.ext E212 f214))))
          have f315 : Exa Z h226 b199 "[C" := (Exa.wr W226 (Exa.wr W222 (Exa.wr W219 (Exa.ext E212 f215))))
          have f316 : Exa Z h226 b212 "[C" := (Exa.wr W226 f228)
          obtain ⟨T312, h312, b312, q312, X312, e312, E312, A312, D312, st312⟩ := newOb X226 hx hZ hown (hw _ (List.mem_of_getElem? (i := 1) rfl)) (hw _ (List.mem_of_getElem? (i := 2) rfl)) (hw _ (List.mem_of_getElem? (i := 3) rfl)) e226 (g := (mkF m 137 #[.val (.int p0), .val (.int p1), .val (.int p2), .val (.int p3), .val (.ref b188), .val (.ref b192), .val (.ref b199), .val (.ref b212), .val (.int (p3 &&& (7 : Int32))), .unset, .unset, .unset, .unset, .unset] [])) rfl (hb hby at_137) (by decide) (by decide)
          have O318 := Old0.ext O229 E312
          have K318 := Keep.ext K229 E312
          have C317 := CHr.trans C227 (CHr.ext E312 C227.1)
          have hk := Nat.le_trans hk E312.1
          have g_b312 : Z.heap.size ≤ b312 := q312 ▸ O229.1
          have z_b312 : h0.size ≤ b312 := q312 ▸ K229.1
          have ne_b188_b312 : b188 ≠ b312 := q312 ▸ Nat.ne_of_lt f313.lt
          have ne_b192_b312 : b192 ≠ b312 := q312 ▸ Nat.ne_of_lt f314.lt
          have ne_b199_b312 : b199 ≠ b312 := q312 ▸ Nat.ne_of_lt f315.lt
          have ne_b212_b312 : b212 ≠ b312 := q312 ▸ Nat.ne_of_lt f316.lt
          have f319 : Fld Z h312 b312 "java/lang/String" "coder" "B" (.int (0 : Int32)) := D312 (Or.inr (hw _ (List.mem_of_getElem? (i := 27) rfl))) (ty := .byte) (by decide)
          have f320 : Fld Z h312 b312 "java/lang/String" "value" "[B" .null := D312 (Or.inr (hw _ (List.mem_of_getElem? (i := 29) rfl))) (ty := (.array .byte)) (by decide)
          refine GoS.of (T' := T312) (f' := (mkF m 140 #[.val (.int p0), .val (.int p1), .val (.int p2), .val (.int p3), .val (.ref b188), .val (.ref b192), .val (.ref b199), .val (.ref b212), .val (.int (p3 &&& (7 : Int32))), .unset, .unset, .unset, .unset, .unset] [(.ref b312)])) (fun _ k => st312 _ k) ?_
          refine GoS.of (T' := T312) (f' := (mkF m 141 #[.val (.int p0), .val (.int p1), .val (.int p2), .val (.int p3), .val (.ref b188), .val (.ref b192), .val (.ref b199), .val (.ref b212), .val (.int (p3 &&& (7 : Int32))), .unset, .unset, .unset, .unset, .unset] [(.ref b312), (.ref b312)])) (fun _ k => XS.dup X312.here hx rfl (hb hby at_140) rfl rfl k) ?_
          refine GoS.of (T' := T312) (f' := (mkF m 143 #[.val (.int p0), .val (.int p1), .val (.int p2), .val (.int p3), .val (.ref b188), .val (.ref b192), .val (.ref b199), .val (.ref b212), .val (.int (p3 &&& (7 : Int32))), .unset, .unset, .unset, .unset, .unset] [(.ref b199), (.ref b312), (.ref b312)])) (fun _ k => XS.aload X312.here hx rfl (hb hby at_141) rfl rfl k) ?_
          have f322 : Arv Z h312 b199 k199 .char (2 : Int32) [(.int (p0 &&& (255 : Int32))), (.int (p1 &&& (255 : Int32)))] (.int (0 : Int32)) := (Arv.ext (Arv.other (Arv.other (Arv.other (Arv.ext f208 E212) W219 ne_b199_b212) W222 ne_b199_b212) W226 ne_b199_b212) E312)
          have f323 : Exa Z h312 b188 "[C" := (Exa.ext E312 f313)
          have f324 : Exa Z h312 b192 "[C" := (Exa.ext E312 f314)
          have f325 : Exa Z h312 b199 "[C" := (Exa.ext E312 f315)
          have f326 : Exa Z h312 b212 "[C" := (Exa.ext E312 f316)
          obtain ⟨T321, v321, L321, X321, q321, st321⟩ := callNew X312 hx hZ (y := (⟨"java/lang/String", "<init>", "([C)V"⟩ : MethodName)) rfl hown (hw _ (List.mem_of_getElem? (i := 4) rfl)) (hw _ (List.mem_of_getElem? (i := 5) rfl)) (hw _ (List.mem_of_getElem? (i := 3) rfl)) (hw _ (List.mem_of_getElem? (i := 6) rfl)) (by decide) (rm_str_2 hw G b312 b199 k199 ((p0 &&& (255 : Int32))) ((p1 &&& (255 : Int32))) h312 O318 (own_le255 _) (own_le255 _) A312 f320 f319 g_b312 f322 (Ne.symm ne_b199_b312)) e312 (W := 1) (by decide) (by decide) (by decide) (by decide) (g := (mkF m 143 #[.val (.int p0), .val (.int p1), .val (.int p2), .val (.int p3), .val (.ref b188), .val (.ref b192), .val (.ref b199), .val (.ref b212), .val (.int (p3 &&& (7 : Int32))), .unset, .unset, .unset, .unset, .unset] [(.ref b199), (.ref b312), (.ref b312)])) rfl (by rw [hml]; rfl) (a := b312) (argsL := [(.ref b199)]) (rest := [(.ref b312)]) (lenOf pd___C_V rfl) rfl rfl (by show 2 * 0 + _ ≤ _; exact Nat.le_of_eq rfl) (hb hby at_143)
          obtain ⟨da_321, kd_321, rfl, N321q, K321q, p321_0, p321_1, p321_2, p321_3, p321_4⟩ := q321
          have N321 := Fr.app N226 N321q
          have sf328 : Safe Z own_EL s.vm h312 b312 := (Safe.ext E312 C227.1 (Safe.new (Nat.le_of_eq q312.symm)))
          have O329 := Old0.keep O318 K321q (allS g_b312 all0)
          have K329 := Keep.trans K318 K321q (allS (Or.inr z_b312) all0)
          have C327 := CHr.trans C317 (CHr.keep K321q (sfS sf328 sf0) C317.1)
          have hk := Nat.le_trans hk K321q.1
          have z_da_321 : h0.size ≤ da_321 := Nat.le_trans K318.1 p321_0
          have g_da_321 : Z.heap.size ≤ da_321 := Nat.le_trans O318.1 p321_0
          have ne_b188_da_321 : b188 ≠ da_321 := Nat.ne_of_lt (Nat.lt_of_lt_of_le f323.lt p321_0)
          have ne_b192_da_321 : b192 ≠ da_321 := Nat.ne_of_lt (Nat.lt_of_lt_of_le f324.lt p321_0)
          have ne_b199_da_321 : b199 ≠ da_321 := Nat.ne_of_lt (Nat.lt_of_lt_of_le f325.lt p321_0)
          have ne_b212_da_321 : b212 ≠ da_321 := Nat.ne_of_lt (Nat.lt_of_lt_of_le f326.lt p321_0)
          have ne_b312_da_321 : b312 ≠ da_321 := Nat.ne_of_lt (Nat.lt_of_lt_of_le A312.lt p321_0)
          refine GoS.of (T' := T321) (f' := (mkF m 146 #[.val (.int p0), .val (.int p1), .val (.int p2), .val (.int p3), .val (.ref b188), .val (.ref b192), .val (.ref b199), .val (.ref b212), .val (.int (p3 &&& (7 : Int32))), .unset, .unset, .unset, .unset, .unset] [(.ref b312)])) (fun _ k => st321 _ k) ?_
          refine GoS.of (T' := T321) (f' := (mkF m 148 #[.val (.int p0), .val (.int p1), .val (.int p2), .val (.int p3), .val (.ref b188), .val (.ref b192), .val (.ref b199), .val (.ref b212), .val (.int (p3 &&& (7 : Int32))), .val (.ref b312), .unset, .unset, .unset, .unset] [])) (fun _ k => XS.astore X321.here hx rfl (hb hby at_146) rfl rfl (l' := #[.val (.int p0), .val (.int p1), .val (.int p2), .val (.int p3), .val (.ref b188), .val (.ref b192), .val (.ref b199), .val (.ref b212), .val (.int (p3 &&& (7 : Int32))), .val (.ref b312), .unset, .unset, .unset, .unset]) rfl k) ?_
          refine GoS.of (T' := T321) (f' := (mkF m 162 #[.val (.int p0), .val (.int p1), .val (.int p2), .val (.int p3), .val (.ref b188), .val (.ref b192), .val (.ref b199), .val (.ref b212), .val (.int (p3 &&& (7 : Int32))), .val (.ref b312), .unset, .unset, .unset, .unset] [])) (fun _ k => XS.goto X321.here hx rfl (pc0 := 148) (pc' := 162) rfl (hb hby at_148) (by decide) (by decide) k) ?_
          refine GoS.of (T' := T321) (f' := (mkF m 164 #[.val (.int p0), .val (.int p1), .val (.int p2), .val (.int p3), .val (.ref b188), .val (.ref b192), .val (.ref b199), .val (.ref b212), .val (.int (p3 &&& (7 : Int32))), .val (.ref b312), .unset, .unset, .unset, .unset] [(.ref b312)])) (fun _ k => XS.aload X321.here hx rfl (hb hby at_162) rfl rfl k) ?_
          have f331 : Exa Z T321.heap b188 "[C" := (Exa.keep f323 K321q)
          have f332 : Exa Z T321.heap b192 "[C" := (Exa.keep f324 K321q)
          have f333 : Exa Z T321.heap b199 "[C" := (Exa.keep f325 K321q)
          have f334 : Exa Z T321.heap b212 "[C" := (Exa.keep f326 K321q)
          have f335 : Exa Z T321.heap b312 "java/lang/String" := (Exa.keep A312 K321q)
          obtain ⟨T330, v330, L330, X330, q330, st330⟩ := callSt X321 hx hZ (y := (⟨"com/example/sealwright/sealwright/Arguments$Option", "flag", "(Ljava/lang/String;)Lcom/example/sealwright/sealwright/Arguments$Option;"⟩ : MethodName)) hown (hw _ (List.mem_of_getElem? (i := 30) rfl)) (hw _ (List.mem_of_getElem? (i := 31) rfl)) (hw _ (List.mem_of_getElem? (i := 32) rfl)) (hw _ (List.mem_of_getElem? (i := 33) rfl)) (by decide) (rm_flag_r hw G b312  T321.heap O329 ) rfl (W := 0) (by decide) (by decide) (by decide) (by decide) (g := (mkF m 164 #[.val (.int p0), .val (.int p1), .val (.int p2), .val (.int p3), .val (.ref b188), .val (.ref b192), .val (.ref b199), .val (.ref b212), .val (.int (p3 &&& (7 : Int32))), .val (.ref b312), .unset, .unset, .unset, .unset] [(.ref b312)])) rfl (by rw [hml]; rfl) (argsL := [(.ref b312)]) (rest := []) (lenOf pd__Ljava_lang_String__Lcom_example_sealwright_sealwright_Arguments_Option_ rfl) rfl rfl (by show 2 * 0 + _ ≤ _; exact Nat.le_of_eq rfl) (hb hby at_164)
          obtain ⟨ob_330, rfl, N330q, K330q, p330_0, p330_1, p330_2, p330_3⟩ := q330
          have N330 := Fr.app N321 N330q
          have O337 := Old0.keep O329 K330q all0
          have K337 := Keep.trans K329 K330q all0
          have C336 := CHr.trans C327 (CHr.keep K330q sf0 C327.1)
          have hk := Nat.le_trans hk K330q.1
          have z_ob_330 : h0.size ≤ ob_330 := Nat.le_trans K329.1 p330_0
          have g_ob_330 : Z.heap.size ≤ ob_330 := Nat.le_trans O329.1 p330_0
          have ne_b188_ob_330 : b188 ≠ ob_330 := Nat.ne_of_lt (Nat.lt_of_lt_of_le f331.lt p330_0)
          have ne_b192_ob_330 : b192 ≠ ob_330 := Nat.ne_of_lt (Nat.lt_of_lt_of_le f332.lt p330_0)
          have ne_b199_ob_330 : b199 ≠ ob_330 := Nat.ne_of_lt (Nat.lt_of_lt_of_le f333.lt p330_0)
          have ne_b212_ob_330 : b212 ≠ ob_330 := Nat.ne_of_lt (Nat.lt_of_lt_of_le f334.lt p330_0)
          have ne_b312_ob_330 : b312 ≠ ob_330 := Nat.ne_of_lt (Nat.lt_of_lt_of_le f335.lt p330_0)
          have ne_da_321_ob_330 : da_321 ≠ ob_330 := Nat.ne_of_lt (Nat.lt_of_lt_of_le p321_4.lt p330_0)
          refine GoS.of (T' := T330) (f' := (mkF m 167 #[.val (.int p0), .val (.int p1), .val (.int p2), .val (.int p3), .val (.ref b188), .val (.ref b192), .val (.ref b199), .val (.ref b212), .val (.int (p3 &&& (7 : Int32))), .val (.ref b312), .unset, .unset, .unset, .unset] [(.ref ob_330)])) (fun _ k => st330 _ k) ?_
          refine GoS.of (T' := T330) (f' := (mkF m 169 #[.val (.int p0), .val (.int p1), .val (.int p2), .val (.int p3), .val (.ref b188), .val (.ref b192), .val (.ref b199), .val (.ref b212), .val (.int (p3 &&& (7 : Int32))), .val (.ref b312), .val (.ref ob_330), .unset, .unset, .unset] [])) (fun _ k => XS.astore X330.here hx rfl (hb hby at_167) rfl rfl (l' := #[.val (.int p0), .val (.int p1), .val (.int p2), .val (.int p3), .val (.ref b188), .val (.ref b192), .val (.ref b199), .val (.ref b212), .val (.int (p3 &&& (7 : Int32))), .val (.ref b312), .val (.ref ob_330), .unset, .unset, .unset]) rfl k) ?_
          refine GoS.of (T' := T330) (f' := (mkF m 171 #[.val (.int p0), .val (.int p1), .val (.int p2), .val (.int p3), .val (.ref b188), .val (.ref b192), .val (.ref b199), .val (.ref b212), .val (.int (p3 &&& (7 : Int32))), .val (.ref b312), .val (.ref ob_330), .unset, .unset, .unset] [(.ref ob_330)])) (fun _ k => XS.aload X330.here hx rfl (hb hby at_169) rfl rfl k) ?_
          obtain ⟨T338, v338, L338, X338, q338, st338⟩ := callVi X330 hx hZ (y := (⟨"com/example/sealwright/sealwright/Arguments$Option", "name", "()Ljava/lang/String;"⟩ : MethodName)) (z := (⟨"com/example/sealwright/sealwright/Arguments$Option", "name", "()Ljava/lang/String;"⟩ : MethodName)) hown (hw _ (List.mem_of_getElem? (i := 52) rfl)) (hw _ (List.mem_of_getElem? (i := 53) rfl)) (notFace_of_selects (args := #[]) (mvT hZ (hw _ (List.mem_of_getElem? (i := 55) rfl)))) (hw _ (List.mem_of_getElem? (i := 55) rfl)) (hw _ (List.mem_of_getElem? (i := 54) rfl)) (hw _ (List.mem_of_getElem? (i := 56) rfl)) (hw _ (List.mem_of_getElem? (i := 32) rfl)) (by decide) (rm_name_r hw G ob_330 b312 T330.heap O337 p330_2) rfl (W := 0) (by decide) (by decide) (by decide) (by decide) p330_1 (g := (mkF m 171 #[.val (.int p0), .val (.int p1), .val (.int p2), .val (.int p3), .val (.ref b188), .val (.ref b192), .val (.ref b199), .val (.ref b212), .val (.int (p3 &&& (7 : Int32))), .val (.ref b312), .val (.ref ob_330), .unset, .unset, .unset] [(.ref ob_330)])) rfl (by rw [hml]; rfl) (argsL := []) (rest := []) (lenOf pd___Ljava_lang_String_ rfl) rfl rfl (by show 2 * 0 + _ ≤ _; exact Nat.le_of_eq rfl) (hb hby at_171)
          obtain ⟨rfl, e338, rfl⟩ := q338
          have N338 := Fr.app N330 (Fr.nil _)
          refine GoS.of (T' := T338) (f' := (mkF m 174 #[.val (.int p0), .val (.int p1), .val (.int p2), .val (.int p3), .val (.ref b188), .val (.ref b192), .val (.ref b199), .val (.ref b212), .val (.int (p3 &&& (7 : Int32))), .val (.ref b312), .val (.ref ob_330), .unset, .unset, .unset] [(.ref b312)])) (fun _ k => st338 _ k) ?_
          refine GoS.of (T' := T338) (f' := (mkF m 176 #[.val (.int p0), .val (.int p1), .val (.int p2), .val (.int p3), .val (.ref b188), .val (.ref b192), .val (.ref b199), .val (.ref b212), .val (.int (p3 &&& (7 : Int32))), .val (.ref b312), .val (.ref ob_330), .val (.ref b312), .unset, .unset] [])) (fun _ k => XS.astore X338.here hx rfl (hb hby at_174) rfl rfl (l' := #[.val (.int p0), .val (.int p1), .val (.int p2), .val (.int p3), .val (.ref b188), .val (.ref b192), .val (.ref b199), .val (.ref b212), .val (.int (p3 &&& (7 : Int32))), .val (.ref b312), .val (.ref ob_330), .val (.ref b312), .unset, .unset]) rfl k) ?_
          refine GoS.of (T' := T338) (f' := (mkF m 178 #[.val (.int p0), .val (.int p1), .val (.int p2), .val (.int p3), .val (.ref b188), .val (.ref b192), .val (.ref b199), .val (.ref b212), .val (.int (p3 &&& (7 : Int32))), .val (.ref b312), .val (.ref ob_330), .val (.ref b312), .unset, .unset] [(.ref b312)])) (fun _ k => XS.aload X338.here hx rfl (hb hby at_176) rfl rfl k) ?_
          refine GoS.of (T' := T338) (f' := (mkF m 180 #[.val (.int p0), .val (.int p1), .val (.int p2), .val (.int p3), .val (.ref b188), .val (.ref b192), .val (.ref b199), .val (.ref b212), .val (.int (p3 &&& (7 : Int32))), .val (.ref b312), .val (.ref ob_330), .val (.ref b312), .unset, .unset] [(.ref b312), (.ref b312)])) (fun _ k => XS.aload X338.here hx rfl (hb hby at_178) rfl rfl k) ?_
          refine GoS.of (T' := T338) (f' := (mkF m 183 #[.val (.int p0), .val (.int p1), .val (.int p2), .val (.int p3), .val (.ref b188), .val (.ref b192), .val (.ref b199), .val (.ref b212), .val (.int (p3 &&& (7 : Int32))), .val (.ref b312), .val (.ref ob_330), .val (.ref b312), .unset, .unset] [])) (fun _ k => Jvm.RoadKit.acmp (g := (mkF m 180 #[.val (.int p0), .val (.int p1), .val (.int p2), .val (.int p3), .val (.ref b188), .val (.ref b192), .val (.ref b199), .val (.ref b212), .val (.int (p3 &&& (7 : Int32))), .val (.ref b312), .val (.ref ob_330), .val (.ref b312), .unset, .unset] [(.ref b312), (.ref b312)])) X338 hx rfl rfl rfl (pc0 := 180) (pc' := 183) (same := true) rfl (hb hby at_180) rfl (decide_eq_true rfl) (by decide) (by decide) k) ?_
          refine GoS.of (T' := T338) (f' := (mkF m 184 #[.val (.int p0), .val (.int p1), .val (.int p2), .val (.int p3), .val (.ref b188), .val (.ref b192), .val (.ref b199), .val (.ref b212), .val (.int (p3 &&& (7 : Int32))), .val (.ref b312), .val (.ref ob_330), .val (.ref b312), .unset, .unset] [(.int (1 : Int32))])) (fun _ k => XS.iconst X338.here hx rfl (hb hby at_183) k) ?_
          refine GoS.of (T' := T338) (f' := (mkF m 188 #[.val (.int p0), .val (.int p1), .val (.int p2), .val (.int p3), .val (.ref b188), .val (.ref b192), .val (.ref b199), .val (.ref b212), .val (.int (p3 &&& (7 : Int32))), .val (.ref b312), .val (.ref ob_330), .val (.ref b312), .unset, .unset] [(.int (1 : Int32))])) (fun _ k => XS.goto X338.here hx rfl (pc0 := 184) (pc' := 188) rfl (hb hby at_184) (by decide) (by decide) k) ?_
          refine GoS.of (T' := T338) (f' := (mkF m 190 #[.val (.int p0), .val (.int p1), .val (.int p2), .val (.int p3), .val (.ref b188), .val (.ref b192), .val (.ref b199), .val (.ref b212), .val (.int (p3 &&& (7 : Int32))), .val (.ref b312), .val (.ref ob_330), .val (.ref b312), .val (.int (1 : Int32)), .unset] [])) (fun _ k => XS.istore X338.here hx rfl (hb hby at_188) rfl (l' := #[.val (.int p0), .val (.int p1), .val (.int p2), .val (.int p3), .val (.ref b188), .val (.ref b192), .val (.ref b199), .val (.ref b212), .val (.int (p3 &&& (7 : Int32))), .val (.ref b312), .val (.ref ob_330), .val (.ref b312), .val (.int (1 : Int32)), .unset]) rfl k) ?_
          refine GoS.of (T' := T338) (f' := (mkF m 192 #[.val (.int p0), .val (.int p1), .val (.int p2), .val (.int p3), .val (.ref b188), .val (.ref b192), .val (.ref b199), .val (.ref b212), .val (.int (p3 &&& (7 : Int32))), .val (.ref b312), .val (.ref ob_330), .val (.ref b312), .val (.int (1 : Int32)), .unset] [(.ref b312)])) (fun _ k => XS.aload X338.here hx rfl (hb hby at_190) rfl rfl k) ?_
          refine GoS.of (T' := T338) (f' := (mkF m 208 #[.val (.int p0), .val (.int p1), .val (.int p2), .val (.int p3), .val (.ref b188), .val (.ref b192), .val (.ref b199), .val (.ref b212), .val (.int (p3 &&& (7 : Int32))), .val (.ref b312), .val (.ref ob_330), .val (.ref b312), .val (.int (1 : Int32)), .unset] [])) (fun _ k => XS.ifnonnullYes X338.here hx rfl (pc0 := 192) (pc' := 208) rfl (hb hby at_192) rfl (by decide) (by decide) k) ?_
          refine GoS.of (T' := T338) (f' := (mkF m 210 #[.val (.int p0), .val (.int p1), .val (.int p2), .val (.int p3), .val (.ref b188), .val (.ref b192), .val (.ref b199), .val (.ref b212), .val (.int (p3 &&& (7 : Int32))), .val (.ref b312), .val (.ref ob_330), .val (.ref b312), .val (.int (1 : Int32)), .unset] [(.ref b312)])) (fun _ k => XS.aload X338.here hx rfl (hb hby at_208) rfl rfl k) ?_
          refine GoS.of (T' := T338) (f' := (mkF m 212 #[.val (.int p0), .val (.int p1), .val (.int p2), .val (.int p3), .val (.ref b188), .val (.ref b192), .val (.ref b199), .val (.ref b212), .val (.int (p3 &&& (7 : Int32))), .val (.ref b312), .val (.ref ob_330), .val (.ref b312), .val (.int (1 : Int32)), .unset] [(.ref b312), (.ref b312)])) (fun _ k => XS.aload X338.here hx rfl (hb hby at_210) rfl rfl k) ?_
          have f341 : Exa Z T330.heap b312 "java/lang/String" := (Exa.keep f335 K330q)
          obtain ⟨T340, v340, L340, X340, q340, st340⟩ := callVi X338 hx hZ (y := (⟨"java/lang/String", "equals", "(Ljava/lang/Object;)Z"⟩ : MethodName)) (z := (⟨"java/lang/String", "equals", "(Ljava/lang/Object;)Z"⟩ : MethodName)) hown (hw _ (List.mem_of_getElem? (i := 57) rfl)) (hw _ (List.mem_of_getElem? (i := 58) rfl)) (notFace_of_selects (args := #[]) (mvT hZ (hw _ (List.mem_of_getElem? (i := 60) rfl)))) (hw _ (List.mem_of_getElem? (i := 60) rfl)) (hw _ (List.mem_of_getElem? (i := 59) rfl)) (hw _ (List.mem_of_getElem? (i := 61) rfl)) (hw _ (List.mem_of_getElem? (i := 3) rfl)) (by decide) (rm_eqs hw G b312 b312  T330.heap O337 (rfl)) e338 (W := 0) (by decide) (by decide) (by decide) (by decide) f341 (g := (mkF m 212 #[.val (.int p0), .val (.int p1), .val (.int p2), .val (.int p3), .val (.ref b188), .val (.ref b192), .val (.ref b199), .val (.ref b212), .val (.int (p3 &&& (7 : Int32))), .val (.ref b312), .val (.ref ob_330), .val (.ref b312), .val (.int (1 : Int32)), .unset] [(.ref b312), (.ref b312)])) rfl (by rw [hml]; rfl) (argsL := [(.ref b312)]) (rest := []) (lenOf pd__Ljava_lang_Object__Z rfl) rfl rfl (by show 2 * 0 + _ ≤ _; exact Nat.le_of_eq rfl) (hb hby at_212)
          obtain ⟨rfl, e340, rfl⟩ := q340
          have N340 := Fr.app N338 (Fr.nil _)
          refine GoS.of (T' := T340) (f' := (mkF m 215 #[.val (.int p0), .val (.int p1), .val (.int p2), .val (.int p3), .val (.ref b188), .val (.ref b192), .val (.ref b199), .val (.ref b212), .val (.int (p3 &&& (7 : Int32))), .val (.ref b312), .val (.ref ob_330), .val (.ref b312), .val (.int (1 : Int32)), .unset] [(.int (1 : Int32))])) (fun _ k => st340 _ k) ?_
          refine GoS.of (T' := T340) (f' := (mkF m 217 #[.val (.int p0), .val (.int p1), .val (.int p2), .val (.int p3), .val (.ref b188), .val (.ref b192), .val (.ref b199), .val (.ref b212), .val (.int (p3 &&& (7 : Int32))), .val (.ref b312), .val (.ref ob_330), .val (.ref b312), .val (.int (1 : Int32)), .val (.int (1 : Int32))] [])) (fun _ k => XS.istore X340.here hx rfl (hb hby at_215) rfl (l' := #[.val (.int p0), .val (.int p1), .val (.int p2), .val (.int p3), .val (.ref b188), .val (.ref b192), .val (.ref b199), .val (.ref b212), .val (.int (p3 &&& (7 : Int32))), .val (.ref b312), .val (.ref ob_330), .val (.ref b312), .val (.int (1 : Int32)), .val (.int (1 : Int32))]) rfl k) ?_
          refine GoS.of (T' := T340) (f' := (mkF m 219 #[.val (.int p0), .val (.int p1), .val (.int p2), .val (.int p3), .val (.ref b188), .val (.ref b192), .val (.ref b199), .val (.ref b212), .val (.int (p3 &&& (7 : Int32))), .val (.ref b312), .val (.ref ob_330), .val (.ref b312), .val (.int (1 : Int32)), .val (.int (1 : Int32))] [(.int (1 : Int32))])) (fun _ k => XS.iload X340.here hx rfl (hb hby at_217) rfl k) ?_
          refine GoS.of (T' := T340) (f' := (mkF m 222 #[.val (.int p0), .val (.int p1), .val (.int p2), .val (.int p3), .val (.ref b188), .val (.ref b192), .val (.ref b199), .val (.ref b212), .val (.int (p3 &&& (7 : Int32))), .val (.ref b312), .val (.ref ob_330), .val (.ref b312), .val (.int (1 : Int32)), .val (.int (1 : Int32))] [])) (fun _ k => XS.ifNo X340.here hx rfl (hb hby at_219) rfl ((if0 _ _).trans (feq (by decide : ¬ ((1 : Int32) = (0 : Int32)))).1) k) ?_
          refine GoS.of (T' := T340) (f' := (mkF m 224 #[.val (.int p0), .val (.int p1), .val (.int p2), .val (.int p3), .val (.ref b188), .val (.ref b192), .val (.ref b199), .val (.ref b212), .val (.int (p3 &&& (7 : Int32))), .val (.ref b312), .val (.ref ob_330), .val (.ref b312), .val (.int (1 : Int32)), .val (.int (1 : Int32))] [(.int (1 : Int32))])) (fun _ k => XS.iload X340.here hx rfl (hb hby at_222) rfl k) ?_
          refine GoS.of (T' := T340) (f' := (mkF m 227 #[.val (.int p0), .val (.int p1), .val (.int p2), .val (.int p3), .val (.ref b188), .val (.ref b192), .val (.ref b199), .val (.ref b212), .val (.int (p3 &&& (7 : Int32))), .val (.ref b312), .val (.ref ob_330), .val (.ref b312), .val (.int (1 : Int32)), .val (.int (1 : Int32))] [])) (fun _ k => XS.ifNo X340.here hx rfl (hb hby at_224) rfl ((if0 _ _).trans (feq (by decide : ¬ ((1 : Int32) = (0 : Int32)))).1) k) ?_
          refine GoS.of (T' := T340) (f' := (mkF m 229 #[.val (.int p0), .val (.int p1), .val (.int p2), .val (.int p3), .val (.ref b188), .val (.ref b192), .val (.ref b199), .val (.ref b212), .val (.int (p3 &&& (7 : Int32))), .val (.ref b312), .val (.ref ob_330), .val (.ref b312), .val (.int (1 : Int32)), .val (.int (1 : Int32))] [(.ref ob_330)])) (fun _ k => XS.aload X340.here hx rfl (hb hby at_227) rfl rfl k) ?_
          obtain ⟨T344, v344, L344, X344, q344, st344⟩ := callVi X340 hx hZ (y := (⟨"com/example/sealwright/sealwright/Arguments$Option", "kind", "()Lcom/example/sealwright/sealwright/Arguments$Kind;"⟩ : MethodName)) (z := (⟨"com/example/sealwright/sealwright/Arguments$Option", "kind", "()Lcom/example/sealwright/sealwright/Arguments$Kind;"⟩ : MethodName)) hown (hw _ (List.mem_of_getElem? (i := 62) rfl)) (hw _ (List.mem_of_getElem? (i := 63) rfl)) (notFace_of_selects (args := #[]) (mvT hZ (hw _ (List.mem_of_getElem? (i := 65) rfl)))) (hw _ (List.mem_of_getElem? (i := 65) rfl)) (hw _ (List.mem_of_getElem? (i := 64) rfl)) (hw _ (List.mem_of_getElem? (i := 66) rfl)) (hw _ (List.mem_of_getElem? (i := 32) rfl)) (by decide) (rm_kind hw G ob_330  T330.heap O337 p330_3) e340 (W := 0) (by decide) (by decide) (by decide) (by decide) p330_1 (g := (mkF m 229 #[.val (.int p0), .val (.int p1), .val (.int p2), .val (.int p3), .val (.ref b188), .val (.ref b192), .val (.ref b199), .val (.ref b212), .val (.int (p3 &&& (7 : Int32))), .val (.ref b312), .val (.ref ob_330), .val (.ref b312), .val (.int (1 : Int32)), .val (.int (1 : Int32))] [(.ref ob_330)])) rfl (by rw [hml]; rfl) (argsL := []) (rest := []) (lenOf pd___Lcom_example_sealwright_sealwright_Arguments_Kind_ rfl) rfl rfl (by show 2 * 0 + _ ≤ _; exact Nat.le_of_eq rfl) (hb hby at_229)
          obtain ⟨rfl, e344, rfl⟩ := q344
          have N344 := Fr.app N340 (Fr.nil _)
          refine GoS.of (T' := T344) (f' := (mkF m 232 #[.val (.int p0), .val (.int p1), .val (.int p2), .val (.int p3), .val (.ref b188), .val (.ref b192), .val (.ref b199), .val (.ref b212), .val (.int (p3 &&& (7 : Int32))), .val (.ref b312), .val (.ref ob_330), .val (.ref b312), .val (.int (1 : Int32)), .val (.int (1 : Int32))] [(.ref s_FLAG)])) (fun _ k => st344 _ k) ?_
          obtain ⟨T345, X345, e345, st345⟩ := getS2 X344 hx hZ hown (host := "") (Or.inl (hw _ (List.mem_of_getElem? (i := 67) rfl))) Via.refl e344 (Sta.ext O337 S_FLAG) (g := (mkF m 232 #[.val (.int p0), .val (.int p1), .val (.int p2), .val (.int p3), .val (.ref b188), .val (.ref b192), .val (.ref b199), .val (.ref b212), .val (.int (p3 &&& (7 : Int32))), .val (.ref b312), .val (.ref ob_330), .val (.ref b312), .val (.int (1 : Int32)), .val (.int (1 : Int32))] [(.ref s_FLAG)])) rfl (hb hby at_232)
          refine GoS.of (T' := T345) (f' := (mkF m 235 #[.val (.int p0), .val (.int p1), .val (.int p2), .val (.int p3), .val (.ref b188), .val (.ref b192), .val (.ref b199), .val (.ref b212), .val (.int (p3 &&& (7 : Int32))), .val (.ref b312), .val (.ref ob_330), .val (.ref b312), .val (.int (1 : Int32)), .val (.int (1 : Int32))] [(.ref s_FLAG), (.ref s_FLAG)])) (fun _ k => st345 _ k) ?_
          refine GoS.of (T' := T345) (f' := (mkF m 238 #[.val (.int p0), .val (.int p1), .val (.int p2), .val (.int p3), .val (.ref b188), .val (.ref b192), .val (.ref b199), .val (.ref b212), .val (.int (p3 &&& (7 : Int32))), .val (.ref b312), .val (.ref ob_330), .val (.ref b312), .val (.int (1 : Int32)), .val (.int (1 : Int32))] [])) (fun _ k => Jvm.RoadKit.acmp (g := (mkF m 235 #[.val (.int p0), .val (.int p1), .val (.int p2), .val (.int p3), .val (.ref b188), .val (.ref b192), .val (.ref b199), .val (.ref b212), .val (.int (p3 &&& (7 : Int32))), .val (.ref b312), .val (.ref ob_330), .val (.ref b312), .val (.int (1 : Int32)), .val (.int (1 : Int32))] [(.ref s_FLAG), (.ref s_FLAG)])) X345 hx rfl rfl rfl (pc0 := 235) (pc' := 238) (same := true) rfl (hb hby at_235) rfl (decide_eq_true rfl) (by decide) (by decide) k) ?_
          refine GoS.of (T' := T345) (f' := (mkF m 239 #[.val (.int p0), .val (.int p1), .val (.int p2), .val (.int p3), .val (.ref b188), .val (.ref b192), .val (.ref b199), .val (.ref b212), .val (.int (p3 &&& (7 : Int32))), .val (.ref b312), .val (.ref ob_330), .val (.ref b312), .val (.int (1 : Int32)), .val (.int (1 : Int32))] [(.int (1 : Int32))])) (fun _ k => XS.iconst X345.here hx rfl (hb hby at_238) k) ?_
          refine GoS.of (T' := T345) (f' := (mkF m 243 #[.val (.int p0), .val (.int p1), .val (.int p2), .val (.int p3), .val (.ref b188), .val (.ref b192), .val (.ref b199), .val (.ref b212), .val (.int (p3 &&& (7 : Int32))), .val (.ref b312), .val (.ref ob_330), .val (.ref b312), .val (.int (1 : Int32)), .val (.int (1 : Int32))] [(.int (1 : Int32))])) (fun _ k => XS.goto X345.here hx rfl (pc0 := 239) (pc' := 243) rfl (hb hby at_239) (by decide) (by decide) k) ?_
          exact GoS.retB X345 hx hlk hS hk hZ hEL C336 e345 hret (by simp) (hb hby at_243) (by decide) (by decide) (z' := (1 : Int32)) rfl (by rw [e345]; exact ⟨rfl, N344, K337⟩)
        · skip
          refine GoS.of (T' := T226) (f' := (mkF m 151 #[.val (.int p0), .val (.int p1), .val (.int p2), .val (.int p3), .val (.ref b188), .val (.ref b192), .val (.ref b199), .val (.ref b212), .val (.int (p3 &&& (7 : Int32))), .unset, .unset, .unset, .unset, .unset] [])) (fun _ k => XS.icmpYes X226.here hx rfl (pc0 := 134) (pc' := 151) rfl (hb hby at_134) rfl (feq hc311).2 (by decide) (by decide) k) ?_
          have f348 : Exa Z h226 b188 "[C" := (Exa.wr W226 (Exa.wr W222 (Exa.wr W219 (Exa.ext E212 f213))))
          have f349 : Exa Z h226 b192 "[C" := (Exa.wr W226 (Exa.wr W222 (Exa.wr W219 (Exa.ext E212 f214))))
          have f350 : Exa Z h226 b199 "[C" := (Exa.wr W226 (Exa.wr W222 (Exa.wr W219 (Exa.ext E212 f215))))
          have f351 : Exa Z h226 b212 "[C" := (Exa.wr W226 f228)
          obtain ⟨T347, h347, b347, q347, X347, e347, E347, A347, D347, st347⟩ := newOb X226 hx hZ hown (hw _ (List.mem_of_getElem? (i := 1) rfl)) (hw _ (List.mem_of_getElem? (i := 2) rfl)) (hw _ (List.mem_of_getElem? (i := 3) rfl)) e226 (g := (mkF m 151 #[.val (.int p0), .val (.int p1), .val (.int p2), .val (.int p3), .val (.ref b188), .val (.ref b192), .val (.ref b199), .val (.ref b212), .val (.int (p3 &&& (7 : Int32))), .unset, .unset, .unset, .unset, .unset] [])) rfl (hb hby at_151) (by decide) (by decide)
          have O353 := Old0.ext O229 E347
          have K353 := Keep.ext K229 E347
          have C352 := CHr.trans C227 (CHr.ext E347 C227.1)
          have hk := Nat.le_trans hk E347.1
          have g_b347 : Z.heap.size ≤ b347 := q347 ▸ O229.1
          have z_b347 : h0.size ≤ b347 := q347 ▸ K229.1
          have ne_b188_b347 : b188 ≠ b347 := q347 ▸ Nat.ne_of_lt f348.lt
          have ne_b192_b347 : b192 ≠ b347 := q347 ▸ Nat.ne_of_lt f349.lt
          have ne_b199_b347 : b199 ≠ b347 := q347 ▸ Nat.ne_of_lt f350.lt
          have ne_b212_b347 : b212 ≠ b347 := q347 ▸ Nat.ne_of_lt f351.lt
          have f354 : Fld Z h347 b347 "java/lang/String" "coder" "B" (.int (0 : Int32)) := D347 (Or.inr (hw _ (List.mem_of_getElem? (i := 27) rfl))) (ty := .byte) (by decide)
          have f355 : Fld Z h347 b347 "java/lang/String" "value" "[B" .null := D347 (Or.inr (hw _ (List.mem_of_getElem? (i := 29) rfl))) (ty := (.array .byte)) (by decide)
          refine GoS.of (T' := T347) (f' := (mkF m 154 #[.val (.int p0), .val (.int p1), .val (.int p2), .val (.int p3), .val (.ref b188), .val (.ref b192), .val (.ref b199), .val (.ref b212), .val (.int (p3 &&& (7 : Int32))), .unset, .unset, .unset, .unset, .unset] [(.ref b347)])) (fun _ k => st347 _ k) ?_
          refine GoS.of (T' := T347) (f' := (mkF m 155 #[.val (.int p0), .val (.int p1), .val (.int p2), .val (.int p3), .val (.ref b188), .val (.ref b192), .val (.ref b199), .val (.ref b212), .val (.int (p3 &&& (7 : Int32))), .unset, .unset, .unset, .unset, .unset] [(.ref b347), (.ref b347)])) (fun _ k => XS.dup X347.here hx rfl (hb hby at_154) rfl rfl k) ?_
          refine GoS.of (T' := T347) (f' := (mkF m 157 #[.val (.int p0), .val (.int p1), .val (.int p2), .val (.int p3), .val (.ref b188), .val (.ref b192), .val (.ref b199), .val (.ref b212), .val (.int (p3 &&& (7 : Int32))), .unset, .unset, .unset, .unset, .unset] [(.ref b212), (.ref b347), (.ref b347)])) (fun _ k => XS.aload X347.here hx rfl (hb hby at_155) rfl rfl k) ?_
          have f357 : Arv Z h347 b212 k212 .char (3 : Int32) [(.int (p0 &&& (255 : Int32))), (.int (p1 &&& (255 : Int32))), (.int (p2 &&& (255 : Int32)))] (.int (0 : Int32)) := (Arv.ext f226 E347)
          have f358 : Exa Z h347 b188 "[C" := (Exa.ext E347 f348)
          have f359 : Exa Z h347 b192 "[C" := (Exa.ext E347 f349)
          have f360 : Exa Z h347 b199 "[C" := (Exa.ext E347 f350)
          have f361 : Exa Z h347 b212 "[C" := (Exa.ext E347 f351)
          obtain ⟨T356, v356, L356, X356, q356, st356⟩ := callNew X347 hx hZ (y := (⟨"java/lang/String", "<init>", "([C)V"⟩ : MethodName)) rfl hown (hw _ (List.mem_of_getElem? (i := 4) rfl)) (hw _ (List.mem_of_getElem? (i := 5) rfl)) (hw _ (List.mem_of_getElem? (i := 3) rfl)) (hw _ (List.mem_of_getElem? (i := 6) rfl)) (by decide) (rm_str_3 hw G b347 b212 k212 ((p0 &&& (255 : Int32))) ((p1 &&& (255 : Int32))) ((p2 &&& (255 : Int32))) h347 O353 (own_le255 _) (own_le255 _) (own_le255 _) A347 f355 f354 g_b347 f357 (Ne.symm ne_b212_b347)) e347 (W := 1) (by decide) (by decide) (by decide) (by decide) (g := (mkF m 157 #[.val (.int p0), .val (.int p1), .val (.int p2), .val (.int p3), .val (.ref b188), .val (.ref b192), .val (.ref b199), .val (.ref b212), .val (.int (p3 &&& (7 : Int32))), .unset, .unset, .unset, .unset, .unset] [(.ref b212), (.ref b347), (.ref b347)])) rfl (by rw [hml]; rfl) (a := b347) (argsL := [(.ref b212)]) (rest := [(.ref b347)]) (lenOf pd___C_V rfl) rfl rfl (by show 2 * 0 + _ ≤ _; exact Nat.le_of_eq rfl) (hb hby at_157)
          obtain ⟨da_356, kd_356, rfl, N356q, K356q, p356_0, p356_1, p356_2, p356_3, p356_4⟩ := q356
          have N356 := Fr.app N226 N356q
          have sf363 : Safe Z own_EL s.vm h347 b347 := (Safe.ext E347 C227.1 (Safe.new (Nat.le_of_eq q347.symm)))
          have O364 := Old0.keep O353 K356q (allS g_b347 all0)
          have K364 := Keep.trans K353 K356q (allS (Or.inr z_b347) all0)
          have C362 := CHr.trans C352 (CHr.keep K356q (sfS sf363 sf0) C352.1)
          have hk := Nat.le_trans hk K356q.1
          have z_da_356 : h0.size ≤ da_356 := Nat.le_trans K353.1 p356_0
          have g_da_356 : Z.heap.size ≤ da_356 := Nat.le_trans O353.1 p356_0
          have ne_b188_da_356 : b188 ≠ da_356 := Nat.ne_of_lt (Nat.lt_of_lt_of_le f358.lt p356_0)
          have ne_b192_da_356 : b192 ≠ da_356 := Nat.ne_of_lt (Nat.lt_of_lt_of_le f359.lt p356_0)
          have ne_b199_da_356 : b199 ≠ da_356 := Nat.ne_of_lt (Nat.lt_of_lt_of_le f360.lt p356_0)
          have ne_b212_da_356 : b212 ≠ da_356 := Nat.ne_of_lt (Nat.lt_of_lt_of_le f361.lt p356_0)
          have ne_b347_da_356 : b347 ≠ da_356 := Nat.ne_of_lt (Nat.lt_of_lt_of_le A347.lt p356_0)
          refine GoS.of (T' := T356) (f' := (mkF m 160 #[.val (.int p0), .val (.int p1), .val (.int p2), .val (.int p3), .val (.ref b188), .val (.ref b192), .val (.ref b199), .val (.ref b212), .val (.int (p3 &&& (7 : Int32))), .unset, .unset, .unset, .unset, .unset] [(.ref b347)])) (fun _ k => st356 _ k) ?_
          refine GoS.of (T' := T356) (f' := (mkF m 162 #[.val (.int p0), .val (.int p1), .val (.int p2), .val (.int p3), .val (.ref b188), .val (.ref b192), .val (.ref b199), .val (.ref b212), .val (.int (p3 &&& (7 : Int32))), .val (.ref b347), .unset, .unset, .unset, .unset] [])) (fun _ k => XS.astore X356.here hx rfl (hb hby at_160) rfl rfl (l' := #[.val (.int p0), .val (.int p1), .val (.int p2), .val (.int p3), .val (.ref b188), .val (.ref b192), .val (.ref b199), .val (.ref b212), .val (.int (p3 &&& (7 : Int32))), .val (.ref b347), .unset, .unset, .unset, .unset]) rfl k) ?_
          refine GoS.of (T' := T356) (f' := (mkF m 164 #[.val (.int p0), .val (.int p1), .val (.int p2), .val (.int p3), .val (.ref b188), .val (.ref b192), .val (.ref b199), .val (.ref b212), .val (.int (p3 &&& (7 : Int32))), .val (.ref b347), .unset, .unset, .unset, .unset] [(.ref b347)])) (fun _ k => XS.aload X356.here hx rfl (hb hby at_162) rfl rfl k) ?_
          have f366 : Exa Z T356.heap b188 "[C" := (Exa.keep f358 K356q)
          have f367 : Exa Z T356.heap b192 "[C" := (Exa.keep f359 K356q)
          have f368 : Exa Z T356.heap b199 "[C" := (Exa.keep f360 K356q)
          have f369 : Exa Z T356.heap b212 "[C" := (Exa.keep f361 K356q)
          have f370 : Exa Z T356.heap b347 "java/lang/String" := (Exa.keep A347 K356q)
          obtain ⟨T365, v365, L365, X365, q365, st365⟩ := callSt X356 hx hZ (y := (⟨"com/example/sealwright/sealwright/Arguments$Option", "flag", "(Ljava/lang/String;)Lcom/example/sealwright/sealwright/Arguments$Option;"⟩ : MethodName)) hown (hw _ (List.mem_of_getElem? (i := 30) rfl)) (hw _ (List.mem_of_getElem? (i := 31) rfl)) (hw _ (List.mem_of_getElem? (i := 32) rfl)) (hw _ (List.mem_of_getElem? (i := 33) rfl)) (by decide) (rm_flag_r hw G b347  T356.heap O364 ) rfl (W := 0) (by decide) (by decide) (by decide) (by decide) (g := (mkF m 164 #[.val (.int p0), .val (.int p1), .val (.int p2), .val (.int p3), .val (.ref b188), .val (.ref b192), .val (.ref b199), .val (.ref b212), .val (.int (p3 &&& (7 : Int32))), .val (.ref b347), .unset, .unset, .unset, .unset] [(.ref b347)])) rfl (by rw [hml]; rfl) (argsL := [(.ref b347)]) (rest := []) (lenOf pd__Ljava_lang_String__Lcom_example_sealwright_sealwright_Arguments_Option_ rfl) rfl rfl (by show 2 * 0 + _ ≤ _; exact Nat.le_of_eq rfl) (hb hby at_164)
          obtain ⟨ob_365, rfl, N365q, K365q, p365_0, p365_1, p365_2, p365_3⟩ := q365
          have N365 := Fr.app N356 N365q
          have O372 := Old0.keep O364 K365q all0
          have K372 := Keep.trans K364 K365q all0
          have C371 := CHr.trans C362 (CHr.keep K365q sf0 C362.1)
          have hk := Nat.le_trans hk K365q.1
          have z_ob_365 : h0.size ≤ ob_365 := Nat.le_trans K364.1 p365_0
          have g_ob_365 : Z.heap.size ≤ ob_365 := Nat.le_trans O364.1 p365_0
          have ne_b188_ob_365 : b188 ≠ ob_365 := Nat.ne_of_lt (Nat.lt_of_lt_of_le f366.lt p365_0)
          have ne_b192_ob_365 : b192 ≠ ob_365 := Nat.ne_of_lt (Nat.lt_of_lt_of_le f367.lt p365_0)
          have ne_b199_ob_365 : b199 ≠ ob_365 := Nat.ne_of_lt (Nat.lt_of_lt_of_le f368.lt p365_0)
          have ne_b212_ob_365 : b212 ≠ ob_365 := Nat.ne_of_lt (Nat.lt_of_lt_of_le f369.lt p365_0)
          have ne_b347_ob_365 : b347 ≠ ob_365 := Nat.ne_of_lt (Nat.lt_of_lt_of_le f370.lt p365_0)
          have ne_da_356_ob_365 : da_356 ≠ ob_365 := Nat.ne_of_lt (Nat.lt_of_lt_of_le p356_4.lt p365_0)
          refine GoS.of (T' := T365) (f' := (mkF m 167 #[.val (.int p0), .val (.int p1), .val (.int p2), .val (.int p3), .val (.ref b188), .val (.ref b192), .val (.ref b199), .val (.ref b212), .val (.int (p3 &&& (7 : Int32))), .val (.ref b347), .unset, .unset, .unset, .unset] [(.ref ob_365)])) (fun _ k => st365 _ k) ?_
          refine GoS.of (T' := T365) (f' := (mkF m 169 #[.val (.int p0), .val (.int p1), .val (.int p2), .val (.int p3), .val (.ref b188), .val (.ref b192), .val (.ref b199), .val (.ref b212), .val (.int (p3 &&& (7 : Int32))), .val (.ref b347), .val (.ref ob_365), .unset, .unset, .unset] [])) (fun _ k => XS.astore X365.here hx rfl (hb hby at_167) rfl rfl (l' := #[.val (.int p0), .val (.int p1), .val (.int p2), .val (.int p3), .val (.ref b188), .val (.ref b192), .val (.ref b199), .val (.ref b212), .val (.int (p3 &&& (7 : Int32))), .val (.ref b347), .val (.ref ob_365), .unset, .unset, .unset]) rfl k) ?_
          refine GoS.of (T' := T365) (f' := (mkF m 171 #[.val (.int p0), .val (.int p1), .val (.int p2), .val (.int p3), .val (.ref b188), .val (.ref b192), .val (.ref b199), .val (.ref b212), .val (.int (p3 &&& (7 : Int32))), .val (.ref b347), .val (.ref ob_365), .unset, .unset, .unset] [(.ref ob_365)])) (fun _ k => XS.aload X365.here hx rfl (hb hby at_169) rfl rfl k) ?_
          obtain ⟨T373, v373, L373, X373, q373, st373⟩ := callVi X365 hx hZ (y := (⟨"com/example/sealwright/sealwright/Arguments$Option", "name", "()Ljava/lang/String;"⟩ : MethodName)) (z := (⟨"com/example/sealwright/sealwright/Arguments$Option", "name", "()Ljava/lang/String;"⟩ : MethodName)) hown (hw _ (List.mem_of_getElem? (i := 52) rfl)) (hw _ (List.mem_of_getElem? (i := 53) rfl)) (notFace_of_selects (args := #[]) (mvT hZ (hw _ (List.mem_of_getElem? (i := 55) rfl)))) (hw _ (List.mem_of_getElem? (i := 55) rfl)) (hw _ (List.mem_of_getElem? (i := 54) rfl)) (hw _ (List.mem_of_getElem? (i := 56) rfl)) (hw _ (List.mem_of_getElem? (i := 32) rfl)) (by decide) (rm_name_r hw G ob_365 b347 T365.heap O372 p365_2) rfl (W := 0) (by decide) (by decide) (by decide) (by decide) p365_1 (g := (mkF m 171 #[.val (.int p0), .val (.int p1), .val (.int p2), .val (.int p3), .val (.ref b188), .val (.ref b192), .val (.ref b199), .val (.ref b212), .val (.int (p3 &&& (7 : Int32))), .val (.ref b347), .val (.ref ob_365), .unset, .unset, .unset] [(.ref ob_365)])) rfl (by rw [hml]; rfl) (argsL := []) (rest := []) (lenOf pd___Ljava_lang_String_ rfl) rfl rfl (by show 2 * 0 + _ ≤ _; exact Nat.le_of_eq rfl) (hb hby at_171)
          obtain ⟨rfl, e373, rfl⟩ := q373
          have N373 := Fr.app N365 (Fr.nil _)
          refine GoS.of (T' := T373) (f' := (mkF m 174 #[.val (.int p0), .val (.int p1), .val (.int p2), .val (.int p3), .val (.ref b188), .val (.ref b192), .val (.ref b199), .val (.ref b212), .val (.int (p3 &&& (7 : Int32))), .val (.ref b347), .val (.ref ob_365), .unset, .unset, .unset] [(.ref b347)])) (fun _ k => st373 _ k) ?_
          refine GoS.of (T' := T373) (f' := (mkF m 176 #[.val (.int p0), .val (.int p1), .val (.int p2), .val (.int p3), .val (.ref b188), .val (.ref b192), .val (.ref b199), .val (.ref b212), .val (.int (p3 &&& (7 : Int32))), .val (.ref b347), .val (.ref ob_365), .val (.ref b347), .unset, .unset] [])) (fun _ k => XS.astore X373.here hx rfl (hb hby at_174) rfl rfl (l' := #[.val (.int p0), .val (.int p1), .val (.int p2), .val (.int p3), .val (.ref b188), .val (.ref b192), .val (.ref b199), .val (.ref b212), .val (.int (p3 &&& (7 : Int32))), .val (.ref b347), .val (.ref ob_365), .val (.ref b347), .unset, .unset]) rfl k) ?_
          refine GoS.of (T' := T373) (f' := (mkF m 178 #[.val (.int p0), .val (.int p1), .val (.int p2), .val (.int p3), .val (.ref b188), .val (.ref b192), .val (.ref b199), .val (.ref b212), .val (.int (p3 &&& (7 : Int32))), .val (.ref b347), .val (.ref ob_365), .val (.ref b347), .unset, .unset] [(.ref b347)])) (fun _ k => XS.aload X373.here hx rfl (hb hby at_176) rfl rfl k) ?_
          refine GoS.of (T' := T373) (f' := (mkF m 180 #[.val (.int p0), .val (.int p1), .val (.int p2), .val (.int p3), .val (.ref b188), .val (.ref b192), .val (.ref b199), .val (.ref b212), .val (.int (p3 &&& (7 : Int32))), .val (.ref b347), .val (.ref ob_365), .val (.ref b347), .unset, .unset] [(.ref b347), (.ref b347)])) (fun _ k => XS.aload X373.here hx rfl (hb hby at_178) rfl rfl k) ?_
          refine GoS.of (T' := T373) (f' := (mkF m 183 #[.val (.int p0), .val (.int p1), .val (.int p2), .val (.int p3), .val (.ref b188), .val (.ref b192), .val (.ref b199), .val (.ref b212), .val (.int (p3 &&& (7 : Int32))), .val (.ref b347), .val (.ref ob_365), .val (.ref b347), .unset, .unset] [])) (fun _ k => Jvm.RoadKit.acmp (g := (mkF m 180 #[.val (.int p0), .val (.int p1), .val (.int p2), .val (.int p3), .val (.ref b188), .val (.ref b192), .val (.ref b199), .val (.ref b212), .val (.int (p3 &&& (7 : Int32))), .val (.ref b347), .val (.ref ob_365), .val (.ref b347), .unset, .unset] [(.ref b347), (.ref b347)])) X373 hx rfl rfl rfl (pc0 := 180) (pc' := 183) (same := true) rfl (hb hby at_180) rfl (decide_eq_true rfl) (by decide) (by decide) k) ?_
          refine GoS.of (T' := T373) (f' := (mkF m 184 #[.val (.int p0), .val (.int p1), .val (.int p2), .val (.int p3), .val (.ref b188), .val (.ref b192), .val (.ref b199), .val (.ref b212), .val (.int (p3 &&& (7 : Int32))), .val (.ref b347), .val (.ref ob_365), .val (.ref b347), .unset, .unset] [(.int (1 : Int32))])) (fun _ k => XS.iconst X373.here hx rfl (hb hby at_183) k) ?_
          refine GoS.of (T' := T373) (f' := (mkF m 188 #[.val (.int p0), .val (.int p1), .val (.int p2), .val (.int p3), .val (.ref b188), .val (.ref b192), .val (.ref b199), .val (.ref b212), .val (.int (p3 &&& (7 : Int32))), .val (.ref b347), .val (.ref ob_365), .val (.ref b347), .unset, .unset] [(.int (1 : Int32))])) (fun _ k => XS.goto X373.here hx rfl (pc0 := 184) (pc' := 188) rfl (hb hby at_184) (by decide) (by decide) k) ?_
          refine GoS.of (T' := T373) (f' := (mkF m 190 #[.val (.int p0), .val (.int p1), .val (.int p2), .val (.int p3), .val (.ref b188), .val (.ref b192), .val (.ref b199), .val (.ref b212), .val (.int (p3 &&& (7 : Int32))), .val (.ref b347), .val (.ref ob_365), .val (.ref b347), .val (.int (1 : Int32)), .unset] [])) (fun _ k => XS.istore X373.here hx rfl (hb hby at_188) rfl (l' := #[.val (.int p0), .val (.int p1), .val (.int p2), .val (.int p3), .val (.ref b188), .val (.ref b192), .val (.ref b199), .val (.ref b212), .val (.int (p3 &&& (7 : Int32))), .val (.ref b347), .val (.ref ob_365), .val (.ref b347), .val (.int (1 : Int32)), .unset]) rfl k) ?_
          refine GoS.of (T' := T373) (f' := (mkF m 192 #[.val (.int p0), .val (.int p1), .val (.int p2), .val (.int p3), .val (.ref b188), .val (.ref b192), .val (.ref b199), .val (.ref b212), .val (.int (p3 &&& (7 : Int32))), .val (.ref b347), .val (.ref ob_365), .val (.ref b347), .val (.int (1 : Int32)), .unset] [(.ref b347)])) (fun _ k => XS.aload X373.here hx rfl (hb hby at_190) rfl rfl k) ?_
          refine GoS.of (T' := T373) (f' := (mkF m 208 #[.val (.int p0), .val (.int p1), .val (.int p2), .val (.int p3), .val (.ref b188), .val (.ref b192), .val (.ref b199), .val (.ref b212), .val (.int (p3 &&& (7 : Int32))), .val (.ref b347), .val (.ref ob_365), .val (.ref b347), .val (.int (1 : Int32)), .unset] [])) (fun _ k => XS.ifnonnullYes X373.here hx rfl (pc0 := 192) (pc' := 208) rfl (hb hby at_192) rfl (by decide) (by decide) k) ?_
          refine GoS.of (T' := T373) (f' := (mkF m 210 #[.val (.int p0), .val (.int p1), .val (.int p2), .val (.int p3), .val (.ref b188), .val (.ref b192), .val (.ref b199), .val (.ref b212), .val (.int (p3 &&& (7 : Int32))), .val (.ref b347), .val (.ref ob_365), .val (.ref b347), .val (.int (1 : Int32)), .unset] [(.ref b347)])) (fun _ k => XS.aload X373.here hx rfl (hb hby at_208) rfl rfl k) ?_
          refine GoS.of (T' := T373) (f' := (mkF m 212 #[.val (.int p0), .val (.int p1), .val (.int p2), .val (.int p3), .val (.ref b188), .val (.ref b192), .val (.ref b199), .val (.ref b212), .val (.int (p3 &&& (7 : Int32))), .val (.ref b347), .val (.ref ob_365), .val (.ref b347), .val (.int (1 : Int32)), .unset] [(.ref b347), (.ref b347)])) (fun _ k => XS.aload X373.here hx rfl (hb hby at_210) rfl rfl k) ?_
          have f376 : Exa Z T365.heap b347 "java/lang/String" := (Exa.keep f370 K365q)
          obtain ⟨T375, v375, L375, X375, q375, st375⟩ := callVi X373 hx hZ (y := (⟨"java/lang/String", "equals", "(Ljava/lang/Object;)Z"⟩ : MethodName)) (z := (⟨"java/lang/String", "equals", "(Ljava/lang/Object;)Z"⟩ : MethodName)) hown (hw _ (List.mem_of_getElem? (i := 57) rfl)) (hw _ (List.mem_of_getElem? (i := 58) rfl)) (notFace_of_selects (args := #[]) (mvT hZ (hw _ (List.mem_of_getElem? (i := 60) rfl)))) (hw _ (List.mem_of_getElem? (i := 60) rfl)) (hw _ (List.mem_of_getElem? (i := 59) rfl)) (hw _ (List.mem_of_getElem? (i := 61) rfl)) (hw _ (List.mem_of_getElem? (i := 3) rfl)) (by decide) (rm_eqs hw G b347 b347  T365.heap O372 (rfl)) e373 (W := 0) (by decide) (by decide) (by decide) (by decide) f376 (g := (mkF m 212 #[.val (.int p0), .val (.int p1), .val (.int p2), .val (.int p3), .val (.ref b188), .val (.ref b192), .val (.ref b199), .val (.ref b212), .val (.int (p3 &&& (7 : Int32))), .val (.ref b347), .val (.ref ob_365), .val (.ref b347), .val (.int (1 : Int32)), .unset] [(.ref b347), (.ref b347)])) rfl (by rw [hml]; rfl) (argsL := [(.ref b347)]) (rest := []) (lenOf pd__Ljava_lang_Object__Z rfl) rfl rfl (by show 2 * 0 + _ ≤ _; exact Nat.le_of_eq rfl) (hb hby at_212)
          obtain ⟨rfl, e375, rfl⟩ := q375
          have N375 := Fr.app N373 (Fr.nil _)
          refine GoS.of (T' := T375) (f' := (mkF m 215 #[.val (.int p0), .val (.int p1), .val (.int p2), .val (.int p3), .val (.ref b188), .val (.ref b192), .val (.ref b199), .val (.ref b212), .val (.int (p3 &&& (7 : Int32))), .val (.ref b347), .val (.ref ob_365), .val (.ref b347), .val (.int (1 : Int32)), .unset] [(.int (1 : Int32))])) (fun _ k => st375 _ k) ?_
          refine GoS.of (T' := T375) (f' := (mkF m 217 #[.val (.int p0), .val (.int p1), .val (.int p2), .val (.int p3), .val (.ref b188), .val (.ref b192), .val (.ref b199), .val (.ref b212), .val (.int (p3 &&& (7 : Int32))), .val (.ref b347), .val (.ref ob_365), .val (.ref b347), .val (.int (1 : Int32)), .val (.int (1 : Int32))] [])) (fun _ k => XS.istore X375.here hx rfl (hb hby at_215) rfl (l' := #[.val (.int p0), .val (.int p1), .val (.int p2), .val (.int p3), .val (.ref b188), .val (.ref b192), .val (.ref b199), .val (.ref b212), .val (.int (p3 &&& (7 : Int32))), .val (.ref b347), .val (.ref ob_365), .val (.ref b347), .val (.int (1 : Int32)), .val (.int (1 : Int32))]) rfl k) ?_
          refine GoS.of (T' := T375) (f' := (mkF m 219 #[.val (.int p0), .val (.int p1), .val (.int p2), .val (.int p3), .val (.ref b188), .val (.ref b192), .val (.ref b199), .val (.ref b212), .val (.int (p3 &&& (7 : Int32))), .val (.ref b347), .val (.ref ob_365), .val (.ref b347), .val (.int (1 : Int32)), .val (.int (1 : Int32))] [(.int (1 : Int32))])) (fun _ k => XS.iload X375.here hx rfl (hb hby at_217) rfl k) ?_
          refine GoS.of (T' := T375) (f' := (mkF m 222 #[.val (.int p0), .val (.int p1), .val (.int p2), .val (.int p3), .val (.ref b188), .val (.ref b192), .val (.ref b199), .val (.ref b212), .val (.int (p3 &&& (7 : Int32))), .val (.ref b347), .val (.ref ob_365), .val (.ref b347), .val (.int (1 : Int32)), .val (.int (1 : Int32))] [])) (fun _ k => XS.ifNo X375.here hx rfl (hb hby at_219) rfl ((if0 _ _).trans (feq (by decide : ¬ ((1 : Int32) = (0 : Int32)))).1) k) ?_
          refine GoS.of (T' := T375) (f' := (mkF m 224 #[.val (.int p0), .val (.int p1), .val (.int p2), .val (.int p3), .val (.ref b188), .val (.ref b192), .val (.ref b199), .val (.ref b212), .val (.int (p3 &&& (7 : Int32))), .val (.ref b347), .val (.ref ob_365), .val (.ref b347), .val (.int (1 : Int32)), .val (.int (1 : Int32))] [(.int (1 : Int32))])) (fun _ k => XS.iload X375.here hx rfl (hb hby at_222) rfl k) ?_
          refine GoS.of (T' := T375) (f' := (mkF m 227 #[.val (.int p0), .val (.int p1), .val (.int p2), .val (.int p3), .val (.ref b188), .val (.ref b192), .val (.ref b199), .val (.ref b212), .val (.int (p3 &&& (7 : Int32))), .val (.ref b347), .val (.ref ob_365), .val (.ref b347), .val (.int (1 : Int32)), .val (.int (1 : Int32))] [])) (fun _ k => XS.ifNo X375.here hx rfl (hb hby at_224) rfl ((if0 _ _).trans (feq (by decide : ¬ ((1 : Int32) = (0 : Int32)))).1) k) ?_
          refine GoS.of (T' := T375) (f' := (mkF m 229 #[.val (.int p0), .val (.int p1), .val (.int p2), .val (.int p3), .val (.ref b188), .val (.ref b192), .val (.ref b199), .val (.ref b212), .val (.int (p3 &&& (7 : Int32))), .val (.ref b347), .val (.ref ob_365), .val (.ref b347), .val (.int (1 : Int32)), .val (.int (1 : Int32))] [(.ref ob_365)])) (fun _ k => XS.aload X375.here hx rfl (hb hby at_227) rfl rfl k) ?_
          obtain ⟨T379, v379, L379, X379, q379, st379⟩ := callVi X375 hx hZ (y := (⟨"com/example/sealwright/sealwright/Arguments$Option", "kind", "()Lcom/example/sealwright/sealwright/Arguments$Kind;"⟩ : MethodName)) (z := (⟨"com/example/sealwright/sealwright/Arguments$Option", "kind", "()Lcom/example/sealwright/sealwright/Arguments$Kind;"⟩ : MethodName)) hown (hw _ (List.mem_of_getElem? (i := 62) rfl)) (hw _ (List.mem_of_getElem? (i := 63) rfl)) (notFace_of_selects (args := #[]) (mvT hZ (hw _ (List.mem_of_getElem? (i := 65) rfl)))) (hw _ (List.mem_of_getElem? (i := 65) rfl)) (hw _ (List.mem_of_getElem? (i := 64) rfl)) (hw _ (List.mem_of_getElem? (i := 66) rfl)) (hw _ (List.mem_of_getElem? (i := 32) rfl)) (by decide) (rm_kind hw G ob_365  T365.heap O372 p365_3) e375 (W := 0) (by decide) (by decide) (by decide) (by decide) p365_1 (g := (mkF m 229 #[.val (.int p0), .val (.int p1), .val (.int p2), .val (.int p3), .val (.ref b188), .val (.ref b192), .val (.ref b199), .val (.ref b212), .val (.int (p3 &&& (7 : Int32))), .val (.ref b347), .val (.ref ob_365), .val (.ref b347), .val (.int (1 : Int32)), .val (.int (1 : Int32))] [(.ref ob_365)])) rfl (by rw [hml]; rfl) (argsL := []) (rest := []) (lenOf pd___Lcom_example_sealwright_sealwright_Arguments_Kind_ rfl) rfl rfl (by show 2 * 0 + _ ≤ _; exact Nat.le_of_eq rfl) (hb hby at_229)
          obtain ⟨rfl, e379, rfl⟩ := q379
          have N379 := Fr.app N375 (Fr.nil _)
          refine GoS.of (T' := T379) (f' := (mkF m 232 #[.val (.int p0), .val (.int p1), .val (.int p2), .val (.int p3), .val (.ref b188), .val (.ref b192), .val (.ref b199), .val (.ref b212), .val (.int (p3 &&& (7 : Int32))), .val (.ref b347), .val (.ref ob_365), .val (.ref b347), .val (.int (1 : Int32)), .val (.int (1 : Int32))] [(.ref s_FLAG)])) (fun _ k => st379 _ k) ?_
          obtain ⟨T380, X380, e380, st380⟩ := getS2 X379 hx hZ hown (host := "") (Or.inl (hw _ (List.mem_of_getElem? (i := 67) rfl))) Via.refl e379 (Sta.ext O372 S_FLAG) (g := (mkF m 232 #[.val (.int p0), .val (.int p1), .val (.int p2), .val (.int p3), .val (.ref b188), .val (.ref b192), .val (.ref b199), .val (.ref b212), .val (.int (p3 &&& (7 : Int32))), .val (.ref b347), .val (.ref ob_365), .val (.ref b347), .val (.int (1 : Int32)), .val (.int (1 : Int32))] [(.ref s_FLAG)])) rfl (hb hby at_232)
          refine GoS.of (T' := T380) (f' := (mkF m 235 #[.val (.int p0), .val (.int p1), .val (.int p2), .val (.int p3), .val (.ref b188), .val (.ref b192), .val (.ref b199), .val (.ref b212), .val (.int (p3 &&& (7 : Int32))), .val (.ref b347), .val (.ref ob_365), .val (.ref b347), .val (.int (1 : Int32)), .val (.int (1 : Int32))] [(.ref s_FLAG), (.ref s_FLAG)])) (fun _ k => st380 _ k) ?_
          refine GoS.of (T' := T380) (f' := (mkF m 238 #[.val (.int p0), .val (.int p1), .val (.int p2), .val (.int p3), .val (.ref b188), .val (.ref b192), .val (.ref b199), .val (.ref b212), .val (.int (p3 &&& (7 : Int32))), .val (.ref b347), .val (.ref ob_365), .val (.ref b347), .val (.int (1 : Int32)), .val (.int (1 : Int32))] [])) (fun _ k => Jvm.RoadKit.acmp (g := (mkF m 235 #[.val (.int p0), .val (.int p1), .val (.int p2), .val (.int p3), .val (.ref b188), .val (.ref b192), .val (.ref b199), .val (.ref b212), .val (.int (p3 &&& (7 : Int32))), .val (.ref b347), .val (.ref ob_365), .val (.ref b347), .val (.int (1 : Int32)), .val (.int (1 : Int32))] [(.ref s_FLAG), (.ref s_FLAG)])) X380 hx rfl rfl rfl (pc0 := 235) (pc' := 238) (same := true) rfl (hb hby at_235) rfl (decide_eq_true rfl) (by decide) (by decide) k) ?_
          refine GoS.of (T' := T380) (f' := (mkF m 239 #[.val (.int p0), .val (.int p1), .val (.int p2), .val (.int p3), .val (.ref b188), .val (.ref b192), .val (.ref b199), .val (.ref b212), .val (.int (p3 &&& (7 : Int32))), .val (.ref b347), .val (.ref ob_365), .val (.ref b347), .val (.int (1 : Int32)), .val (.int (1 : Int32))] [(.int (1 : Int32))])) (fun _ k => XS.iconst X380.here hx rfl (hb hby at_238) k) ?_
          refine GoS.of (T' := T380) (f' := (mkF m 243 #[.val (.int p0), .val (.int p1), .val (.int p2), .val (.int p3), .val (.ref b188), .val (.ref b192), .val (.ref b199), .val (.ref b212), .val (.int (p3 &&& (7 : Int32))), .val (.ref b347), .val (.ref ob_365), .val (.ref b347), .val (.int (1 : Int32)), .val (.int (1 : Int32))] [(.int (1 : Int32))])) (fun _ k => XS.goto X380.here hx rfl (pc0 := 239) (pc' := 243) rfl (hb hby at_239) (by decide) (by decide) k) ?_
          exact GoS.retB X380 hx hlk hS hk hZ hEL C371 e380 hret (by simp) (hb hby at_243) (by decide) (by decide) (z' := (1 : Int32)) rfl (by rw [e380]; exact ⟨rfl, N379, K372⟩)
set_option maxRecDepth 65536 in
set_option maxHeartbeats 40000000 in
theorem comes_1 {Post : Tables → Env → Array Value → State → Outcome → State → Prop} (hpost : ∀ tb e args s v u, (limb_1_1.after args s (.returned v) u = true ∧ limb_1_2.after args s (.returned v) u = true ∧ True) → ReturnedEndW s (.returned v) u (Jvm.fieldLocs frame_1_writes args s ++ Jvm.arrayLocs frame_1_arrays args s ++ Jvm.staticLocs frame_1_statics s) 24 1152 → Post tb e args s (.returned v) u) :
    ArmFor flags0 classFile x code maxLocals ret World_1 tables_1 room_1 Calls_1 rest_1 Pre_1 Post := by
  intro l hfl _ _ p e ha hc hk s m args below hf hA hF happ hP
  obtain ⟨hcalls, hrest, hpre⟩ := hP
  obtain ⟨-, -, -, hnamed, -, -, -, hat⟩ := (Spec.applies_iff hf).mp happ
  obtain ⟨hg, hn⟩ := and_e (Cond.before_iff.mp (show (Jvm.Cond.and given_1 narrow_1).before args s = true from hpre))
  obtain ⟨ga0, gb0⟩ := and_e hg
  obtain ⟨ga1, gb1⟩ := and_e gb0
  obtain ⟨ga2, gb2⟩ := and_e gb1
  obtain ⟨ga3, gb3⟩ := and_e gb2
  obtain ⟨w0, w1, w2, w3, rfl⟩ : ∃ w0 w1 w2 w3 : Value, args = #[w0, w1, w2, w3] := by
    have hs : args.size = 4 := by simpa [Cond.value, given_1] using ga0
    obtain ⟨L⟩ := args
    match L, hs with
    | [w0, w1, w2, w3], _ => exact ⟨w0, w1, w2, w3, rfl⟩
  have hw := fun d (hd : d ∈ tables_1) => atoms_spec (ws := Jvm.Cond.code x code maxLocals ret :: tables_1) hat d (List.mem_cons_of_mem _ hd)
  have hfit : Fit s := fun {y c} hc i hi => by
    obtain ⟨ha, rfl⟩ := Array.getElem?_eq_some_iff.mp hc
    have q := List.all_eq_true.mp ((Array.all_eq_true_iff_forall_mem.mp hF) _ (Array.getElem_mem ha)) i (List.mem_range.mpr hi)
    simpa [Array.getElem?_eq_getElem hi] using q
  obtain ⟨hsets, hown0⟩ := atoms_of _ (rest_1_c_eq ▸ (show rest_1_c.before _ s = true from hrest))
  obtain ⟨i0, ei0⟩ := is_v ga1
  obtain rfl : w0 = (.int i0) := Option.some.inj ei0
  obtain ⟨i1, ei1⟩ := is_v ga2
  obtain rfl : w1 = (.int i1) := Option.some.inj ei1
  obtain ⟨i2, ei2⟩ := is_v ga3
  obtain rfl : w2 = (.int i2) := Option.some.inj ei2
  obtain ⟨i3, ei3⟩ := is_v gb3
  obtain rfl : w3 = (.int i3) := Option.some.inj ei3
  obtain ⟨s_FLAG, ev_s_FLAG⟩ := exa_v hn
  have S_FLAG : Sta s s.heap "com/example/sealwright/sealwright/Arguments$Kind" "FLAG" "Lcom/example/sealwright/sealwright/Arguments$Kind;" (.ref s_FLAG) := Sta.start ev_s_FLAG (Or.inr ⟨(hw _ (List.mem_of_getElem? (i := 37) rfl)), (hw _ (List.mem_of_getElem? (i := 38) rfl))⟩)
  have E_s_FLAG : Exa s s.heap s_FLAG "com/example/sealwright/sealwright/Arguments$Kind" := Exa.start ev_s_FLAG hn
  have js1 := Cond.before_iff.mp (hsets _ (List.mem_of_getElem? (i := 1) rfl))
  obtain ⟨s_COMPACT_STRINGS, ev_s_COMPACT_STRINGS⟩ := is_v js1
  have S_COMPACT_STRINGS : Sta s s.heap "java/lang/String" "COMPACT_STRINGS" "Z" (.int s_COMPACT_STRINGS) := Sta.start ev_s_COMPACT_STRINGS (Or.inl (hsets _ (List.mem_of_getElem? (i := 0) rfl)))
  have js2 := Cond.before_iff.mp (hsets _ (List.mem_of_getElem? (i := 2) rfl))
  have hne_s_COMPACT_STRINGS_0 : ¬ (s_COMPACT_STRINGS = (0 : Int32)) := neI_v ev_s_COMPACT_STRINGS js2
  have hCH : CHv s own_EL s.vm s.heap := CHv.start (own_EW hw) (fun p hp => hcalls.1 p hp) (hsets _ (List.mem_of_getElem? (i := 2) rfl)) (hw _ (List.mem_of_getElem? (i := 19) rfl)) (hw _ (List.mem_of_getElem? (i := 2) rfl))
  obtain ⟨n, o, h1, h2, h3, _, L, rfl, ⟨rfl, N, _⟩, -, hq⟩ := rm_law hw ⟨S_FLAG, E_s_FLAG, S_COMPACT_STRINGS, hne_s_COMPACT_STRINGS_0⟩ i0 i1 i2 i3 s.heap ext_rfl tables_1 p e ha hc hk s m _ below hf ((Spec.applies_iff_loose hf).mp happ).1 ⟨rfl, State.Warmed39.refl s, rfl, hCH⟩ trivial
  refine ⟨n, _, h1, h2, h3, hpost _ _ _ _ _ _ ⟨Cond.after_iff.mpr rfl, Cond.after_iff.mpr (eq_i res_at (Term.int_eval (1)) rfl), trivial⟩ ⟨hq.1, hq.2.1, hq.2.2.1, (hq.2.2.2.sift fun y hy => Or.inr (N y hy)).mono (by decide) (by decide)⟩⟩
theorem main_1_1 : Claimed_1_1 := comes_1 fun _ _ _ _ _ _ h hF => ⟨h.1, hF⟩
theorem main_1_2 : Claimed_1_2 := comes_1 fun _ _ _ _ _ _ h hF => ⟨h.2.1, hF⟩
end Jvm.Pilot.@@N@@
namespace Jvm.Pilot.@@N@@
open Jvm Jvm.ClassFile Sem Op Lib Jvm.Free Jvm.Stand Jvm.Pilot.@@N@@.Jvm.D
/-! MADE BY PROGRAM (witnessworld.py) out of the Statement's table words and the real class files: 23 classes; the members and pool entries that the words name. The judged class is class 1, her method 1. -/
namespace start1
open Jvm.ClassFile
def u (s : String) : CpInfo := .utf8 (stringToUtf16 s)
/-- a pool by its gaps: so many unusable entries, then the entry; so many at the end -/
def gap : Nat → List CpInfo → List CpInfo
  | 0, r => r
  | n + 1, r => .unusable :: gap n r
def poolList (es : List (Nat × CpInfo)) (last : Nat) : List CpInfo := es.foldr (fun e r => gap e.1 (e.2 :: r)) (gap last [])
def pool (es : List (Nat × CpInfo)) (last : Nat) : Array CpInfo := ⟨poolList es last⟩
def fileOf (pool : Array CpInfo) (this : Nat) (attrs : Array Attribute := #[]) (ms : Array MethodInfo := #[]) (fl : Nat := 33) (sup : Nat := 0) (ifs : Array Nat := #[]) (fds : Array FieldInfo := #[]) : ClassFile where
  minorVersion := 0
  majorVersion := 65
  constantPool := pool
  accessFlags := fl
  thisClass := this
  superClass := sup
  interfaces := ifs
  fields := fds
  methods := ms
  attributes := attrs
def plain (name : String) (sup : Option ClassId) : Class where
  name := name
  kind := .ordinary
  loader := none
  accessFlags := 33
  super := sup
  interfaces := #[]
  cf := none
  fields := #[]
  methods := #[]
  instanceTypes := #[]
  staticTypes := #[]
  resolved := #[]
  callSites := []
  init := .initialized
  statics := none
  mirror := none

def pool0 : Array CpInfo := pool [(5, u "<init>"), (0, u "()V"), (1, .class_ 10), (1, u "java/lang/Object")] 113

def k0c0 : Code := { maxStack := 0, maxLocals := 1, code := object_method_1_code, exceptionTable := #[], attributes := #[] }
def k0m0 : Method := { name := "<init>", desc := "()V", sig := { parameters := [], returnType := none }, accessFlags := 1, code := some k0c0 }
/-- java/lang/Object -/
def k0 : Class := { plain "java/lang/Object" none with
  accessFlags := 33
  interfaces := #[]
  cf := some (fileOf pool0 8 #[] #[{ accessFlags := 1, nameIndex := 5, descriptorIndex := 6, attributes := #[] }] 33 0 #[] #[])
  fields := #[]
  methods := #[k0m0]
  instanceTypes := #[]
  staticTypes := #[]
  resolved := Array.replicate 124 none
  statics := none }

def pool1 : Array CpInfo := pool [(2, .class_ 4), (1, u "java/lang/Object"), (0, u "<init>"), (0, u "()V"), (0, .class_ 8), (0, u "java/lang/String"), (0, .methodref 7 10), (0, .nameAndType 5 11), (0, u "([C)V"), (0, .methodref 13 14), (0, .class_ 15), (0, .nameAndType 16 17), (0, u "com/example/sealwright/sealwright/Arguments$Option"), (0, u "flag"), (0, u "(Ljava/lang/String;)Lcom/example/sealwright/sealwright/Arguments$Option;"), (0, .methodref 13 19), (0, .nameAndType 20 21), (0, u "name"), (0, u "()Ljava/lang/String;"), (0, .methodref 7 23), (0, .nameAndType 24 25), (0, u "equals"), (0, u "(Ljava/lang/Object;)Z"), (0, .methodref 13 27), (0, .nameAndType 28 29), (0, u "kind"), (0, u "()Lcom/example/sealwright/sealwright/Arguments$Kind;"), (0, .fieldref 31 32), (0, .class_ 33), (0, .nameAndType 34 35), (0, u "com/example/sealwright/sealwright/Arguments$Kind"), (0, u "FLAG"), (0, u "Lcom/example/sealwright/sealwright/Arguments$Kind;"), (0, .class_ 37), (0, u "com/example/sealwright/sealwright/OptionFlagPinLaw"), (2, u "law"), (0, u "(IIII)Z")] 10

def k1m0 : Method := { name := "<init>", desc := "()V", sig := { parameters := [], returnType := none }, accessFlags := 1, code := none }
def k1c1 : Code := { maxStack := 5, maxLocals := 14, code := code, exceptionTable := #[], attributes := #[] }
def k1m1 : Method := { name := "law", desc := "(IIII)Z", sig := { parameters := [.int, .int, .int, .int], returnType := some .boolean }, accessFlags := 9, code := some k1c1 }
/-- com/example/sealwright/sealwright/OptionFlagPinLaw -/
def k1 : Class := { plain "com/example/sealwright/sealwright/OptionFlagPinLaw" (some 0) with
  accessFlags := 49
  interfaces := #[]
  cf := some (fileOf pool1 36 #[] #[{ accessFlags := 1, nameIndex := 5, descriptorIndex := 6, attributes := #[] }, { accessFlags := 9, nameIndex := 40, descriptorIndex := 41, attributes := #[] }] 49 2 #[] #[])
  fields := #[]
  methods := #[k1m0, k1m1]
  instanceTypes := #[]
  staticTypes := #[]
  resolved := Array.replicate 52 none
  statics := none }

def pool2 : Array CpInfo := pool [(1, .class_ 2), (0, u "java/io/Serializable"), (0, .class_ 4), (0, u "java/lang/Object")] 2

/-- java/io/Serializable -/
def k2 : Class := { plain "java/io/Serializable" (some 0) with
  accessFlags := 1537
  interfaces := #[]
  cf := some (fileOf pool2 1 #[] #[] 1537 3 #[] #[])
  fields := #[]
  methods := #[]
  instanceTypes := #[]
  staticTypes := #[]
  resolved := Array.replicate 7 none
  statics := none }

def pool3 : Array CpInfo := pool [(1, .class_ 2), (0, u "java/lang/Comparable"), (0, .class_ 4), (0, u "java/lang/Object")] 7

/-- java/lang/Comparable -/
def k3 : Class := { plain "java/lang/Comparable" (some 0) with
  accessFlags := 1537
  interfaces := #[]
  cf := some (fileOf pool3 1 #[] #[] 1537 3 #[] #[])
  fields := #[]
  methods := #[]
  instanceTypes := #[]
  staticTypes := #[]
  resolved := Array.replicate 12 none
  statics := none }

def pool4 : Array CpInfo := pool [(2, .class_ 4), (1, u "java/lang/CharSequence"), (42, .class_ 48), (0, u "java/lang/CharSequence$1CodePointIterator"), (10, .class_ 60), (0, u "java/lang/CharSequence$1CharIterator"), (5, .class_ 67), (0, u "java/lang/Object")] 63

/-- java/lang/CharSequence -/
def k4 : Class := { plain "java/lang/CharSequence" (some 0) with
  accessFlags := 1537
  interfaces := #[]
  cf := some (fileOf pool4 2 #[.nestMembers #[47, 59]] #[] 1537 66 #[] #[])
  fields := #[]
  methods := #[]
  instanceTypes := #[]
  staticTypes := #[]
  resolved := Array.replicate 131 none
  statics := none }

def pool5 : Array CpInfo := pool [(1, .class_ 2), (0, u "java/lang/constant/Constable"), (0, .class_ 4), (0, u "java/lang/Object")] 6

/-- java/lang/constant/Constable -/
def k5 : Class := { plain "java/lang/constant/Constable" (some 0) with
  accessFlags := 1537
  interfaces := #[]
  cf := some (fileOf pool5 1 #[] #[] 1537 3 #[] #[])
  fields := #[]
  methods := #[]
  instanceTypes := #[]
  staticTypes := #[]
  resolved := Array.replicate 11 none
  statics := none }

def pool6 : Array CpInfo := pool [(1, .class_ 2), (0, u "java/lang/constant/ConstantDesc"), (0, .class_ 4), (0, u "java/lang/Object")] 32

/-- java/lang/constant/ConstantDesc -/
def k6 : Class := { plain "java/lang/constant/ConstantDesc" (some 0) with
  accessFlags := 1537
  interfaces := #[]
  cf := some (fileOf pool6 1 #[] #[] 1537 3 #[] #[])
  fields := #[]
  methods := #[]
  instanceTypes := #[]
  staticTypes := #[]
  resolved := Array.replicate 37 none
  statics := none }

def pool7 : Array CpInfo := pool [(1, .methodref 2 3), (0, .class_ 4), (0, .nameAndType 5 6), (0, u "java/lang/Object"), (0, u "<init>"), (0, u "()V"), (0, .string 8), (0, u ""), (0, .fieldref 10 11), (0, .class_ 12), (0, .nameAndType 13 14), (0, u "java/lang/String"), (0, u "value"), (0, u "[B"), (0, .fieldref 10 16), (0, .nameAndType 17 18), (0, u "coder"), (0, u "B"), (2, u "hash"), (0, u "I"), (2, u "hashIsZero"), (0, u "Z"), (0, .methodref 10 28), (0, .nameAndType 5 29), (0, u "([CIILjava/lang/Void;)V"), (8, .fieldref 10 39), (0, .nameAndType 40 26), (0, u "COMPACT_STRINGS"), (1, .class_ 44), (1, u "java/lang/StringUTF16"), (0, u "compress"), (1, .methodref 42 48), (0, .nameAndType 49 50), (0, u "coderFromArrayLen"), (0, u "([BI)B"), (126, .methodref 42 178), (0, .nameAndType 45 179), (0, u "([CII)[B"), (363, u "equals"), (29, u "(Ljava/lang/Object;)Z"), (1, .class_ 576), (0, u "java/lang/CharSequence"), (22, u "CASE_INSENSITIVE_ORDER"), (0, u "Ljava/util/Comparator;"), (409, u "([C)V"), (90, u "serialPersistentFields"), (0, u "[Ljava/io/ObjectStreamField;"), (0, .class_ 1104), (0, u "java/lang/String$CaseInsensitiveComparator"), (1, .class_ 1107), (0, u "java/io/Serializable"), (0, .class_ 1109), (0, u "java/lang/Comparable"), (0, .class_ 1111), (0, u "java/lang/constant/Constable"), (0, .class_ 1113), (0, u "java/lang/constant/ConstantDesc"), (2, u "serialVersionUID"), (0, u "J"), (3, u "REPL"), (0, u "C"), (2, u "LATIN1"), (1, u "UTF16")] 323

def k7m0 : Method := { name := "<init>", desc := "()V", sig := { parameters := [], returnType := none }, accessFlags := 1, code := none }
def k7c1 : Code := { maxStack := 5, maxLocals := 2, code := jdk_42_method_3_code, exceptionTable := #[], attributes := #[] }
def k7m1 : Method := { name := "<init>", desc := "([C)V", sig := { parameters := [(.array .char)], returnType := none }, accessFlags := 1, code := some k7c1 }
def k7c2 : Code := { maxStack := 2, maxLocals := 3, code := jdk_42_method_66_code, exceptionTable := #[], attributes := #[] }
def k7m2 : Method := { name := "equals", desc := "(Ljava/lang/Object;)Z", sig := { parameters := [(.object "java/lang/Object")], returnType := some .boolean }, accessFlags := 1, code := some k7c2 }
def k7c3 : Code := { maxStack := 4, maxLocals := 6, code := jdk_42_method_149_code, exceptionTable := #[], attributes := #[] }
def k7m3 : Method := { name := "<init>", desc := "([CIILjava/lang/Void;)V", sig := { parameters := [(.array .char), .int, .int, (.object "java/lang/Void")], returnType := none }, accessFlags := 2, code := some k7c3 }
/-- java/lang/String -/
def k7 : Class := { plain "java/lang/String" (some 0) with
  accessFlags := 49
  interfaces := #[2, 3, 4, 5, 6]
  cf := some (fileOf pool7 10 #[.nestMembers #[1103]] #[{ accessFlags := 1, nameIndex := 5, descriptorIndex := 6, attributes := #[] }, { accessFlags := 1, nameIndex := 5, descriptorIndex := 1010, attributes := #[] }, { accessFlags := 1, nameIndex := 543, descriptorIndex := 573, attributes := #[] }, { accessFlags := 2, nameIndex := 5, descriptorIndex := 29, attributes := #[] }] 49 2 #[1106, 1108, 575, 1110, 1112] #[{ accessFlags := 18, nameIndex := 13, descriptorIndex := 14, attributes := #[] }, { accessFlags := 18, nameIndex := 17, descriptorIndex := 18, attributes := #[] }, { accessFlags := 2, nameIndex := 21, descriptorIndex := 22, attributes := #[] }, { accessFlags := 2, nameIndex := 25, descriptorIndex := 26, attributes := #[] }, { accessFlags := 26, nameIndex := 1116, descriptorIndex := 1117, attributes := #[] }, { accessFlags := 24, nameIndex := 40, descriptorIndex := 26, attributes := #[] }, { accessFlags := 26, nameIndex := 1101, descriptorIndex := 1102, attributes := #[] }, { accessFlags := 26, nameIndex := 1121, descriptorIndex := 1122, attributes := #[] }, { accessFlags := 25, nameIndex := 599, descriptorIndex := 600, attributes := #[] }, { accessFlags := 24, nameIndex := 1125, descriptorIndex := 18, attributes := #[] }, { accessFlags := 24, nameIndex := 1127, descriptorIndex := 18, attributes := #[] }])
  fields := #[{ name := "value", type := (.array .byte), accessFlags := 18, slot := 0, constantValue := 0 }, { name := "coder", type := .byte, accessFlags := 18, slot := 1, constantValue := 0 }, { name := "hash", type := .int, accessFlags := 2, slot := 2, constantValue := 0 }, { name := "hashIsZero", type := .boolean, accessFlags := 2, slot := 3, constantValue := 0 }, { name := "serialVersionUID", type := .long, accessFlags := 26, slot := 0, constantValue := 0 }, { name := "COMPACT_STRINGS", type := .boolean, accessFlags := 24, slot := 1, constantValue := 0 }, { name := "serialPersistentFields", type := (.array (.object "java/io/ObjectStreamField")), accessFlags := 26, slot := 2, constantValue := 0 }, { name := "REPL", type := .char, accessFlags := 26, slot := 3, constantValue := 0 }, { name := "CASE_INSENSITIVE_ORDER", type := (.object "java/util/Comparator"), accessFlags := 25, slot := 4, constantValue := 0 }, { name := "LATIN1", type := .byte, accessFlags := 24, slot := 5, constantValue := 0 }, { name := "UTF16", type := .byte, accessFlags := 24, slot := 6, constantValue := 0 }]
  methods := #[k7m0, k7m1, k7m2, k7m3]
  instanceTypes := #[(.array .byte), .byte, .int, .boolean]
  staticTypes := #[.long, .boolean, (.array (.object "java/io/ObjectStreamField")), .char, (.object "java/util/Comparator"), .byte, .byte]
  resolved := Array.replicate 1451 none
  statics := some 0 }

def pool8 : Array CpInfo := pool [(6, .class_ 8), (1, u "java/lang/Object"), (0, u "<init>"), (0, u "()V"), (1, .class_ 14), (1, u "java/lang/StringUTF16"), (31, u "$assertionsDisabled"), (0, u "Z"), (13, u "HI_BYTE_SHIFT"), (0, u "I"), (2, u "LO_BYTE_SHIFT"), (49, .methodref 12 116), (0, .nameAndType 117 118), (0, u "compress"), (0, u "([CI[BII)I"), (3, u "([CII)[B"), (138, u "coderFromArrayLen"), (0, u "([BI)B"), (106, .class_ 371), (1, u "java/lang/StringUTF16$LinesSpliterator"), (58, u "MAX_LENGTH"), (196, .class_ 628), (0, u "java/lang/StringUTF16$CodePointsSpliterator"), (0, .class_ 630), (0, u "java/lang/StringUTF16$CharsSpliterator")] 4

def k8m0 : Method := { name := "<init>", desc := "()V", sig := { parameters := [], returnType := none }, accessFlags := 0, code := none }
def k8c1 : Code := { maxStack := 2, maxLocals := 2, code := jdk_52_method_15_code, exceptionTable := #[], attributes := #[] }
def k8m1 : Method := { name := "coderFromArrayLen", desc := "([BI)B", sig := { parameters := [(.array .byte), .int], returnType := some .byte }, accessFlags := 8, code := some k8c1 }
def k8c2 : Code := { maxStack := 5, maxLocals := 6, code := jdk_52_method_16_code, exceptionTable := #[], attributes := #[] }
def k8m2 : Method := { name := "compress", desc := "([CII)[B", sig := { parameters := [(.array .char), .int, .int], returnType := some (.array .byte) }, accessFlags := 9, code := some k8c2 }
def k8c3 : Code := { maxStack := 3, maxLocals := 7, code := jdk_52_method_21_code, exceptionTable := #[], attributes := #[] }
def k8m3 : Method := { name := "compress", desc := "([CI[BII)I", sig := { parameters := [(.array .char), .int, (.array .byte), .int, .int], returnType := some .int }, accessFlags := 9, code := some k8c3 }
/-- java/lang/StringUTF16 -/
def k8 : Class := { plain "java/lang/StringUTF16" (some 0) with
  accessFlags := 48
  interfaces := #[]
  cf := some (fileOf pool8 12 #[.nestMembers #[627, 629, 369]] #[{ accessFlags := 0, nameIndex := 9, descriptorIndex := 10, attributes := #[] }, { accessFlags := 8, nameIndex := 261, descriptorIndex := 262, attributes := #[] }, { accessFlags := 9, nameIndex := 117, descriptorIndex := 122, attributes := #[] }, { accessFlags := 9, nameIndex := 117, descriptorIndex := 118, attributes := #[] }] 48 6 #[] #[{ accessFlags := 26, nameIndex := 61, descriptorIndex := 62, attributes := #[] }, { accessFlags := 26, nameIndex := 65, descriptorIndex := 62, attributes := #[] }, { accessFlags := 24, nameIndex := 430, descriptorIndex := 62, attributes := #[] }, { accessFlags := 4120, nameIndex := 46, descriptorIndex := 47, attributes := #[] }])
  fields := #[{ name := "HI_BYTE_SHIFT", type := .int, accessFlags := 26, slot := 0, constantValue := 0 }, { name := "LO_BYTE_SHIFT", type := .int, accessFlags := 26, slot := 1, constantValue := 0 }, { name := "MAX_LENGTH", type := .int, accessFlags := 24, slot := 2, constantValue := 0 }, { name := "$assertionsDisabled", type := .boolean, accessFlags := 4120, slot := 3, constantValue := 0 }]
  methods := #[k8m0, k8m1, k8m2, k8m3]
  instanceTypes := #[]
  staticTypes := #[.int, .int, .int, .boolean]
  resolved := Array.replicate 635 none
  statics := none }

def pool9 : Array CpInfo := pool [(1, .methodref 2 3), (0, .class_ 4), (0, .nameAndType 5 6), (0, u "java/lang/Object"), (0, u "<init>"), (0, u "()V"), (0, .class_ 8), (0, u "java/lang/Record")] 13

def k9c0 : Code := { maxStack := 1, maxLocals := 1, code := jdk_30_method_1_code, exceptionTable := #[], attributes := #[] }
def k9m0 : Method := { name := "<init>", desc := "()V", sig := { parameters := [], returnType := none }, accessFlags := 4, code := some k9c0 }
/-- java/lang/Record -/
def k9 : Class := { plain "java/lang/Record" (some 0) with
  accessFlags := 1057
  interfaces := #[]
  cf := some (fileOf pool9 7 #[] #[{ accessFlags := 4, nameIndex := 5, descriptorIndex := 6, attributes := #[] }] 1057 2 #[] #[])
  fields := #[]
  methods := #[k9m0]
  instanceTypes := #[]
  staticTypes := #[]
  resolved := Array.replicate 22 none
  statics := none }

def pool10 : Array CpInfo := pool [(1, .methodref 2 3), (0, .class_ 4), (0, .nameAndType 5 6), (0, u "java/lang/Record"), (0, u "<init>"), (0, u "()V"), (0, .fieldref 8 9), (0, .class_ 10), (0, .nameAndType 11 12), (0, u "com/example/sealwright/sealwright/Arguments$Option"), (0, u "name"), (0, u "Ljava/lang/String;"), (0, .fieldref 8 14), (0, .nameAndType 15 16), (0, u "kind"), (0, u "Lcom/example/sealwright/sealwright/Arguments$Kind;"), (1, .class_ 20), (1, u "com/example/sealwright/sealwright/Arguments$Kind"), (1, .methodref 8 23), (0, .nameAndType 5 24), (0, u "(Ljava/lang/String;Lcom/example/sealwright/sealwright/Arguments$Kind;)V"), (6, .fieldref 18 32), (0, .nameAndType 33 16), (0, u "FLAG"), (16, u "(Ljava/lang/String;)Lcom/example/sealwright/sealwright/Arguments$Option;"), (2, u "flag"), (0, u "()Ljava/lang/String;"), (2, u "()Lcom/example/sealwright/sealwright/Arguments$Kind;"), (3, .class_ 62), (0, u "com/example/sealwright/sealwright/Arguments")] 21

def k10c0 : Code := { maxStack := 2, maxLocals := 3, code := prog_4_method_1_code, exceptionTable := #[], attributes := #[] }
def k10m0 : Method := { name := "<init>", desc := "(Ljava/lang/String;Lcom/example/sealwright/sealwright/Arguments$Kind;)V", sig := { parameters := [(.object "java/lang/String"), (.object "com/example/sealwright/sealwright/Arguments$Kind")], returnType := none }, accessFlags := 0, code := some k10c0 }
def k10c1 : Code := { maxStack := 4, maxLocals := 1, code := prog_4_method_5_code, exceptionTable := #[], attributes := #[] }
def k10m1 : Method := { name := "flag", desc := "(Ljava/lang/String;)Lcom/example/sealwright/sealwright/Arguments$Option;", sig := { parameters := [(.object "java/lang/String")], returnType := some (.object "com/example/sealwright/sealwright/Arguments$Option") }, accessFlags := 8, code := some k10c1 }
def k10c2 : Code := { maxStack := 1, maxLocals := 1, code := prog_4_method_9_code, exceptionTable := #[], attributes := #[] }
def k10m2 : Method := { name := "name", desc := "()Ljava/lang/String;", sig := { parameters := [], returnType := some (.object "java/lang/String") }, accessFlags := 1, code := some k10c2 }
def k10c3 : Code := { maxStack := 1, maxLocals := 1, code := prog_4_method_10_code, exceptionTable := #[], attributes := #[] }
def k10m3 : Method := { name := "kind", desc := "()Lcom/example/sealwright/sealwright/Arguments$Kind;", sig := { parameters := [], returnType := some (.object "com/example/sealwright/sealwright/Arguments$Kind") }, accessFlags := 1, code := some k10c3 }
/-- com/example/sealwright/sealwright/Arguments$Option -/
def k10 : Class := { plain "com/example/sealwright/sealwright/Arguments$Option" (some 9) with
  accessFlags := 48
  interfaces := #[]
  cf := some (fileOf pool10 8 #[.nestHost 61] #[{ accessFlags := 0, nameIndex := 5, descriptorIndex := 24, attributes := #[] }, { accessFlags := 8, nameIndex := 53, descriptorIndex := 50, attributes := #[] }, { accessFlags := 1, nameIndex := 11, descriptorIndex := 54, attributes := #[] }, { accessFlags := 1, nameIndex := 15, descriptorIndex := 57, attributes := #[] }] 48 2 #[] #[{ accessFlags := 18, nameIndex := 11, descriptorIndex := 12, attributes := #[] }, { accessFlags := 18, nameIndex := 15, descriptorIndex := 16, attributes := #[] }])
  fields := #[{ name := "name", type := (.object "java/lang/String"), accessFlags := 18, slot := 0, constantValue := 0 }, { name := "kind", type := (.object "com/example/sealwright/sealwright/Arguments$Kind"), accessFlags := 18, slot := 1, constantValue := 0 }]
  methods := #[k10m0, k10m1, k10m2, k10m3]
  instanceTypes := #[(.object "java/lang/String"), (.object "com/example/sealwright/sealwright/Arguments$Kind")]
  staticTypes := #[]
  resolved := Array.replicate 84 none
  statics := none }

def pool11 : Array CpInfo := pool [(2, .class_ 4), (1, u "java/lang/Enum"), (0, u "name"), (0, u "Ljava/lang/String;"), (2, u "ordinal"), (0, u "I"), (1, .class_ 14), (1, u "java/lang/Object"), (4, u "hash"), (86, .class_ 108), (1, u "java/lang/Enum$EnumDesc"), (2, .class_ 112), (0, u "java/lang/constant/Constable"), (0, .class_ 114), (0, u "java/lang/Comparable"), (0, .class_ 116), (0, u "java/io/Serializable")] 87

/-- java/lang/Enum -/
def k11 : Class := { plain "java/lang/Enum" (some 0) with
  accessFlags := 1057
  interfaces := #[5, 3, 2]
  cf := some (fileOf pool11 2 #[.nestMembers #[106]] #[] 1057 12 #[111, 113, 115] #[{ accessFlags := 18, nameIndex := 5, descriptorIndex := 6, attributes := #[] }, { accessFlags := 18, nameIndex := 9, descriptorIndex := 10, attributes := #[] }, { accessFlags := 2, nameIndex := 19, descriptorIndex := 10, attributes := #[] }])
  fields := #[{ name := "name", type := (.object "java/lang/String"), accessFlags := 18, slot := 0, constantValue := 0 }, { name := "ordinal", type := .int, accessFlags := 18, slot := 1, constantValue := 0 }, { name := "hash", type := .int, accessFlags := 2, slot := 2, constantValue := 0 }]
  methods := #[]
  instanceTypes := #[(.object "java/lang/String"), .int, .int]
  staticTypes := #[]
  resolved := Array.replicate 204 none
  statics := none }

def pool12 : Array CpInfo := pool [(1, .class_ 2), (0, u "com/example/sealwright/sealwright/Arguments$Kind"), (2, u "REQUIRED"), (0, u "Lcom/example/sealwright/sealwright/Arguments$Kind;"), (2, u "OPTIONAL"), (2, u "REPEATED"), (2, u "FLAG"), (2, u "$VALUES"), (0, u "[Lcom/example/sealwright/sealwright/Arguments$Kind;"), (6, .class_ 28), (1, u "java/lang/Enum"), (27, .class_ 57), (0, u "com/example/sealwright/sealwright/Arguments")] 2

/-- com/example/sealwright/sealwright/Arguments$Kind -/
def k12 : Class := { plain "com/example/sealwright/sealwright/Arguments$Kind" (some 11) with
  accessFlags := 16432
  interfaces := #[]
  cf := some (fileOf pool12 1 #[.nestHost 56] #[] 16432 26 #[] #[{ accessFlags := 16409, nameIndex := 5, descriptorIndex := 6, attributes := #[] }, { accessFlags := 16409, nameIndex := 9, descriptorIndex := 6, attributes := #[] }, { accessFlags := 16409, nameIndex := 12, descriptorIndex := 6, attributes := #[] }, { accessFlags := 16409, nameIndex := 15, descriptorIndex := 6, attributes := #[] }, { accessFlags := 4122, nameIndex := 18, descriptorIndex := 19, attributes := #[] }])
  fields := #[{ name := "REQUIRED", type := (.object "com/example/sealwright/sealwright/Arguments$Kind"), accessFlags := 16409, slot := 0, constantValue := 0 }, { name := "OPTIONAL", type := (.object "com/example/sealwright/sealwright/Arguments$Kind"), accessFlags := 16409, slot := 1, constantValue := 0 }, { name := "REPEATED", type := (.object "com/example/sealwright/sealwright/Arguments$Kind"), accessFlags := 16409, slot := 2, constantValue := 0 }, { name := "FLAG", type := (.object "com/example/sealwright/sealwright/Arguments$Kind"), accessFlags := 16409, slot := 3, constantValue := 0 }, { name := "$VALUES", type := (.array (.object "com/example/sealwright/sealwright/Arguments$Kind")), accessFlags := 4122, slot := 4, constantValue := 0 }]
  methods := #[]
  instanceTypes := #[(.object "java/lang/String"), .int, .int]
  staticTypes := #[(.object "com/example/sealwright/sealwright/Arguments$Kind"), (.object "com/example/sealwright/sealwright/Arguments$Kind"), (.object "com/example/sealwright/sealwright/Arguments$Kind"), (.object "com/example/sealwright/sealwright/Arguments$Kind"), (.array (.object "com/example/sealwright/sealwright/Arguments$Kind"))]
  resolved := Array.replicate 60 none
  statics := some 1 }

def pool13 : Array CpInfo := pool [(4, .class_ 6), (1, u "java/lang/Object"), (0, u "<init>"), (0, u "()V"), (5, .class_ 16), (1, u "java/lang/StringLatin1"), (104, u "$assertionsDisabled"), (0, u "Z"), (98, .class_ 223), (1, u "java/lang/StringLatin1$LinesSpliterator"), (166, .class_ 391), (0, u "java/lang/StringLatin1$CharsSpliterator")] 3

def k13m0 : Method := { name := "<init>", desc := "()V", sig := { parameters := [], returnType := none }, accessFlags := 0, code := none }
/-- java/lang/StringLatin1 -/
def k13 : Class := { plain "java/lang/StringLatin1" (some 0) with
  accessFlags := 48
  interfaces := #[]
  cf := some (fileOf pool13 14 #[.nestMembers #[390, 221]] #[{ accessFlags := 0, nameIndex := 7, descriptorIndex := 8, attributes := #[] }] 48 4 #[] #[{ accessFlags := 4120, nameIndex := 121, descriptorIndex := 122, attributes := #[] }])
  fields := #[{ name := "$assertionsDisabled", type := .boolean, accessFlags := 4120, slot := 0, constantValue := 0 }]
  methods := #[k13m0]
  instanceTypes := #[]
  staticTypes := #[.boolean]
  resolved := Array.replicate 395 none
  statics := none }

def pool14 : Array CpInfo := pool [(2, .class_ 4), (1, u "java/lang/Object"), (0, u "<init>"), (0, u "()V"), (17, .class_ 26), (1, u "jdk/internal/util/Preconditions"), (28, .class_ 56), (0, u "jdk/internal/util/Preconditions$4"), (57, .class_ 115), (0, u "jdk/internal/util/Preconditions$1"), (7, u "SIOOBE_FORMATTER"), (0, u "Ljava/util/function/BiFunction;"), (0, .class_ 126), (0, u "jdk/internal/util/Preconditions$2"), (3, u "AIOOBE_FORMATTER"), (0, .class_ 132), (0, u "jdk/internal/util/Preconditions$3"), (3, u "IOOBE_FORMATTER")] 57

def k14m0 : Method := { name := "<init>", desc := "()V", sig := { parameters := [], returnType := none }, accessFlags := 1, code := none }
/-- jdk/internal/util/Preconditions -/
def k14 : Class := { plain "jdk/internal/util/Preconditions" (some 0) with
  accessFlags := 33
  interfaces := #[]
  cf := some (fileOf pool14 24 #[.nestMembers #[55, 131, 125, 114]] #[{ accessFlags := 1, nameIndex := 5, descriptorIndex := 6, attributes := #[] }] 33 2 #[] #[{ accessFlags := 25, nameIndex := 123, descriptorIndex := 124, attributes := #[] }, { accessFlags := 25, nameIndex := 130, descriptorIndex := 124, attributes := #[] }, { accessFlags := 25, nameIndex := 136, descriptorIndex := 124, attributes := #[] }])
  fields := #[{ name := "SIOOBE_FORMATTER", type := (.object "java/util/function/BiFunction"), accessFlags := 25, slot := 0, constantValue := 0 }, { name := "AIOOBE_FORMATTER", type := (.object "java/util/function/BiFunction"), accessFlags := 25, slot := 1, constantValue := 0 }, { name := "IOOBE_FORMATTER", type := (.object "java/util/function/BiFunction"), accessFlags := 25, slot := 2, constantValue := 0 }]
  methods := #[k14m0]
  instanceTypes := #[]
  staticTypes := #[(.object "java/util/function/BiFunction"), (.object "java/util/function/BiFunction"), (.object "java/util/function/BiFunction")]
  resolved := Array.replicate 194 none
  statics := some 2 }

def pool15 : Array CpInfo := pool [(9, u "<init>"), (6, .class_ 18), (1, u "java/lang/Object"), (0, u "()V"), (1, .class_ 23), (1, u "jdk/internal/util/ArraysSupport"), (0, u "LOG2_ARRAY_LONG_INDEX_SCALE"), (0, u "I"), (2, u "U"), (0, u "Ljdk/internal/misc/Unsafe;"), (8, u "BIG_ENDIAN"), (0, u "Z"), (8, u "LOG2_BYTE_BIT_SIZE"), (4, u "LOG2_ARRAY_INT_INDEX_SCALE"), (54, u "JLA"), (0, u "Ljdk/internal/access/JavaLangAccess;"), (11, u "LOG2_ARRAY_BOOLEAN_INDEX_SCALE"), (9, u "LOG2_ARRAY_BYTE_INDEX_SCALE"), (5, u "LOG2_ARRAY_CHAR_INDEX_SCALE"), (5, u "LOG2_ARRAY_SHORT_INDEX_SCALE"), (18, u "LOG2_ARRAY_FLOAT_INDEX_SCALE"), (24, u "LOG2_ARRAY_DOUBLE_INDEX_SCALE"), (89, u "T_BOOLEAN"), (2, u "T_CHAR"), (1, u "T_FLOAT"), (1, u "T_DOUBLE"), (1, u "T_BYTE"), (1, u "T_SHORT"), (1, u "T_INT"), (1, u "T_LONG"), (1, u "SOFT_MAX_ARRAY_LENGTH")] 83

def k15m0 : Method := { name := "<init>", desc := "()V", sig := { parameters := [], returnType := none }, accessFlags := 2, code := none }
/-- jdk/internal/util/ArraysSupport -/
def k15 : Class := { plain "jdk/internal/util/ArraysSupport" (some 0) with
  accessFlags := 33
  interfaces := #[]
  cf := some (fileOf pool15 21 #[] #[{ accessFlags := 2, nameIndex := 9, descriptorIndex := 19, attributes := #[] }] 33 16 #[] #[{ accessFlags := 24, nameIndex := 28, descriptorIndex := 29, attributes := #[] }, { accessFlags := 26, nameIndex := 38, descriptorIndex := 39, attributes := #[] }, { accessFlags := 25, nameIndex := 121, descriptorIndex := 25, attributes := #[] }, { accessFlags := 25, nameIndex := 131, descriptorIndex := 25, attributes := #[] }, { accessFlags := 25, nameIndex := 137, descriptorIndex := 25, attributes := #[] }, { accessFlags := 25, nameIndex := 143, descriptorIndex := 25, attributes := #[] }, { accessFlags := 25, nameIndex := 53, descriptorIndex := 25, attributes := #[] }, { accessFlags := 25, nameIndex := 24, descriptorIndex := 25, attributes := #[] }, { accessFlags := 25, nameIndex := 162, descriptorIndex := 25, attributes := #[] }, { accessFlags := 25, nameIndex := 187, descriptorIndex := 25, attributes := #[] }, { accessFlags := 26, nameIndex := 48, descriptorIndex := 25, attributes := #[] }, { accessFlags := 25, nameIndex := 277, descriptorIndex := 25, attributes := #[] }, { accessFlags := 25, nameIndex := 280, descriptorIndex := 25, attributes := #[] }, { accessFlags := 25, nameIndex := 282, descriptorIndex := 25, attributes := #[] }, { accessFlags := 25, nameIndex := 284, descriptorIndex := 25, attributes := #[] }, { accessFlags := 25, nameIndex := 286, descriptorIndex := 25, attributes := #[] }, { accessFlags := 25, nameIndex := 288, descriptorIndex := 25, attributes := #[] }, { accessFlags := 25, nameIndex := 290, descriptorIndex := 25, attributes := #[] }, { accessFlags := 25, nameIndex := 292, descriptorIndex := 25, attributes := #[] }, { accessFlags := 26, nameIndex := 108, descriptorIndex := 109, attributes := #[] }, { accessFlags := 25, nameIndex := 294, descriptorIndex := 25, attributes := #[] }])
  fields := #[{ name := "U", type := (.object "jdk/internal/misc/Unsafe"), accessFlags := 24, slot := 0, constantValue := 0 }, { name := "BIG_ENDIAN", type := .boolean, accessFlags := 26, slot := 1, constantValue := 0 }, { name := "LOG2_ARRAY_BOOLEAN_INDEX_SCALE", type := .int, accessFlags := 25, slot := 2, constantValue := 0 }, { name := "LOG2_ARRAY_BYTE_INDEX_SCALE", type := .int, accessFlags := 25, slot := 3, constantValue := 0 }, { name := "LOG2_ARRAY_CHAR_INDEX_SCALE", type := .int, accessFlags := 25, slot := 4, constantValue := 0 }, { name := "LOG2_ARRAY_SHORT_INDEX_SCALE", type := .int, accessFlags := 25, slot := 5, constantValue := 0 }, { name := "LOG2_ARRAY_INT_INDEX_SCALE", type := .int, accessFlags := 25, slot := 6, constantValue := 0 }, { name := "LOG2_ARRAY_LONG_INDEX_SCALE", type := .int, accessFlags := 25, slot := 7, constantValue := 0 }, { name := "LOG2_ARRAY_FLOAT_INDEX_SCALE", type := .int, accessFlags := 25, slot := 8, constantValue := 0 }, { name := "LOG2_ARRAY_DOUBLE_INDEX_SCALE", type := .int, accessFlags := 25, slot := 9, constantValue := 0 }, { name := "LOG2_BYTE_BIT_SIZE", type := .int, accessFlags := 26, slot := 10, constantValue := 0 }, { name := "T_BOOLEAN", type := .int, accessFlags := 25, slot := 11, constantValue := 0 }, { name := "T_CHAR", type := .int, accessFlags := 25, slot := 12, constantValue := 0 }, { name := "T_FLOAT", type := .int, accessFlags := 25, slot := 13, constantValue := 0 }, { name := "T_DOUBLE", type := .int, accessFlags := 25, slot := 14, constantValue := 0 }, { name := "T_BYTE", type := .int, accessFlags := 25, slot := 15, constantValue := 0 }, { name := "T_SHORT", type := .int, accessFlags := 25, slot := 16, constantValue := 0 }, { name := "T_INT", type := .int, accessFlags := 25, slot := 17, constantValue := 0 }, { name := "T_LONG", type := .int, accessFlags := 25, slot := 18, constantValue := 0 }, { name := "JLA", type := (.object "jdk/internal/access/JavaLangAccess"), accessFlags := 26, slot := 19, constantValue := 0 }, { name := "SOFT_MAX_ARRAY_LENGTH", type := .int, accessFlags := 25, slot := 20, constantValue := 0 }]
  methods := #[k15m0]
  instanceTypes := #[]
  staticTypes := #[(.object "jdk/internal/misc/Unsafe"), .boolean, .int, .int, .int, .int, .int, .int, .int, .int, .int, .int, .int, .int, .int, .int, .int, .int, .int, (.object "jdk/internal/access/JavaLangAccess"), .int]
  resolved := Array.replicate 378 none
  statics := none }

def pool16 : Array CpInfo := pool [(1, u "java/lang/Cloneable"), (0, .class_ 1), (0, u "java/lang/Object"), (0, .class_ 3)] 3

/-- java/lang/Cloneable -/
def k16 : Class := { plain "java/lang/Cloneable" (some 0) with
  accessFlags := 1537
  interfaces := #[]
  cf := some (fileOf pool16 2 #[] #[] 1537 4 #[] #[])
  fields := #[]
  methods := #[]
  instanceTypes := #[]
  staticTypes := #[]
  resolved := Array.replicate 8 none
  statics := none }

/-- the primitive byte -/
def k17 : Class := { plain "byte" none with kind := .primitive 'B', accessFlags := 0x411 }
/-- [B -/
def k18 : Class := { plain "[B" (some 0) with kind := .array 17 .byte, interfaces := #[16, 2], accessFlags := 1041 }

/-- the primitive char -/
def k19 : Class := { plain "char" none with kind := .primitive 'C', accessFlags := 0x411 }
/-- [C -/
def k20 : Class := { plain "[C" (some 0) with kind := .array 19 .char, interfaces := #[16, 2], accessFlags := 1041 }

/-- the primitive int -/
def k21 : Class := { plain "int" none with kind := .primitive 'I', accessFlags := 0x411 }
/-- [I -/
def k22 : Class := { plain "[I" (some 0) with kind := .array 21 .int, interfaces := #[16, 2], accessFlags := 1041 }

def heap : Heap := #[{ cls := 7, slots := #[.long 0, .int 1, .null, .int 0, .null, .int 0, .int 0], vm := .statics 7 },
  { cls := 12, slots := #[.null, .null, .null, .ref 3, .null], vm := .statics 12 },
  { cls := 14, slots := #[.null, .null, .null], vm := .statics 14 },
  { cls := 12, slots := #[.null, .int 0, .int 0], vm := .none }]
def classes : Array Class := #[k0, k1, k2, k3, k4, k5, k6, k7, k8, k9, k10, k11, k12, k13, k14, k15, k16, k17, k18, k19, k20, k21, k22]
def interned : List (Array UInt16 × Addr) := []
def slotsUsed : Nat := 18
def theMethod : MethodId := ⟨1, 1⟩
def args0 : Array Value := #[.int 5, .int 6, .int 7, .int 8]
def aboutOver (below : List Frame) : State where
  vm := { classes := classes, interned := interned.toArray }
  heap := heap
  slotsUsed := slotsUsed
  threads := #[{ frames := .invoking theMethod args0 :: below }]
def below0 : List Frame := [.native { method := ⟨0, 0⟩, args := #[] }]
def about1 : State := aboutOver below0
def p0 : Program := .bare "" "" ""
def e0 : Env := launch0.env 0 0 0
theorem w_frames : about1.frames = Frame.invoking theMethod args0 :: below0 := rfl
set_option maxRecDepth 65536 in
theorem w_args : argsFit about1.vm theMethod args0 = true := by decide +kernel
set_option maxRecDepth 65536 in
theorem w_heap : heapFits about1 = true := by decide +kernel
set_option maxRecDepth 65536 in
theorem w_runnable : about1.curStatus? = some .runnable := by decide +kernel
set_option maxRecDepth 65536 in
theorem w_alone : about1.alone = true := by decide +kernel
set_option maxRecDepth 65536 in
theorem w_named : about1.methodNamed? x = some theMethod := by decide +kernel
set_option maxRecDepth 65536 in
theorem w_hears : about1.hears theMethod below0 = true := by decide +kernel
set_option maxRecDepth 65536 in
theorem w_ripe : about1.ripe theMethod args0 below0 = true := by decide +kernel
theorem w_running : about1.status = .running := rfl
set_option maxRecDepth 65536 in
theorem w_room : about1.hasRoom e0.platform room_1 = true :=
  launch0.hasRoom_least _ room_1 (by decide +kernel) (by decide +kernel) (by decide +kernel) (by decide +kernel) (by decide +kernel) (by decide +kernel)
theorem allAtoms_all (ts : List Jvm.Cond) (a : Array Jvm.Value) (st : Jvm.State) : (allAtoms ts).before a st = ts.all (fun c => c.before a st) := by
  induction ts with
  | nil => rfl
  | cons c t ih =>
    show (Jvm.Cond.and c (allAtoms t)).before a st = _
    rw [Jvm.Cond.before_and, ih, List.all_cons]
def words1 : List Jvm.Cond := Jvm.Cond.code x code maxLocals ret :: tables_1
/-- a 'code' word, met by the world's own term for the bytes: nothing is compared byte by byte -/
theorem code_word {y : MethodName} {bytes : ByteArray} {mx : Nat} {rt : Option FieldType} {a : Array Value} {s : State} {m : MethodId} {meth : Method} {c : Code} (h1 : s.methodNamed? y = some m) (h2 : s.vm.method? m = some meth) (h3 : meth.code = some c) (h4 : c.code = bytes)
    (h5 : (c.maxLocals == mx && c.exceptionTable.isEmpty && decide (c.maxStack ≤ mostOperands) && decide (meth.sig.returnType = rt) && !meth.locks && decide (parseMethodDescriptor y.desc = some meth.sig)) = true) : (Jvm.Cond.code y bytes mx rt).before a s = true := by
  simp only [Bool.and_eq_true, beq_iff_eq, Bool.not_eq_true', decide_eq_true_eq] at h5
  obtain ⟨⟨⟨⟨⟨g1, g2⟩, g3⟩, g4⟩, g5⟩, g6⟩ := h5
  simp [Cond.before, Cond.holds, Cond.value, h1, h2, h3, h4, g1, g2, g3, g4, g5, g6]
def isCode : Jvm.Cond → Bool
  | .code _ _ _ _ => true
  | _ => false
theorem all_split {L : List Jvm.Cond} {P : Jvm.Cond → Bool} (h1 : L.all (fun c => isCode c || P c) = true) (h2 : ∀ c ∈ L.filter isCode, P c = true) : L.all P = true := by
  refine List.all_eq_true.mpr fun c hc => ?_
  have h := List.all_eq_true.mp h1 c hc
  rcases Bool.eq_false_or_eq_true (isCode c) with hi | hi
  · exact h2 c (List.mem_filter.mpr ⟨hc, hi⟩)
  · simpa [hi] using h
set_option maxRecDepth 65536 in
theorem w_c0 : (Jvm.Cond.code x code maxLocals ret).before args0 about1 = true := code_word (m := ⟨1, 1⟩) (meth := k1m1) (c := k1c1) (by decide +kernel) rfl rfl rfl (by decide +kernel)
set_option maxRecDepth 65536 in
theorem w_c1 : (Jvm.Cond.code ({ cls := "java/lang/String", name := "<init>", desc := "([C)V" } : Jvm.MethodName) jdk_42_method_3_code (2 : Nat) (Option.none : Option Jvm.ClassFile.FieldType)).before args0 about1 = true := code_word (m := ⟨7, 1⟩) (meth := k7m1) (c := k7c1) (by decide +kernel) rfl rfl rfl (by decide +kernel)
set_option maxRecDepth 65536 in
theorem w_c2 : (Jvm.Cond.code ({ cls := "java/lang/String", name := "<init>", desc := "([CIILjava/lang/Void;)V" } : Jvm.MethodName) jdk_42_method_149_code (6 : Nat) (Option.none : Option Jvm.ClassFile.FieldType)).before args0 about1 = true := code_word (m := ⟨7, 3⟩) (meth := k7m3) (c := k7c3) (by decide +kernel) rfl rfl rfl (by decide +kernel)
set_option maxRecDepth 65536 in
theorem w_c3 : (Jvm.Cond.code ({ cls := "java/lang/Object", name := "<init>", desc := "()V" } : Jvm.MethodName) object_method_1_code (1 : Nat) (Option.none : Option Jvm.ClassFile.FieldType)).before args0 about1 = true := code_word (m := ⟨0, 0⟩) (meth := k0m0) (c := k0c0) (by decide +kernel) rfl rfl rfl (by decide +kernel)
set_option maxRecDepth 65536 in
theorem w_c4 : (Jvm.Cond.code ({ cls := "java/lang/StringUTF16", name := "compress", desc := "([CII)[B" } : Jvm.MethodName) jdk_52_method_16_code (6 : Nat) (Option.some (Jvm.ClassFile.FieldType.array Jvm.ClassFile.FieldType.byte))).before args0 about1 = true := code_word (m := ⟨8, 2⟩) (meth := k8m2) (c := k8c2) (by decide +kernel) rfl rfl rfl (by decide +kernel)
set_option maxRecDepth 65536 in
theorem w_c5 : (Jvm.Cond.code ({ cls := "java/lang/StringUTF16", name := "compress", desc := "([CI[BII)I" } : Jvm.MethodName) jdk_52_method_21_code (7 : Nat) (Option.some Jvm.ClassFile.FieldType.int)).before args0 about1 = true := code_word (m := ⟨8, 3⟩) (meth := k8m3) (c := k8c3) (by decide +kernel) rfl rfl rfl (by decide +kernel)
set_option maxRecDepth 65536 in
theorem w_c6 : (Jvm.Cond.code ({ cls := "java/lang/StringUTF16", name := "coderFromArrayLen", desc := "([BI)B" } : Jvm.MethodName) jdk_52_method_15_code (2 : Nat) (Option.some Jvm.ClassFile.FieldType.byte)).before args0 about1 = true := code_word (m := ⟨8, 1⟩) (meth := k8m1) (c := k8c1) (by decide +kernel) rfl rfl rfl (by decide +kernel)
set_option maxRecDepth 65536 in
theorem w_c7 : (Jvm.Cond.code ({ cls := "com/example/sealwright/sealwright/Arguments$Option", name := "flag", desc := "(Ljava/lang/String;)Lcom/example/sealwright/sealwright/Arguments$Option;" } : Jvm.MethodName) prog_4_method_5_code (1 : Nat) (Option.some (Jvm.ClassFile.FieldType.object "com/example/sealwright/sealwright/Arguments$Option"))).before args0 about1 = true := code_word (m := ⟨10, 1⟩) (meth := k10m1) (c := k10c1) (by decide +kernel) rfl rfl rfl (by decide +kernel)
set_option maxRecDepth 65536 in
theorem w_c8 : (Jvm.Cond.code ({ cls := "com/example/sealwright/sealwright/Arguments$Option", name := "<init>", desc := "(Ljava/lang/String;Lcom/example/sealwright/sealwright/Arguments$Kind;)V" } : Jvm.MethodName) prog_4_method_1_code (3 : Nat) (Option.none : Option Jvm.ClassFile.FieldType)).before args0 about1 = true := code_word (m := ⟨10, 0⟩) (meth := k10m0) (c := k10c0) (by decide +kernel) rfl rfl rfl (by decide +kernel)
set_option maxRecDepth 65536 in
theorem w_c9 : (Jvm.Cond.code ({ cls := "java/lang/Record", name := "<init>", desc := "()V" } : Jvm.MethodName) jdk_30_method_1_code (1 : Nat) (Option.none : Option Jvm.ClassFile.FieldType)).before args0 about1 = true := code_word (m := ⟨9, 0⟩) (meth := k9m0) (c := k9c0) (by decide +kernel) rfl rfl rfl (by decide +kernel)
set_option maxRecDepth 65536 in
theorem w_c10 : (Jvm.Cond.code ({ cls := "com/example/sealwright/sealwright/Arguments$Option", name := "name", desc := "()Ljava/lang/String;" } : Jvm.MethodName) prog_4_method_9_code (1 : Nat) (Option.some (Jvm.ClassFile.FieldType.object "java/lang/String"))).before args0 about1 = true := code_word (m := ⟨10, 2⟩) (meth := k10m2) (c := k10c2) (by decide +kernel) rfl rfl rfl (by decide +kernel)
set_option maxRecDepth 65536 in
theorem w_c11 : (Jvm.Cond.code ({ cls := "java/lang/String", name := "equals", desc := "(Ljava/lang/Object;)Z" } : Jvm.MethodName) jdk_42_method_66_code (3 : Nat) (Option.some Jvm.ClassFile.FieldType.boolean)).before args0 about1 = true := code_word (m := ⟨7, 2⟩) (meth := k7m2) (c := k7c2) (by decide +kernel) rfl rfl rfl (by decide +kernel)
set_option maxRecDepth 65536 in
theorem w_c12 : (Jvm.Cond.code ({ cls := "com/example/sealwright/sealwright/Arguments$Option", name := "kind", desc := "()Lcom/example/sealwright/sealwright/Arguments$Kind;" } : Jvm.MethodName) prog_4_method_10_code (1 : Nat) (Option.some (Jvm.ClassFile.FieldType.object "com/example/sealwright/sealwright/Arguments$Kind"))).before args0 about1 = true := code_word (m := ⟨10, 3⟩) (meth := k10m3) (c := k10c3) (by decide +kernel) rfl rfl rfl (by decide +kernel)
def codes1 : List Jvm.Cond := [Jvm.Cond.code x code maxLocals ret, Jvm.Cond.code ({ cls := "java/lang/String", name := "<init>", desc := "([C)V" } : Jvm.MethodName) jdk_42_method_3_code (2 : Nat) (Option.none : Option Jvm.ClassFile.FieldType), Jvm.Cond.code ({ cls := "java/lang/String", name := "<init>", desc := "([CIILjava/lang/Void;)V" } : Jvm.MethodName) jdk_42_method_149_code (6 : Nat) (Option.none : Option Jvm.ClassFile.FieldType), Jvm.Cond.code ({ cls := "java/lang/Object", name := "<init>", desc := "()V" } : Jvm.MethodName) object_method_1_code (1 : Nat) (Option.none : Option Jvm.ClassFile.FieldType), Jvm.Cond.code ({ cls := "java/lang/StringUTF16", name := "compress", desc := "([CII)[B" } : Jvm.MethodName) jdk_52_method_16_code (6 : Nat) (Option.some (Jvm.ClassFile.FieldType.array Jvm.ClassFile.FieldType.byte)), Jvm.Cond.code ({ cls := "java/lang/StringUTF16", name := "compress", desc := "([CI[BII)I" } : Jvm.MethodName) jdk_52_method_21_code (7 : Nat) (Option.some Jvm.ClassFile.FieldType.int), Jvm.Cond.code ({ cls := "java/lang/StringUTF16", name := "coderFromArrayLen", desc := "([BI)B" } : Jvm.MethodName) jdk_52_method_15_code (2 : Nat) (Option.some Jvm.ClassFile.FieldType.byte), Jvm.Cond.code ({ cls := "com/example/sealwright/sealwright/Arguments$Option", name := "flag", desc := "(Ljava/lang/String;)Lcom/example/sealwright/sealwright/Arguments$Option;" } : Jvm.MethodName) prog_4_method_5_code (1 : Nat) (Option.some (Jvm.ClassFile.FieldType.object "com/example/sealwright/sealwright/Arguments$Option")), Jvm.Cond.code ({ cls := "com/example/sealwright/sealwright/Arguments$Option", name := "<init>", desc := "(Ljava/lang/String;Lcom/example/sealwright/sealwright/Arguments$Kind;)V" } : Jvm.MethodName) prog_4_method_1_code (3 : Nat) (Option.none : Option Jvm.ClassFile.FieldType), Jvm.Cond.code ({ cls := "java/lang/Record", name := "<init>", desc := "()V" } : Jvm.MethodName) jdk_30_method_1_code (1 : Nat) (Option.none : Option Jvm.ClassFile.FieldType), Jvm.Cond.code ({ cls := "com/example/sealwright/sealwright/Arguments$Option", name := "name", desc := "()Ljava/lang/String;" } : Jvm.MethodName) prog_4_method_9_code (1 : Nat) (Option.some (Jvm.ClassFile.FieldType.object "java/lang/String")), Jvm.Cond.code ({ cls := "java/lang/String", name := "equals", desc := "(Ljava/lang/Object;)Z" } : Jvm.MethodName) jdk_42_method_66_code (3 : Nat) (Option.some Jvm.ClassFile.FieldType.boolean), Jvm.Cond.code ({ cls := "com/example/sealwright/sealwright/Arguments$Option", name := "kind", desc := "()Lcom/example/sealwright/sealwright/Arguments$Kind;" } : Jvm.MethodName) prog_4_method_10_code (1 : Nat) (Option.some (Jvm.ClassFile.FieldType.object "com/example/sealwright/sealwright/Arguments$Kind"))]
set_option maxRecDepth 65536 in
theorem codes_eq : words1.filter isCode = codes1 := rfl
theorem w_codes : ∀ c ∈ words1.filter isCode, c.before args0 about1 = true := by
  rw [codes_eq]
  intro c hc
  simp only [codes1, List.mem_cons, List.not_mem_nil, or_false] at hc
  rcases hc with rfl | rfl | rfl | rfl | rfl | rfl | rfl | rfl | rfl | rfl | rfl | rfl | rfl
  · exact w_c0
  · exact w_c1
  · exact w_c2
  · exact w_c3
  · exact w_c4
  · exact w_c5
  · exact w_c6
  · exact w_c7
  · exact w_c8
  · exact w_c9
  · exact w_c10
  · exact w_c11
  · exact w_c12
set_option maxRecDepth 65536 in
theorem w_t1 : (words1.take 24).all (fun c => isCode c || c.before args0 about1) = true := by decide +kernel
set_option maxRecDepth 65536 in
theorem w_t2 : ((words1.drop 24).take 24).all (fun c => isCode c || c.before args0 about1) = true := by decide +kernel
set_option maxRecDepth 65536 in
theorem w_t3 : ((words1.drop 24).drop 24).all (fun c => isCode c || c.before args0 about1) = true := by decide +kernel
theorem w_tables : (allAtoms (Jvm.Cond.code x code maxLocals ret :: tables_1)).before args0 about1 = true := by
  rw [allAtoms_all]
  show words1.all (fun c => c.before args0 about1) = true
  refine all_split ?_ w_codes
  rw [← List.take_append_drop 24 words1, List.all_append, w_t1, ← List.take_append_drop 24 (words1.drop 24), List.all_append, w_t2, w_t3]
  rfl
set_option maxRecDepth 65536 in
theorem w_rest : rest_1_c.before args0 about1 = true := by decide +kernel
set_option maxRecDepth 65536 in
theorem w_case : (Jvm.Cond.and given_1 narrow_1).before args0 about1 = true := by decide +kernel
set_option maxRecDepth 65536 in
theorem w_consts : constsHeld consts_1 about1 := Jvm.Lit.constsHeldB_iff.mp (by decide +kernel)
theorem w_applies : (headSpec (Jvm.Cond.code x code maxLocals ret :: tables_1) room_1).applies x e0.platform about1 = true :=
  (Spec.applies_iff w_frames).mpr ⟨w_running, w_runnable, w_alone, w_named, w_hears, w_ripe, w_room, w_tables⟩
theorem atStart : AtStart classFile x code maxLocals ret World_1 tables_1 room_1 Calls_1 rest_1 Pre_1 launch0 p0 e0 about1 theMethod args0 below0 :=
  ⟨lists_1, trivial, launch0.admits_env _ _ _, launch0.least_env, fairChoices_fair.cas, fairChoices_fair.clock, w_frames, w_args, w_heap, w_applies, ⟨w_consts, trivial⟩, w_rest, w_case⟩
end start1
theorem witness_1 : WitnessClaimed_1 := ⟨start1.p0, start1.e0, start1.about1, start1.theMethod, start1.args0, start1.below0, start1.atStart⟩
end Jvm.Pilot.@@N@@
