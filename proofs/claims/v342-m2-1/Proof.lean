import JvmDerived
import JvmDerived.Pilot.@@N@@Statement
import JvmDerived.Pilot.@@N@@Code
set_option linter.unusedVariables false
set_option linter.unusedSimpArgs false
namespace Jvm.Pilot.@@N@@
open Jvm Jvm.ClassFile Sem Op Lib Jvm.Free Jvm.Stand Jvm.LawKit Jvm.RoadKit Bundle Jvm.Pilot.@@N@@.Jvm.D

/-! ## own kit: a walk as a tree -/
section OwnKit
variable {p : Program} {l : Launch} {e : Env} {R : Room} {s : State} {m : MethodId} {args : Array Value} {below : List Frame} {meth : Method} {c : Code} {T T' : State} {locs : List Loc} {cells slots : Nat} {Q : Option Value → Heap → List Loc → Prop} {f f' : JFrame} {Z : State} {a0 : Array Value} {h h' : Heap}
/-- from here the body comes to its return, and Q holds there -/
def Go (p : Program) (e : Env) (s : State) (below : List Frame) (R : Room) (Q : Option Value → Heap → List Loc → Prop) (T : State) (f : JFrame) : Prop :=
  ∃ s₂ o, Steps p.tables e below (T.setTop f) s₂ ∧ s₂.status = .running ∧ Ended s₂ below o ∧ ∃ v L, o = .returned v ∧ Q v s₂.heap L ∧ FrameEnd s o s₂ L R.cells R.slots
theorem Go.of (k : ∀ t, Steps p.tables e below (T'.setTop f') t → Steps p.tables e below (T.setTop f) t) (G : Go p e s below R Q T' f') : Go p e s below R Q T f := by
  obtain ⟨s2, o, h1, h2⟩ := G
  exact ⟨s2, o, k _ h1, h2⟩
theorem Go.cast (q : f = f') (G : Go p e s below R Q T f') : Go p e s below R Q T f := q ▸ G
theorem Go.retO (X : Stand p l e R s m args below meth c T locs cells slots) (hx : p.tables.exec = Jvm.exec) (hlk : meth.locks = false) {pc : Nat} {Ls : Array Slot} {w : Value} {t : FieldType} {i : Instr} {rest : List Value} (hret : meth.sig.returnType = some t) (hn : narrow t w = w)
    (hi : (i = .ireturn ∧ (t = .int ∨ t = .boolean ∨ t = .byte ∨ t = .char ∨ t = .short) ∧ ∃ z, w = .int z) ∨ (i = .lreturn ∧ t = .long ∧ ∃ z, w = .long z) ∨ (i = .dreturn ∧ t = .double ∧ ∃ z, w = .double z) ∨ (i = .freturn ∧ t = .float ∧ ∃ z, w = .float z) ∨ (i = .areturn ∧ t.isReference = true ∧ w.isRef = true))
    (hd : decode c.code pc = .ok (i, 1)) (hc : cells ≤ R.cells) (hs : slots ≤ R.slots) (hq : Q (some w) T.heap locs) : Go p e s below R Q T (mkF m pc Ls (w :: rest)) := by
  obtain ⟨fs, hr, hrun, hended, hW, hsame⟩ := X.leave (v := some w) (fun h => by rw [hret] at h; cases h) hlk
  exact ⟨_, _, retOut X hx hret hn hi hd hr, hrun, hended, _, _, rfl, hq, ⟨_, rfl⟩, hW, hsame.mono hc hs⟩
theorem Go.retI (X : Stand p l e R s m args below meth c T locs cells slots) (hx : p.tables.exec = Jvm.exec) (hlk : meth.locks = false) (hret : meth.sig.returnType = some .int) {pc : Nat} {Ls : Array Slot} {z : Int32} {rest : List Value}
    (hd : decode c.code pc = .ok (.ireturn, 1)) (hc : cells ≤ R.cells) (hs : slots ≤ R.slots) (hq : Q (some (.int z)) T.heap locs) : Go p e s below R Q T (mkF m pc Ls (.int z :: rest)) :=
  Go.retO X hx hlk hret rfl (Or.inl ⟨rfl, Or.inl rfl, _, rfl⟩) hd hc hs hq
theorem Go.retJ (X : Stand p l e R s m args below meth c T locs cells slots) (hx : p.tables.exec = Jvm.exec) (hlk : meth.locks = false) (hret : meth.sig.returnType = some .long) {pc : Nat} {Ls : Array Slot} {z : Int64} {rest : List Value}
    (hd : decode c.code pc = .ok (.lreturn, 1)) (hc : cells ≤ R.cells) (hs : slots ≤ R.slots) (hq : Q (some (.long z)) T.heap locs) : Go p e s below R Q T (mkF m pc Ls (.long z :: rest)) :=
  Go.retO X hx hlk hret rfl (Or.inr (Or.inl ⟨rfl, rfl, _, rfl⟩)) hd hc hs hq
theorem Go.retD (X : Stand p l e R s m args below meth c T locs cells slots) (hx : p.tables.exec = Jvm.exec) (hlk : meth.locks = false) (hret : meth.sig.returnType = some .double) {pc : Nat} {Ls : Array Slot} {z : UInt64} {rest : List Value}
    (hd : decode c.code pc = .ok (.dreturn, 1)) (hc : cells ≤ R.cells) (hs : slots ≤ R.slots) (hq : Q (some (.double z)) T.heap locs) : Go p e s below R Q T (mkF m pc Ls (.double z :: rest)) :=
  Go.retO X hx hlk hret rfl (Or.inr (Or.inr (Or.inl ⟨rfl, rfl, _, rfl⟩))) hd hc hs hq
theorem Go.retA (X : Stand p l e R s m args below meth c T locs cells slots) (hx : p.tables.exec = Jvm.exec) (hlk : meth.locks = false) {t : FieldType} (hret : meth.sig.returnType = some t) (ht : t.isReference = true) {pc : Nat} {Ls : Array Slot} {w : Value} {rest : List Value}
    (hw : w.isRef = true) (hd : decode c.code pc = .ok (.areturn, 1)) (hc : cells ≤ R.cells) (hs : slots ≤ R.slots) (hq : Q (some w) T.heap locs) : Go p e s below R Q T (mkF m pc Ls (w :: rest)) :=
  Go.retO X hx hlk hret (by cases t <;> first | (cases ht; done) | rfl) (Or.inr (Or.inr (Or.inr (Or.inr ⟨rfl, ht, hw⟩)))) hd hc hs hq
theorem Go.retB (X : Stand p l e R s m args below meth c T locs cells slots) (hx : p.tables.exec = Jvm.exec) (hlk : meth.locks = false) {t : FieldType} (hret : meth.sig.returnType = some t) (ht : t = .boolean ∨ t = .byte ∨ t = .char ∨ t = .short) {pc : Nat} {Ls : Array Slot} {z : Int32} {rest : List Value}
    (hd : decode c.code pc = .ok (.ireturn, 1)) (hc : cells ≤ R.cells) (hs : slots ≤ R.slots) {z' : Int32} (hz : nar t z = z') (hq : Q (some (.int z')) T.heap locs) : Go p e s below R Q T (mkF m pc Ls (.int z :: rest)) := by
  subst hz
  obtain ⟨fs, hr, hrun, hended, hW, hsame⟩ := X.leave (v := some (.int (nar t z))) (fun h => by rw [hret] at h; cases h) hlk
  exact ⟨_, _, retN X hx hret ht hd hr, hrun, hended, _, _, rfl, hq, ⟨_, rfl⟩, hW, hsame.mono hc hs⟩
theorem Go.retV (X : Stand p l e R s m args below meth c T locs cells slots) (hx : p.tables.exec = Jvm.exec) (hlk : meth.locks = false) (hret : meth.sig.returnType = none) {pc : Nat} {Ls : Array Slot}
    (hd : decode c.code pc = .ok (.return_, 1)) (hc : cells ≤ R.cells) (hs : slots ≤ R.slots) (hq : Q none T.heap locs) : Go p e s below R Q T (mkF m pc Ls []) := by
  obtain ⟨fs, hr, hrun, hended, hW, hsame⟩ := X.leave (v := none) (fun _ => rfl) hlk
  exact ⟨_, _, X.returnOut hx hret hd hr, hrun, hended, _, _, rfl, hq, ⟨_, rfl⟩, hW, hsame.mono hc hs⟩
/-- a body's contract: handed as', over the heap h, it returns and Q holds -/
def Ok (l : Launch) (Z : State) (y : MethodName) (bytes : ByteArray) (maxL : Nat) (ret : Option FieldType) (rm : Room) (as' : Array Value) (h : Heap) (Q : Option Value → Heap → List Loc → Prop) : Prop :=
  ∀ ws : List Jvm.Cond, MetFree l y (head1 (Jvm.Cond.code y bytes maxL ret :: ws) rm) (fun a U => a = as' ∧ Z.Warmed39 U.vm ∧ U.heap = h) (fun _ _ _ _ _ => True) (fun _ U o U' => ∃ v L, o = .returned v ∧ Q v U'.heap L ∧ FrameEnd U o U' L rm.cells rm.slots)
theorem Ok.mk {y : MethodName} {bytes : ByteArray} {maxL : Nat} {ret : Option FieldType} {rm : Room} {as' : Array Value} (hn : plainFor y = true)
    (k : ∀ p e s m below meth c s₁, p.tables.exec = Jvm.exec → c.code = bytes → c.maxLocals = maxL → s.vm.findClass y.cls = some m.cls → meth.name = y.name → meth.sig.returnType = ret → meth.locks = false → Z.Warmed39 s.vm → s₁.heap = h → Stand p l e rm s m as' below meth c s₁ [] 0 0 → Go p e s below rm Q s₁ (entryFrame m as' maxL)) :
    Ok l Z y bytes maxL ret rm as' h Q := by
  intro ws
  refine MetFree.of_bodySF hn hisR ?_
  intro p e s m args below meth c s₁ Bd hml0 hP hK
  obtain ⟨rfl, hZ, hh⟩ := hP
  exact k p e s m below meth c s₁ Bd.exec Bd.bytes hml0 (findClass_of_methodNamed Bd.named) (name_of_methodNamed Bd.named Bd.method).1 Bd.returns Bd.notSynchronized hZ (by rw [← hh, Bd.state]; rfl) (Stand.of_body Bd)
theorem callSt (X : Stand p l e R s m args below meth c T locs cells slots) (hx : p.tables.exec = Jvm.exec) (hZ : Z.Warmed39 s.vm) {own : String} {index : Nat} {y : MethodName} {bytes : ByteArray} {maxL : Nat} {ret : Option FieldType} {rm : Room} {as' : Array Value}
    (hown : s.vm.findClass own = some m.cls) (w1 : (Jvm.Cond.methodLink own index y).before a0 Z = true) (w2 : (Jvm.Cond.static y).before a0 Z = true) (w3 : (Jvm.Cond.initialized y.cls).before a0 Z = true) (w4 : (Jvm.Cond.code y bytes maxL ret).before a0 Z = true)
    (hy : y.cls ≠ "java/lang/invoke/MethodHandle" ∧ y.cls ≠ "java/lang/invoke/VarHandle") (hM : Ok l Z y bytes maxL ret rm as' h Q) (eT : T.heap = h) {W : Nat} (hf : rm.frames + 1 ≤ R.frames) (hl : W + (maxL + 11) + rm.locals ≤ R.locals) (hc : cells + rm.cells ≤ R.cells) (hs : slots + rm.slots ≤ R.slots)
    {g : JFrame} (hg : g.method = m) (hsize : g.locals.size = c.maxLocals) {argsL rest : List Value} (hlen : ∀ sig, parseMethodDescriptor y.desc = some sig → argsL.length = sig.parameters.length) (has : argsL.toArray = as')
    (hstack : g.stack = argsL.reverse ++ rest) (hW : 2 * g.monitorRoom + (rest.map fun v => v.category).sum ≤ W) (hd : decode c.code g.pc = .ok (.invokestatic index, 3)) :
    ∃ T' v L, Stand p l e R s m args below meth c T' (locs ++ L) (cells + rm.cells) (slots + rm.slots) ∧ Q v T'.heap L ∧ ∀ t, Steps p.tables e below (T'.setTop { g with pc := g.pc + 3, stack := v.toList ++ rest }) t → Steps p.tables e below (T.setTop g) t := by
  subst has
  obtain ⟨v, _, ⟨T1, L1, k1, n1⟩, -, X1, ⟨Lc, hQ, l1, y1, z1⟩, st⟩ := Jvm.LawKit.callS X hx (y := y) hown (mvT hZ w1) (mvT hZ w2) (mvT hZ w3) (mvT hZ w4) hy (backOf (W := W) (hM []) hZ w4 w3 hf hl) hg hsize hlen hstack hW hd (fun _ _ => ⟨rfl, eT, hc, hs⟩)
  dsimp only [Pt.U, Pt.locs, Pt.cells, Pt.slots] at X1 l1 y1 z1 st hQ
  subst l1 y1 z1
  exact ⟨T1, v, Lc, X1, hQ, st⟩
theorem callNew (X : Stand p l e R s m args below meth c T locs cells slots) (hx : p.tables.exec = Jvm.exec) (hZ : Z.Warmed39 s.vm) {own : String} {index : Nat} {y : MethodName} {bytes : ByteArray} {maxL : Nat} {rm : Room} {as' : Array Value} (hy1 : y.name = "<init>")
    (hown : s.vm.findClass own = some m.cls) (w1 : (Jvm.Cond.methodLink own index y).before a0 Z = true) (w2 : (Jvm.Cond.instanceMethod y).before a0 Z = true) (w3 : (Jvm.Cond.initialized y.cls).before a0 Z = true) (w4 : (Jvm.Cond.code y bytes maxL none).before a0 Z = true)
    (hy : y.cls ≠ "java/lang/invoke/MethodHandle" ∧ y.cls ≠ "java/lang/invoke/VarHandle") (hM : Ok l Z y bytes maxL none rm as' h Q) (eT : T.heap = h) {W : Nat} (hf : rm.frames + 1 ≤ R.frames) (hl : W + (maxL + 11) + rm.locals ≤ R.locals) (hc : cells + rm.cells ≤ R.cells) (hs : slots + rm.slots ≤ R.slots)
    {g : JFrame} (hg : g.method = m) (hsize : g.locals.size = c.maxLocals) {a : Addr} {argsL rest : List Value} (hlen : ∀ sig, parseMethodDescriptor y.desc = some sig → argsL.length = sig.parameters.length) (has : (.ref a :: argsL).toArray = as')
    (hstack : g.stack = argsL.reverse ++ .ref a :: rest) (hW : 2 * g.monitorRoom + (rest.map fun v => v.category).sum ≤ W) (hd : decode c.code g.pc = .ok (.invokespecial index, 3)) :
    ∃ T' v L, Stand p l e R s m args below meth c T' (locs ++ L) (cells + rm.cells) (slots + rm.slots) ∧ Q v T'.heap L ∧ ∀ t, Steps p.tables e below (T'.setTop { g with pc := g.pc + 3, stack := v.toList ++ rest }) t → Steps p.tables e below (T.setTop g) t := by
  subst has
  obtain ⟨v, _, ⟨T1, L1, k1, n1⟩, -, X1, ⟨Lc, hQ, l1, y1, z1⟩, st⟩ := X.specialBack hx (y := y) hy1 hown (mvT hZ w1) (mvT hZ w2) (mvT hZ w4) hy (backOf (W := W) (hM []) hZ w4 w3 hf hl) hg hsize (Steps.refl _) (a := a) hlen hstack hW hd (fun _ _ => ⟨rfl, eT, hc, hs⟩)
  dsimp only [Pt.U, Pt.locs, Pt.cells, Pt.slots] at X1 l1 y1 z1 st hQ
  subst l1 y1 z1
  exact ⟨T1, v, Lc, X1, hQ, fun t k => st.trans k⟩
theorem callVi (X : Stand p l e R s m args below meth c T locs cells slots) (hx : p.tables.exec = Jvm.exec) (hZ : Z.Warmed39 s.vm) {own C : String} {index : Nat} {y z : MethodName} {bytes : ByteArray} {maxL : Nat} {ret : Option FieldType} {rm : Room} {as' : Array Value}
    (hown : s.vm.findClass own = some m.cls) (w1 : (Jvm.Cond.methodLink own index y).before a0 Z = true) (w2 : (Jvm.Cond.declares y).before a0 Z = true) (nf : NotFace s y) (w3 : (Jvm.Cond.selects C y z).before a0 Z = true) (w4 : (Jvm.Cond.instanceMethod z).before a0 Z = true) (w5 : (Jvm.Cond.code z bytes maxL ret).before a0 Z = true) (w6 : (Jvm.Cond.initialized z.cls).before a0 Z = true)
    (hy : y.cls ≠ "java/lang/invoke/MethodHandle" ∧ y.cls ≠ "java/lang/invoke/VarHandle") (hM : Ok l Z z bytes maxL ret rm as' h Q) (eT : T.heap = h) {W : Nat} (hf : rm.frames + 1 ≤ R.frames) (hl : W + (maxL + 11) + rm.locals ≤ R.locals) (hc : cells + rm.cells ≤ R.cells) (hs : slots + rm.slots ≤ R.slots)
    {a : Addr} (E : Exa Z h a C) {g : JFrame} (hg : g.method = m) (hsize : g.locals.size = c.maxLocals) {argsL rest : List Value} (hlen : ∀ sig, parseMethodDescriptor y.desc = some sig → argsL.length = sig.parameters.length) (has : (.ref a :: argsL).toArray = as')
    (hstack : g.stack = argsL.reverse ++ .ref a :: rest) (hW : 2 * g.monitorRoom + (rest.map fun v => v.category).sum ≤ W) (hd : decode c.code g.pc = .ok (.invokevirtual index, 3)) :
    ∃ T' v L, Stand p l e R s m args below meth c T' (locs ++ L) (cells + rm.cells) (slots + rm.slots) ∧ Q v T'.heap L ∧ ∀ t, Steps p.tables e below (T'.setTop { g with pc := g.pc + 3, stack := v.toList ++ rest }) t → Steps p.tables e below (T.setTop g) t := by
  subst has
  obtain ⟨cq, kq, qa, qb, qc⟩ := isOf hZ eT E
  obtain ⟨v, _, ⟨T1, L1, k1, n1⟩, -, X1, ⟨Lc, hQ, l1, y1, z1⟩, st⟩ := X.virtualBack hx (y := y) (z := z) hown (mvT hZ w1) (mvT hZ w2) nf (mvT hZ w3) (mvT hZ w4) hy (backOf (W := W) (hM []) hZ w5 w6 hf hl) qa qc hg hsize (Steps.refl _) hlen hstack hW hd (fun _ _ => ⟨rfl, eT, hc, hs⟩)
  dsimp only [Pt.U, Pt.locs, Pt.cells, Pt.slots] at X1 l1 y1 z1 st hQ
  subst l1 y1 z1
  exact ⟨T1, v, Lc, X1, hQ, fun t k => st.trans k⟩
/-- a new object at the address a: a fresh name for the heap's end -/
theorem newOb (X : Stand p l e R s m args below meth c T locs cells slots) (hx : p.tables.exec = Jvm.exec) (hZ : Z.Warmed39 s.vm) {own C : String} {index n : Nat} (hown : s.vm.findClass own = some m.cls) (w : (Jvm.Cond.classLink own index C).before a0 Z = true) (wi : (Jvm.Cond.instantiable C n).before a0 Z = true) (wz : (Jvm.Cond.initialized C).before a0 Z = true) (eT : T.heap = h)
    {g : JFrame} (hg : g.method = m) (hd : decode c.code g.pc = .ok (.new index, 3)) (hc : cells + 1 ≤ R.cells) (hl : slots + n ≤ R.slots) :
    ∃ T' h' a, a = h.size ∧ Stand p l e R s m args below meth c T' locs (cells + 1) (slots + n) ∧ T'.heap = h' ∧ Ext h h' ∧ Exa Z h' a C ∧ (∀ {O nm d : String} {ty : FieldType}, Laid Z a0 C O nm d → parseFieldDescriptor d = some ty → Fld Z h' a O nm d (defaultValue ty)) ∧
      ∀ t, Steps p.tables e below (T'.setTop { g with pc := g.pc + 3, stack := .ref a :: g.stack }) t → Steps p.tables e below (T.setTop g) t := by
  obtain ⟨T2, h2, X2, e2, E2, A2, D2, -, st2⟩ := newO X hx hZ hown w wi wz eT hg hd hc hl
  exact ⟨T2, h2, h.size, rfl, X2, e2, E2, A2, D2, st2⟩
theorem Old0.keep {ws : List Addr} (X : Ext Z.heap h) (K : Keep h h' ws) (q : ∀ x ∈ ws, Z.heap.size ≤ x) : Ext Z.heap h' := (Old.keep (n0 := Z.heap.size) ⟨rfl, X⟩ K q).2
theorem Old0.wr {a : Addr} {sl : Nat} {v : Value} (X : Ext Z.heap h) (W : Wr h h' a sl v) (q : Z.heap.size ≤ a) : Ext Z.heap h' := (Old.wr (n0 := Z.heap.size) ⟨rfl, X⟩ W q).2
theorem Old0.ext (X : Ext Z.heap h) (E : Ext h h') : Ext Z.heap h' := (Old.ext (n0 := Z.heap.size) ⟨rfl, X⟩ E).2
theorem ext_rfl : Ext h h := ⟨Nat.le_refl _, fun _ _ q => q⟩
theorem eqI_v {first : State} {o : Option Outcome} {idx : List Nat} {a : Term} {k : Int32} (q : (Jvm.Cond.eq a (.int k)).value args first o s idx = some true) : a.eval args first o idx s = some (.int k) := by
  cases ha : a.eval args first o idx s with
  | none => simp [Jvm.Cond.value, ha] at q
  | some x => cases x <;> simp [Jvm.Cond.value, ha, Term.eval] at q ⊢; exact q
theorem eqJ_v {first : State} {o : Option Outcome} {idx : List Nat} {a : Term} {k : Int64} (q : (Jvm.Cond.eq a (.long k)).value args first o s idx = some true) : a.eval args first o idx s = some (.long k) := by
  cases ha : a.eval args first o idx s with
  | none => simp [Jvm.Cond.value, ha] at q
  | some x => cases x <;> simp [Jvm.Cond.value, ha, Term.eval] at q ⊢; exact q
theorem eqR_v {first : State} {o : Option Outcome} {idx : List Nat} {a b : Term} {x : Addr} (hb : b.eval args first o idx s = some (.ref x)) (q : (Jvm.Cond.eq a b).value args first o s idx = some true) : a.eval args first o idx s = some (.ref x) := by
  cases ha : a.eval args first o idx s with
  | none => simp [Jvm.Cond.value, ha] at q
  | some x => cases x <;> simp [Jvm.Cond.value, ha, hb] at q ⊢; exact q
theorem callPr (X : Stand p l e R s m args below meth c T locs cells slots) (hx : p.tables.exec = Jvm.exec) (hZ : Z.Warmed39 s.vm) {own : String} {index : Nat} {y : MethodName} {bytes : ByteArray} {maxL : Nat} {ret : Option FieldType} {rm : Room} {as' : Array Value}
    (hown : s.vm.findClass own = some m.cls) (w1 : (Jvm.Cond.methodLink own index y).before a0 Z = true) (w2 : (Jvm.Cond.instanceMethod y).before a0 Z = true) (w3 : (Jvm.Cond.selects y.cls y y).before a0 Z = true) (w4 : (Jvm.Cond.privateMethod y).before a0 Z = true) (w5 : (Jvm.Cond.initialized y.cls).before a0 Z = true) (w6 : (Jvm.Cond.code y bytes maxL ret).before a0 Z = true)
    (hy : y.cls ≠ "java/lang/invoke/MethodHandle" ∧ y.cls ≠ "java/lang/invoke/VarHandle") (hM : Ok l Z y bytes maxL ret rm as' h Q) (eT : T.heap = h) {W : Nat} (hf : rm.frames + 1 ≤ R.frames) (hl : W + (maxL + 11) + rm.locals ≤ R.locals) (hc : cells + rm.cells ≤ R.cells) (hs : slots + rm.slots ≤ R.slots)
    {C : String} {a : Addr} (E : Exa Z h a C) {g : JFrame} (hg : g.method = m) (hsize : g.locals.size = c.maxLocals) {argsL rest : List Value} (hlen : ∀ sig, parseMethodDescriptor y.desc = some sig → argsL.length = sig.parameters.length) (has : (.ref a :: argsL).toArray = as')
    (hstack : g.stack = argsL.reverse ++ .ref a :: rest) (hW : 2 * g.monitorRoom + (rest.map fun v => v.category).sum ≤ W) (hd : decode c.code g.pc = .ok (.invokevirtual index, 3)) :
    ∃ T' v L, Stand p l e R s m args below meth c T' (locs ++ L) (cells + rm.cells) (slots + rm.slots) ∧ Q v T'.heap L ∧ ∀ t, Steps p.tables e below (T'.setTop { g with pc := g.pc + 3, stack := v.toList ++ rest }) t → Steps p.tables e below (T.setTop g) t := by
  subst has
  obtain ⟨cq, q1, q2⟩ := E.cell
  obtain ⟨v, _, ⟨T1, L1, k1, n1⟩, -, X1, ⟨Lc, hQ, l1, y1, z1⟩, st⟩ := X.privateBack hx (y := y) hown (mvT hZ w1) (mvT hZ w2) (mvT hZ w3) (Cond.privateMethod_at (mvP hZ w4 (args := #[]))) (mvT hZ w6) hy (backOf (W := W) (hM []) hZ w6 w5 hf hl) hg hsize (Steps.refl _) (a := a) (by rw [eT]; exact q1) q2 hlen hstack hW hd (fun _ _ => ⟨rfl, eT, hc, hs⟩)
  dsimp only [Pt.U, Pt.locs, Pt.cells, Pt.slots] at X1 l1 y1 z1 st hQ
  subst l1 y1 z1
  exact ⟨T1, v, Lc, X1, hQ, fun t k => st.trans k⟩
theorem callIf (X : Stand p l e R s m args below meth c T locs cells slots) (hx : p.tables.exec = Jvm.exec) (hZ : Z.Warmed39 s.vm) {own C : String} {index count : Nat} {xi y : MethodName} {bytes : ByteArray} {maxL : Nat} {ret : Option FieldType} {rm : Room} {as' : Array Value}
    (hown : s.vm.findClass own = some m.cls) (w1 : (Jvm.Cond.methodLink own index xi).before a0 Z = true) (w2 : (Jvm.Cond.declares xi).before a0 Z = true) (w3 : (Jvm.Cond.interfaceMethod xi.cls xi.cls xi.name xi.desc).before args s = true) (w4 : (Jvm.Cond.selects C xi y).before a0 Z = true) (w5 : (Jvm.Cond.instanceMethod y).before a0 Z = true) (w6 : (Jvm.Cond.publicMethod y).before a0 Z = true) (w7 : (Jvm.Cond.unhidden C xi.name xi.desc).before a0 Z = true) (w8 : (Jvm.Cond.castable C xi.cls).before a0 Z = true) (w9 : (Jvm.Cond.code y bytes maxL ret).before a0 Z = true) (w10 : (Jvm.Cond.initialized y.cls).before a0 Z = true)
    (hy : xi.cls ≠ "java/lang/invoke/MethodHandle" ∧ xi.cls ≠ "java/lang/invoke/VarHandle") (hM : Ok l Z y bytes maxL ret rm as' h Q) (eT : T.heap = h) {W : Nat} (hf : rm.frames + 1 ≤ R.frames) (hl : W + (maxL + 11) + rm.locals ≤ R.locals) (hc : cells + rm.cells ≤ R.cells) (hs : slots + rm.slots ≤ R.slots)
    {a : Addr} (E : Exa Z h a C) {g : JFrame} (hg : g.method = m) (hsize : g.locals.size = c.maxLocals) {argsL rest : List Value} (hlen : ∀ sig, parseMethodDescriptor xi.desc = some sig → argsL.length = sig.parameters.length) (has : (.ref a :: argsL).toArray = as')
    (hstack : g.stack = argsL.reverse ++ .ref a :: rest) (hW : 2 * g.monitorRoom + (rest.map fun v => v.category).sum ≤ W) (hd : decode c.code g.pc = .ok (.invokeinterface index count, 5)) :
    ∃ T' v L, Stand p l e R s m args below meth c T' (locs ++ L) (cells + rm.cells) (slots + rm.slots) ∧ Q v T'.heap L ∧ ∀ t, Steps p.tables e below (T'.setTop { g with pc := g.pc + 5, stack := v.toList ++ rest }) t → Steps p.tables e below (T.setTop g) t := by
  subst has
  obtain ⟨cq, kq, qa, qb, qc⟩ := isOf hZ eT E
  obtain ⟨v, _, ⟨T1, L1, k1, n1⟩, -, X1, ⟨Lc, hQ, l1, y1, z1⟩, st⟩ := X.interfaceBack hx (xi := xi) (y := y) hown (mvT hZ w1) (mvT hZ w2) w3 (mvT hZ w4) (mvT hZ w5) (mvT hZ w6) (mvT hZ w7) (mvT hZ w8) hy (backOf (W := W) (hM []) hZ w9 w10 hf hl) qa qb qc hg hsize (Steps.refl _) hlen hstack hW hd (fun _ _ => ⟨rfl, eT, hc, hs⟩)
  dsimp only [Pt.U, Pt.locs, Pt.cells, Pt.slots] at X1 l1 y1 z1 st hQ
  subst l1 y1 z1
  exact ⟨T1, v, Lc, X1, hQ, fun t k => st.trans k⟩
theorem newAr (X : Stand p l e R s m args below meth c T locs cells slots) (hx : p.tables.exec = Jvm.exec) (hZ : Z.Warmed39 s.vm) {aty : ArrayType} (w : (Jvm.Cond.arrayClass (newarray.typeOf aty)).before a0 Z = true) (eT : T.heap = h) {g : JFrame} (hg : g.method = m) (hd : decode c.code g.pc = .ok (.newarray aty, 2)) {n : Int32} {rest : List Value} (hs : g.stack = .int n :: rest)
    (hn : ¬ n < 0) {cap : Nat} (hcap : n.toNatClampNeg ≤ cap) (hb : cap * 8 ≤ 536870912) (hc : cells + 1 ≤ R.cells) (hl : slots + cap ≤ R.slots) {ad : String} (had : "[" ++ (newarray.typeOf aty).toString = ad) :
    ∃ T' h' k a, a = h.size ∧ Stand p l e R s m args below meth c T' locs (cells + 1) (slots + cap) ∧ T'.heap = h' ∧ Ext h h' ∧ Arv Z h' a k (newarray.typeOf aty) n [] (defaultValue (newarray.typeOf aty)) ∧ Exa Z h' a ad ∧
      ∀ t, Steps p.tables e below (T'.setTop { g with pc := g.pc + 2, stack := .ref a :: rest }) t → Steps p.tables e below (T.setTop g) t := by
  obtain ⟨T2, h2, k, X2, e2, E2, A2, B2, st2⟩ := newPE X hx hZ w eT hg hd hs hn hcap hb hc hl had
  exact ⟨T2, h2, k, h.size, rfl, X2, e2, E2, Arv.new A2 hn, B2, st2⟩
theorem newRr (X : Stand p l e R s m args below meth c T locs cells slots) (hx : p.tables.exec = Jvm.exec) (hZ : Z.Warmed39 s.vm) {own C : String} {index : Nat} (hown : s.vm.findClass own = some m.cls) (w1 : (Jvm.Cond.classLink own index C).before a0 Z = true) (w2 : (Jvm.Cond.arrayOver (.object C)).before a0 Z = true)
    (eT : T.heap = h) {g : JFrame} (hg : g.method = m) (hd : decode c.code g.pc = .ok (.anewarray index, 3)) {n : Int32} {rest : List Value} (hs : g.stack = .int n :: rest) (hn : ¬ n < 0) {cap : Nat} (hcap : n.toNatClampNeg ≤ cap) (hb : cap * 8 ≤ 536870912) (hc : cells + 1 ≤ R.cells) (hl : slots + cap ≤ R.slots) {ad : String} (had : "[" ++ (FieldType.object C).toString = ad) :
    ∃ T' h' k a, a = h.size ∧ Stand p l e R s m args below meth c T' locs (cells + 1) (slots + cap) ∧ T'.heap = h' ∧ Ext h h' ∧ Arv Z h' a k (.object C) n [] .null ∧ Exa Z h' a ad ∧ Ovr Z k C ∧
      ∀ t, Steps p.tables e below (T'.setTop { g with pc := g.pc + 3, stack := .ref a :: rest }) t → Steps p.tables e below (T.setTop g) t := by
  obtain ⟨T2, h2, k, X2, e2, E2, A2, B2, O2, st2⟩ := newRE X hx hZ hown w1 w2 eT hg hd hs hn hcap hb hc hl had
  exact ⟨T2, h2, k, h.size, rfl, X2, e2, E2, Arv.new A2 hn, B2, O2, st2⟩
theorem own_len {t : Term} {a : Addr} {cl : Cell} {ty : FieldType} {k : Int32} (ev : t.eval args s none [] s = some (.ref a)) (A : Arr s s.heap a cl ty) (q : (Term.length t).eval args s none [] s = some (.int k)) : cl.slots.size < 2 ^ 31 ∧ cl.slots.size.toInt32 = k := by
  have ha := Arr.fin (U := s) (Vm.Alike.refl _) A
  simp only [Term.eval, ev] at q
  simp at q
  rw [ha] at q
  simp only [Option.bind_some] at q
  split at q
  · rename_i hlt
    simp only [Option.some.injEq, Value.int.injEq] at q
    exact ⟨hlt, q⟩
  · cases q
theorem own_el {t : Term} {a : Addr} {cl : Cell} {ty : FieldType} {j : Int32} {v : Value} (ev : t.eval args s none [] s = some (.ref a)) (A : Arr s s.heap a cl ty) (q : (Term.elem t (.int j)).eval args s none [] s = some v) : cl.slots[j.toNatClampNeg]? = some v :=
  (elem_in q ev rfl A.1).2
theorem cloneV (X : Stand p l e R s m args below meth c T locs cells slots) (hx : p.tables.exec = Jvm.exec) (hZ : Z.Warmed39 s.vm) {own ad : String} {index : Nat} (hown : s.vm.findClass own = some m.cls)
    (w1 : (Jvm.Cond.methodLink own index ⟨ad, "clone", "()Ljava/lang/Object;"⟩).before a0 Z = true) (w2 : (Jvm.Cond.sameMethod ad "java/lang/Object" "clone" "()Ljava/lang/Object;").before a0 Z = true) (w3 : (Jvm.Cond.native ⟨"java/lang/Object", "clone", "()Ljava/lang/Object;"⟩).before a0 Z = true)
    (w4 : (Jvm.Cond.instanceMethod ⟨"java/lang/Object", "clone", "()Ljava/lang/Object;"⟩).before a0 Z = true) (w5 : (Jvm.Cond.selects ad ⟨ad, "clone", "()Ljava/lang/Object;"⟩ ⟨"java/lang/Object", "clone", "()Ljava/lang/Object;"⟩).before a0 Z = true) (w6 : (Jvm.Cond.castable ad "java/lang/Cloneable").before a0 Z = true)
    (eT : T.heap = h) {b : Addr} {k : ClassId} {ty : FieldType} {z : Int32} {vs : List Value} {dv : Value} (F : Arv Z h b k ty z vs dv) (E : Exa Z h b ad) {g : JFrame} (hg : g.method = m) (hsize : g.locals.size = c.maxLocals) {rest : List Value} (hst : g.stack = .ref b :: rest) (hd : decode c.code g.pc = .ok (.invokevirtual index, 3))
    (hf : 1 ≤ R.frames) {W cap : Nat} (hW : 2 * g.monitorRoom + (rest.map fun v => v.category).sum ≤ W) (hl : W + 14 ≤ R.locals) (hcap : z.toNatClampNeg ≤ cap) (hc : cells + 1 ≤ R.cells) (hsl : slots + cap ≤ R.slots) :
    ∃ T' h' a, a = h.size ∧ Stand p l e R s m args below meth c T' locs (cells + 1) (slots + cap) ∧ T'.heap = h' ∧ Ext h h' ∧ Arv Z h' a k ty z vs dv ∧ Exa Z h' a ad ∧
      ∀ t, Steps p.tables e below (T'.setTop { g with pc := g.pc + 3, stack := .ref a :: rest }) t → Steps p.tables e below (T.setTop g) t := by
  obtain ⟨T2, h2, X2, e2, E2, A2, B2, st2⟩ := cloneH X hx hZ hown w1 w2 w3 w4 w5 w6 eT F.arh E hg hsize hst hd hf hW hl hcap hc hsl
  exact ⟨T2, h2, h.size, rfl, X2, e2, E2, A2, B2, st2⟩
end OwnKit
def own_pick (s_STRING s_LONG s_INT s_SHORT s_DOUBLE s_FLOAT s_BOOLEAN s_CHAR s_LOCAL_DATE s_INSTANT : Addr) (i : Int32) : Addr := if i = 0 then s_STRING else if i = 1 then s_LONG else if i = 2 then s_INT else if i = 3 then s_SHORT else if i = 4 then s_DOUBLE else if i = 5 then s_FLOAT else if i = 6 then s_BOOLEAN else if i = 7 then s_CHAR else if i = 8 then s_LOCAL_DATE else s_INSTANT
def own_whole (s_LONG s_INT s_SHORT a : Addr) : Int32 := if a = s_LONG then 1 else if a = s_INT then 1 else if a = s_SHORT then 1 else 0
def own_exp (i : Int32) : Int32 := if i = 1 then 1 else if i = 2 then 1 else if i = 3 then 1 else 0
theorem d_method_2_code_0 : decode method_2_code 0 = .ok (.iload_n 0, 1) := by decide +kernel
theorem d_method_2_code_1 : decode method_2_code 1 = .ok (.ifCond .ne 7, 3) := by decide +kernel
theorem d_method_2_code_4 : decode method_2_code 4 = .ok (.getstatic 7, 3) := by decide +kernel
theorem d_method_2_code_7 : decode method_2_code 7 = .ok (.areturn, 1) := by decide +kernel
theorem d_method_2_code_8 : decode method_2_code 8 = .ok (.iload_n 0, 1) := by decide +kernel
theorem d_method_2_code_9 : decode method_2_code 9 = .ok (.iconst 1, 1) := by decide +kernel
theorem d_method_2_code_10 : decode method_2_code 10 = .ok (.if_icmp .ne 7, 3) := by decide +kernel
theorem d_method_2_code_13 : decode method_2_code 13 = .ok (.getstatic 13, 3) := by decide +kernel
theorem d_method_2_code_16 : decode method_2_code 16 = .ok (.areturn, 1) := by decide +kernel
theorem d_method_2_code_17 : decode method_2_code 17 = .ok (.iload_n 0, 1) := by decide +kernel
theorem d_method_2_code_18 : decode method_2_code 18 = .ok (.iconst 2, 1) := by decide +kernel
theorem d_method_2_code_19 : decode method_2_code 19 = .ok (.if_icmp .ne 7, 3) := by decide +kernel
theorem d_method_2_code_22 : decode method_2_code 22 = .ok (.getstatic 16, 3) := by decide +kernel
theorem d_method_2_code_25 : decode method_2_code 25 = .ok (.areturn, 1) := by decide +kernel
theorem d_method_2_code_26 : decode method_2_code 26 = .ok (.iload_n 0, 1) := by decide +kernel
theorem d_method_2_code_27 : decode method_2_code 27 = .ok (.iconst 3, 1) := by decide +kernel
theorem d_method_2_code_28 : decode method_2_code 28 = .ok (.if_icmp .ne 7, 3) := by decide +kernel
theorem d_method_2_code_31 : decode method_2_code 31 = .ok (.getstatic 19, 3) := by decide +kernel
theorem d_method_2_code_34 : decode method_2_code 34 = .ok (.areturn, 1) := by decide +kernel
theorem d_method_2_code_35 : decode method_2_code 35 = .ok (.iload_n 0, 1) := by decide +kernel
theorem d_method_2_code_36 : decode method_2_code 36 = .ok (.iconst 4, 1) := by decide +kernel
theorem d_method_2_code_37 : decode method_2_code 37 = .ok (.if_icmp .ne 7, 3) := by decide +kernel
theorem d_method_2_code_40 : decode method_2_code 40 = .ok (.getstatic 22, 3) := by decide +kernel
theorem d_method_2_code_43 : decode method_2_code 43 = .ok (.areturn, 1) := by decide +kernel
theorem d_method_2_code_44 : decode method_2_code 44 = .ok (.iload_n 0, 1) := by decide +kernel
theorem d_method_2_code_45 : decode method_2_code 45 = .ok (.iconst 5, 1) := by decide +kernel
theorem d_method_2_code_46 : decode method_2_code 46 = .ok (.if_icmp .ne 7, 3) := by decide +kernel
theorem d_method_2_code_49 : decode method_2_code 49 = .ok (.getstatic 25, 3) := by decide +kernel
theorem d_method_2_code_52 : decode method_2_code 52 = .ok (.areturn, 1) := by decide +kernel
theorem d_method_2_code_53 : decode method_2_code 53 = .ok (.iload_n 0, 1) := by decide +kernel
theorem d_method_2_code_54 : decode method_2_code 54 = .ok (.bipush 6, 2) := by decide +kernel
theorem d_method_2_code_56 : decode method_2_code 56 = .ok (.if_icmp .ne 7, 3) := by decide +kernel
theorem d_method_2_code_59 : decode method_2_code 59 = .ok (.getstatic 28, 3) := by decide +kernel
theorem d_method_2_code_62 : decode method_2_code 62 = .ok (.areturn, 1) := by decide +kernel
theorem d_method_2_code_63 : decode method_2_code 63 = .ok (.iload_n 0, 1) := by decide +kernel
theorem d_method_2_code_64 : decode method_2_code 64 = .ok (.bipush 7, 2) := by decide +kernel
theorem d_method_2_code_66 : decode method_2_code 66 = .ok (.if_icmp .ne 7, 3) := by decide +kernel
theorem d_method_2_code_69 : decode method_2_code 69 = .ok (.getstatic 31, 3) := by decide +kernel
theorem d_method_2_code_72 : decode method_2_code 72 = .ok (.areturn, 1) := by decide +kernel
theorem d_method_2_code_73 : decode method_2_code 73 = .ok (.iload_n 0, 1) := by decide +kernel
theorem d_method_2_code_74 : decode method_2_code 74 = .ok (.bipush 8, 2) := by decide +kernel
theorem d_method_2_code_76 : decode method_2_code 76 = .ok (.if_icmp .ne 7, 3) := by decide +kernel
theorem d_method_2_code_79 : decode method_2_code 79 = .ok (.getstatic 34, 3) := by decide +kernel
theorem d_method_2_code_82 : decode method_2_code 82 = .ok (.areturn, 1) := by decide +kernel
theorem d_method_2_code_83 : decode method_2_code 83 = .ok (.getstatic 37, 3) := by decide +kernel
theorem d_method_2_code_86 : decode method_2_code 86 = .ok (.areturn, 1) := by decide +kernel
theorem ef_rm_pick (m : MethodId) (p0 : Int32) : entryFrame m #[(.int p0)] 1 = mkF m 0 #[.val (.int p0)] [] := by first | (simp [entryFrame, mkF, argsToLocals, Value.category]; done) | rfl
theorem pn_com_example_cascade_mapper_cascademapper_model_ValueTypeWholeNumberPinLaw_pick__I_Lcom_example_cascade_mapper_cascademapper_model_ValueType_ : plainFor (⟨"com/example/cascade_mapper/cascademapper/model/ValueTypeWholeNumberPinLaw", "pick", "(I)Lcom/example/cascade_mapper/cascademapper/model/ValueType;"⟩ : MethodName) = true := by first | exact plainFor_of_name (by first | (simp [plainName, overriddenIn]; done) | decide +kernel) | decide +kernel
set_option maxRecDepth 65536 in
set_option maxHeartbeats 40000000 in
theorem rm_pick {l : Launch} {Z : State} {a0 : Array Value} (hw : ∀ d ∈ tables_1, d.before a0 Z = true) (s_STRING : Addr) (s_LONG : Addr) (s_INT : Addr) (s_SHORT : Addr) (s_DOUBLE : Addr) (s_CHAR : Addr) (s_LOCAL_DATE : Addr) (s_INSTANT : Addr) (s_FLOAT : Addr) (s_BOOLEAN : Addr) (S_STRING : Sta Z Z.heap "com/example/cascade_mapper/cascademapper/model/ValueType" "STRING" "Lcom/example/cascade_mapper/cascademapper/model/ValueType;" (.ref s_STRING)) (E_s_STRING : Exa Z Z.heap s_STRING "com/example/cascade_mapper/cascademapper/model/ValueType") (S_LONG : Sta Z Z.heap "com/example/cascade_mapper/cascademapper/model/ValueType" "LONG" "Lcom/example/cascade_mapper/cascademapper/model/ValueType;" (.ref s_LONG)) (E_s_LONG : Exa Z Z.heap s_LONG "com/example/cascade_mapper/cascademapper/model/ValueType") (S_INT : Sta Z Z.heap "com/example/cascade_mapper/cascademapper/model/ValueType" "INT" "Lcom/example/cascade_mapper/cascademapper/model/ValueType;" (.ref s_INT)) (E_s_INT : Exa Z Z.heap s_INT "com/example/cascade_mapper/cascademapper/model/ValueType") (S_SHORT : Sta Z Z.heap "com/example/cascade_mapper/cascademapper/model/ValueType" "SHORT" "Lcom/example/cascade_mapper/cascademapper/model/ValueType;" (.ref s_SHORT)) (E_s_SHORT : Exa Z Z.heap s_SHORT "com/example/cascade_mapper/cascademapper/model/ValueType") (S_DOUBLE : Sta Z Z.heap "com/example/cascade_mapper/cascademapper/model/ValueType" "DOUBLE" "Lcom/example/cascade_mapper/cascademapper/model/ValueType;" (.ref s_DOUBLE)) (E_s_DOUBLE : Exa Z Z.heap s_DOUBLE "com/example/cascade_mapper/cascademapper/model/ValueType") (S_CHAR : Sta Z Z.heap "com/example/cascade_mapper/cascademapper/model/ValueType" "CHAR" "Lcom/example/cascade_mapper/cascademapper/model/ValueType;" (.ref s_CHAR)) (E_s_CHAR : Exa Z Z.heap s_CHAR "com/example/cascade_mapper/cascademapper/model/ValueType") (S_LOCAL_DATE : Sta Z Z.heap "com/example/cascade_mapper/cascademapper/model/ValueType" "LOCAL_DATE" "Lcom/example/cascade_mapper/cascademapper/model/ValueType;" (.ref s_LOCAL_DATE)) (E_s_LOCAL_DATE : Exa Z Z.heap s_LOCAL_DATE "com/example/cascade_mapper/cascademapper/model/ValueType") (S_INSTANT : Sta Z Z.heap "com/example/cascade_mapper/cascademapper/model/ValueType" "INSTANT" "Lcom/example/cascade_mapper/cascademapper/model/ValueType;" (.ref s_INSTANT)) (E_s_INSTANT : Exa Z Z.heap s_INSTANT "com/example/cascade_mapper/cascademapper/model/ValueType") (S_FLOAT : Sta Z Z.heap "com/example/cascade_mapper/cascademapper/model/ValueType" "FLOAT" "Lcom/example/cascade_mapper/cascademapper/model/ValueType;" (.ref s_FLOAT)) (E_s_FLOAT : Exa Z Z.heap s_FLOAT "com/example/cascade_mapper/cascademapper/model/ValueType") (S_BOOLEAN : Sta Z Z.heap "com/example/cascade_mapper/cascademapper/model/ValueType" "BOOLEAN" "Lcom/example/cascade_mapper/cascademapper/model/ValueType;" (.ref s_BOOLEAN)) (E_s_BOOLEAN : Exa Z Z.heap s_BOOLEAN "com/example/cascade_mapper/cascademapper/model/ValueType") (ne_STRING_LONG : ¬ (s_STRING = s_LONG)) (ne_STRING_INT : ¬ (s_STRING = s_INT)) (ne_STRING_SHORT : ¬ (s_STRING = s_SHORT)) (ne_LONG_INT : ¬ (s_LONG = s_INT)) (ne_LONG_SHORT : ¬ (s_LONG = s_SHORT)) (ne_INT_LONG : ¬ (s_INT = s_LONG)) (ne_INT_SHORT : ¬ (s_INT = s_SHORT)) (ne_SHORT_LONG : ¬ (s_SHORT = s_LONG)) (ne_SHORT_INT : ¬ (s_SHORT = s_INT)) (ne_DOUBLE_LONG : ¬ (s_DOUBLE = s_LONG)) (ne_DOUBLE_INT : ¬ (s_DOUBLE = s_INT)) (ne_DOUBLE_SHORT : ¬ (s_DOUBLE = s_SHORT)) (ne_FLOAT_LONG : ¬ (s_FLOAT = s_LONG)) (ne_FLOAT_INT : ¬ (s_FLOAT = s_INT)) (ne_FLOAT_SHORT : ¬ (s_FLOAT = s_SHORT)) (ne_BOOLEAN_LONG : ¬ (s_BOOLEAN = s_LONG)) (ne_BOOLEAN_INT : ¬ (s_BOOLEAN = s_INT)) (ne_BOOLEAN_SHORT : ¬ (s_BOOLEAN = s_SHORT)) (ne_CHAR_LONG : ¬ (s_CHAR = s_LONG)) (ne_CHAR_INT : ¬ (s_CHAR = s_INT)) (ne_CHAR_SHORT : ¬ (s_CHAR = s_SHORT)) (ne_LOCAL_DATE_LONG : ¬ (s_LOCAL_DATE = s_LONG)) (ne_LOCAL_DATE_INT : ¬ (s_LOCAL_DATE = s_INT)) (ne_LOCAL_DATE_SHORT : ¬ (s_LOCAL_DATE = s_SHORT)) (ne_INSTANT_LONG : ¬ (s_INSTANT = s_LONG)) (ne_INSTANT_INT : ¬ (s_INSTANT = s_INT)) (ne_INSTANT_SHORT : ¬ (s_INSTANT = s_SHORT)) (p0 : Int32)  (h0 : Heap) (O0 : Ext Z.heap h0)  :
    Ok l Z (⟨"com/example/cascade_mapper/cascademapper/model/ValueTypeWholeNumberPinLaw", "pick", "(I)Lcom/example/cascade_mapper/cascademapper/model/ValueType;"⟩ : MethodName) method_2_code 1 (some (.object "com/example/cascade_mapper/cascademapper/model/ValueType")) ({ frames := 0, cells := 0, slots := 0, locals := 0 } : Room) #[(.int p0)] h0
      (fun v h L => v = some (.ref (own_pick s_STRING s_LONG s_INT s_SHORT s_DOUBLE s_FLOAT s_BOOLEAN s_CHAR s_LOCAL_DATE s_INSTANT p0)) ∧ (h = h0) ∧ (L = []) ∧ (Exa Z h (own_pick s_STRING s_LONG s_INT s_SHORT s_DOUBLE s_FLOAT s_BOOLEAN s_CHAR s_LOCAL_DATE s_INSTANT p0) "com/example/cascade_mapper/cascademapper/model/ValueType")) := by
  refine Ok.mk pn_com_example_cascade_mapper_cascademapper_model_ValueTypeWholeNumberPinLaw_pick__I_Lcom_example_cascade_mapper_cascademapper_model_ValueType_ ?_
  intro p e s m below meth c T0 hx hby hml hown hnm hret hlk hZ e0 X0
  refine Go.cast (ef_rm_pick m p0) ?_
  have N0 := Fr.nil Z.heap.size
  have K0 : Keep h0 h0 [] := Keep.refl _ _
  refine Go.of (T' := T0) (f' := (mkF m 1 #[.val (.int p0)] [(.int p0)])) (fun _ k => XS.iloadN X0.here hx rfl (hb hby d_method_2_code_0) rfl k) ?_
  by_cases hc1 : p0 = (0 : Int32)
  · skip
    refine Go.of (T' := T0) (f' := (mkF m 4 #[.val (.int p0)] [])) (fun _ k => XS.ifNo X0.here hx rfl (hb hby d_method_2_code_1) rfl ((if0 _ _).trans (teq hc1).2) k) ?_
    obtain ⟨T2, X2, e2, st2⟩ := getS2 X0 hx hZ hown (host := "") (Or.inl (hw _ (List.mem_of_getElem? (i := 5) rfl))) Via.refl e0 (Sta.ext O0 S_STRING) (g := (mkF m 4 #[.val (.int p0)] [])) rfl (hb hby d_method_2_code_4)
    refine Go.of (T' := T2) (f' := (mkF m 7 #[.val (.int p0)] [(.ref s_STRING)])) (fun _ k => st2 _ k) ?_
    exact Go.retA X2 hx hlk hret rfl rfl (hb hby d_method_2_code_7) (by decide) (by decide) (by rw [e2]; exact ⟨by rw [own_pick, if_pos hc1], rfl, by simp, by rw [own_pick, if_pos hc1]; exact Exa.ext O0 E_s_STRING⟩)
  · skip
    refine Go.of (T' := T0) (f' := (mkF m 8 #[.val (.int p0)] [])) (fun _ k => XS.ifYes X0.here hx rfl (pc0 := 1) (pc' := 8) rfl (hb hby d_method_2_code_1) rfl ((if0 _ _).trans (feq hc1).2) (by decide) (by decide) k) ?_
    refine Go.of (T' := T0) (f' := (mkF m 9 #[.val (.int p0)] [(.int p0)])) (fun _ k => XS.iloadN X0.here hx rfl (hb hby d_method_2_code_8) rfl k) ?_
    refine Go.of (T' := T0) (f' := (mkF m 10 #[.val (.int p0)] [(.int (1 : Int32)), (.int p0)])) (fun _ k => XS.iconst X0.here hx rfl (hb hby d_method_2_code_9) k) ?_
    by_cases hc3 : p0 = (1 : Int32)
    · skip
      refine Go.of (T' := T0) (f' := (mkF m 13 #[.val (.int p0)] [])) (fun _ k => XS.icmpNo X0.here hx rfl (hb hby d_method_2_code_10) rfl (teq hc3).2 k) ?_
      obtain ⟨T4, X4, e4, st4⟩ := getS2 X0 hx hZ hown (host := "") (Or.inl (hw _ (List.mem_of_getElem? (i := 23) rfl))) Via.refl e0 (Sta.ext O0 S_LONG) (g := (mkF m 13 #[.val (.int p0)] [])) rfl (hb hby d_method_2_code_13)
      refine Go.of (T' := T4) (f' := (mkF m 16 #[.val (.int p0)] [(.ref s_LONG)])) (fun _ k => st4 _ k) ?_
      exact Go.retA X4 hx hlk hret rfl rfl (hb hby d_method_2_code_16) (by decide) (by decide) (by rw [e4]; exact ⟨by rw [own_pick, if_neg hc1, if_pos hc3], rfl, by simp, by rw [own_pick, if_neg hc1, if_pos hc3]; exact Exa.ext O0 E_s_LONG⟩)
    · skip
      refine Go.of (T' := T0) (f' := (mkF m 17 #[.val (.int p0)] [])) (fun _ k => XS.icmpYes X0.here hx rfl (pc0 := 10) (pc' := 17) rfl (hb hby d_method_2_code_10) rfl (feq hc3).2 (by decide) (by decide) k) ?_
      refine Go.of (T' := T0) (f' := (mkF m 18 #[.val (.int p0)] [(.int p0)])) (fun _ k => XS.iloadN X0.here hx rfl (hb hby d_method_2_code_17) rfl k) ?_
      refine Go.of (T' := T0) (f' := (mkF m 19 #[.val (.int p0)] [(.int (2 : Int32)), (.int p0)])) (fun _ k => XS.iconst X0.here hx rfl (hb hby d_method_2_code_18) k) ?_
      by_cases hc5 : p0 = (2 : Int32)
      · skip
        refine Go.of (T' := T0) (f' := (mkF m 22 #[.val (.int p0)] [])) (fun _ k => XS.icmpNo X0.here hx rfl (hb hby d_method_2_code_19) rfl (teq hc5).2 k) ?_
        obtain ⟨T6, X6, e6, st6⟩ := getS2 X0 hx hZ hown (host := "") (Or.inl (hw _ (List.mem_of_getElem? (i := 28) rfl))) Via.refl e0 (Sta.ext O0 S_INT) (g := (mkF m 22 #[.val (.int p0)] [])) rfl (hb hby d_method_2_code_22)
        refine Go.of (T' := T6) (f' := (mkF m 25 #[.val (.int p0)] [(.ref s_INT)])) (fun _ k => st6 _ k) ?_
        exact Go.retA X6 hx hlk hret rfl rfl (hb hby d_method_2_code_25) (by decide) (by decide) (by rw [e6]; exact ⟨by rw [own_pick, if_neg hc1, if_neg hc3, if_pos hc5], rfl, by simp, by rw [own_pick, if_neg hc1, if_neg hc3, if_pos hc5]; exact Exa.ext O0 E_s_INT⟩)
      · skip
        refine Go.of (T' := T0) (f' := (mkF m 26 #[.val (.int p0)] [])) (fun _ k => XS.icmpYes X0.here hx rfl (pc0 := 19) (pc' := 26) rfl (hb hby d_method_2_code_19) rfl (feq hc5).2 (by decide) (by decide) k) ?_
        refine Go.of (T' := T0) (f' := (mkF m 27 #[.val (.int p0)] [(.int p0)])) (fun _ k => XS.iloadN X0.here hx rfl (hb hby d_method_2_code_26) rfl k) ?_
        refine Go.of (T' := T0) (f' := (mkF m 28 #[.val (.int p0)] [(.int (3 : Int32)), (.int p0)])) (fun _ k => XS.iconst X0.here hx rfl (hb hby d_method_2_code_27) k) ?_
        by_cases hc7 : p0 = (3 : Int32)
        · skip
          refine Go.of (T' := T0) (f' := (mkF m 31 #[.val (.int p0)] [])) (fun _ k => XS.icmpNo X0.here hx rfl (hb hby d_method_2_code_28) rfl (teq hc7).2 k) ?_
          obtain ⟨T8, X8, e8, st8⟩ := getS2 X0 hx hZ hown (host := "") (Or.inl (hw _ (List.mem_of_getElem? (i := 22) rfl))) Via.refl e0 (Sta.ext O0 S_SHORT) (g := (mkF m 31 #[.val (.int p0)] [])) rfl (hb hby d_method_2_code_31)
          refine Go.of (T' := T8) (f' := (mkF m 34 #[.val (.int p0)] [(.ref s_SHORT)])) (fun _ k => st8 _ k) ?_
          exact Go.retA X8 hx hlk hret rfl rfl (hb hby d_method_2_code_34) (by decide) (by decide) (by rw [e8]; exact ⟨by rw [own_pick, if_neg hc1, if_neg hc3, if_neg hc5, if_pos hc7], rfl, by simp, by rw [own_pick, if_neg hc1, if_neg hc3, if_neg hc5, if_pos hc7]; exact Exa.ext O0 E_s_SHORT⟩)
        · skip
          refine Go.of (T' := T0) (f' := (mkF m 35 #[.val (.int p0)] [])) (fun _ k => XS.icmpYes X0.here hx rfl (pc0 := 28) (pc' := 35) rfl (hb hby d_method_2_code_28) rfl (feq hc7).2 (by decide) (by decide) k) ?_
          refine Go.of (T' := T0) (f' := (mkF m 36 #[.val (.int p0)] [(.int p0)])) (fun _ k => XS.iloadN X0.here hx rfl (hb hby d_method_2_code_35) rfl k) ?_
          refine Go.of (T' := T0) (f' := (mkF m 37 #[.val (.int p0)] [(.int (4 : Int32)), (.int p0)])) (fun _ k => XS.iconst X0.here hx rfl (hb hby d_method_2_code_36) k) ?_
          by_cases hc9 : p0 = (4 : Int32)
          · skip
            refine Go.of (T' := T0) (f' := (mkF m 40 #[.val (.int p0)] [])) (fun _ k => XS.icmpNo X0.here hx rfl (hb hby d_method_2_code_37) rfl (teq hc9).2 k) ?_
            obtain ⟨T10, X10, e10, st10⟩ := getS2 X0 hx hZ hown (host := "") (Or.inl (hw _ (List.mem_of_getElem? (i := 24) rfl))) Via.refl e0 (Sta.ext O0 S_DOUBLE) (g := (mkF m 40 #[.val (.int p0)] [])) rfl (hb hby d_method_2_code_40)
            refine Go.of (T' := T10) (f' := (mkF m 43 #[.val (.int p0)] [(.ref s_DOUBLE)])) (fun _ k => st10 _ k) ?_
            exact Go.retA X10 hx hlk hret rfl rfl (hb hby d_method_2_code_43) (by decide) (by decide) (by rw [e10]; exact ⟨by rw [own_pick, if_neg hc1, if_neg hc3, if_neg hc5, if_neg hc7, if_pos hc9], rfl, by simp, by rw [own_pick, if_neg hc1, if_neg hc3, if_neg hc5, if_neg hc7, if_pos hc9]; exact Exa.ext O0 E_s_DOUBLE⟩)
          · skip
            refine Go.of (T' := T0) (f' := (mkF m 44 #[.val (.int p0)] [])) (fun _ k => XS.icmpYes X0.here hx rfl (pc0 := 37) (pc' := 44) rfl (hb hby d_method_2_code_37) rfl (feq hc9).2 (by decide) (by decide) k) ?_
            refine Go.of (T' := T0) (f' := (mkF m 45 #[.val (.int p0)] [(.int p0)])) (fun _ k => XS.iloadN X0.here hx rfl (hb hby d_method_2_code_44) rfl k) ?_
            refine Go.of (T' := T0) (f' := (mkF m 46 #[.val (.int p0)] [(.int (5 : Int32)), (.int p0)])) (fun _ k => XS.iconst X0.here hx rfl (hb hby d_method_2_code_45) k) ?_
            by_cases hc11 : p0 = (5 : Int32)
            · skip
              refine Go.of (T' := T0) (f' := (mkF m 49 #[.val (.int p0)] [])) (fun _ k => XS.icmpNo X0.here hx rfl (hb hby d_method_2_code_46) rfl (teq hc11).2 k) ?_
              obtain ⟨T12, X12, e12, st12⟩ := getS2 X0 hx hZ hown (host := "") (Or.inl (hw _ (List.mem_of_getElem? (i := 33) rfl))) Via.refl e0 (Sta.ext O0 S_FLOAT) (g := (mkF m 49 #[.val (.int p0)] [])) rfl (hb hby d_method_2_code_49)
              refine Go.of (T' := T12) (f' := (mkF m 52 #[.val (.int p0)] [(.ref s_FLOAT)])) (fun _ k => st12 _ k) ?_
              exact Go.retA X12 hx hlk hret rfl rfl (hb hby d_method_2_code_52) (by decide) (by decide) (by rw [e12]; exact ⟨by rw [own_pick, if_neg hc1, if_neg hc3, if_neg hc5, if_neg hc7, if_neg hc9, if_pos hc11], rfl, by simp, by rw [own_pick, if_neg hc1, if_neg hc3, if_neg hc5, if_neg hc7, if_neg hc9, if_pos hc11]; exact Exa.ext O0 E_s_FLOAT⟩)
            · skip
              refine Go.of (T' := T0) (f' := (mkF m 53 #[.val (.int p0)] [])) (fun _ k => XS.icmpYes X0.here hx rfl (pc0 := 46) (pc' := 53) rfl (hb hby d_method_2_code_46) rfl (feq hc11).2 (by decide) (by decide) k) ?_
              refine Go.of (T' := T0) (f' := (mkF m 54 #[.val (.int p0)] [(.int p0)])) (fun _ k => XS.iloadN X0.here hx rfl (hb hby d_method_2_code_53) rfl k) ?_
              refine Go.of (T' := T0) (f' := (mkF m 56 #[.val (.int p0)] [(.int (6 : Int32)), (.int p0)])) (fun _ k => XS.bipush X0.here hx rfl (hb hby d_method_2_code_54) k) ?_
              by_cases hc13 : p0 = (6 : Int32)
              · skip
                refine Go.of (T' := T0) (f' := (mkF m 59 #[.val (.int p0)] [])) (fun _ k => XS.icmpNo X0.here hx rfl (hb hby d_method_2_code_56) rfl (teq hc13).2 k) ?_
                obtain ⟨T14, X14, e14, st14⟩ := getS2 X0 hx hZ hown (host := "") (Or.inl (hw _ (List.mem_of_getElem? (i := 35) rfl))) Via.refl e0 (Sta.ext O0 S_BOOLEAN) (g := (mkF m 59 #[.val (.int p0)] [])) rfl (hb hby d_method_2_code_59)
                refine Go.of (T' := T14) (f' := (mkF m 62 #[.val (.int p0)] [(.ref s_BOOLEAN)])) (fun _ k => st14 _ k) ?_
                exact Go.retA X14 hx hlk hret rfl rfl (hb hby d_method_2_code_62) (by decide) (by decide) (by rw [e14]; exact ⟨by rw [own_pick, if_neg hc1, if_neg hc3, if_neg hc5, if_neg hc7, if_neg hc9, if_neg hc11, if_pos hc13], rfl, by simp, by rw [own_pick, if_neg hc1, if_neg hc3, if_neg hc5, if_neg hc7, if_neg hc9, if_neg hc11, if_pos hc13]; exact Exa.ext O0 E_s_BOOLEAN⟩)
              · skip
                refine Go.of (T' := T0) (f' := (mkF m 63 #[.val (.int p0)] [])) (fun _ k => XS.icmpYes X0.here hx rfl (pc0 := 56) (pc' := 63) rfl (hb hby d_method_2_code_56) rfl (feq hc13).2 (by decide) (by decide) k) ?_
                refine Go.of (T' := T0) (f' := (mkF m 64 #[.val (.int p0)] [(.int p0)])) (fun _ k => XS.iloadN X0.here hx rfl (hb hby d_method_2_code_63) rfl k) ?_
                refine Go.of (T' := T0) (f' := (mkF m 66 #[.val (.int p0)] [(.int (7 : Int32)), (.int p0)])) (fun _ k => XS.bipush X0.here hx rfl (hb hby d_method_2_code_64) k) ?_
                by_cases hc15 : p0 = (7 : Int32)
                · skip
                  refine Go.of (T' := T0) (f' := (mkF m 69 #[.val (.int p0)] [])) (fun _ k => XS.icmpNo X0.here hx rfl (hb hby d_method_2_code_66) rfl (teq hc15).2 k) ?_
                  obtain ⟨T16, X16, e16, st16⟩ := getS2 X0 hx hZ hown (host := "") (Or.inl (hw _ (List.mem_of_getElem? (i := 26) rfl))) Via.refl e0 (Sta.ext O0 S_CHAR) (g := (mkF m 69 #[.val (.int p0)] [])) rfl (hb hby d_method_2_code_69)
                  refine Go.of (T' := T16) (f' := (mkF m 72 #[.val (.int p0)] [(.ref s_CHAR)])) (fun _ k => st16 _ k) ?_
                  exact Go.retA X16 hx hlk hret rfl rfl (hb hby d_method_2_code_72) (by decide) (by decide) (by rw [e16]; exact ⟨by rw [own_pick, if_neg hc1, if_neg hc3, if_neg hc5, if_neg hc7, if_neg hc9, if_neg hc11, if_neg hc13, if_pos hc15], rfl, by simp, by rw [own_pick, if_neg hc1, if_neg hc3, if_neg hc5, if_neg hc7, if_neg hc9, if_neg hc11, if_neg hc13, if_pos hc15]; exact Exa.ext O0 E_s_CHAR⟩)
                · skip
                  refine Go.of (T' := T0) (f' := (mkF m 73 #[.val (.int p0)] [])) (fun _ k => XS.icmpYes X0.here hx rfl (pc0 := 66) (pc' := 73) rfl (hb hby d_method_2_code_66) rfl (feq hc15).2 (by decide) (by decide) k) ?_
                  refine Go.of (T' := T0) (f' := (mkF m 74 #[.val (.int p0)] [(.int p0)])) (fun _ k => XS.iloadN X0.here hx rfl (hb hby d_method_2_code_73) rfl k) ?_
                  refine Go.of (T' := T0) (f' := (mkF m 76 #[.val (.int p0)] [(.int (8 : Int32)), (.int p0)])) (fun _ k => XS.bipush X0.here hx rfl (hb hby d_method_2_code_74) k) ?_
                  by_cases hc17 : p0 = (8 : Int32)
                  · skip
                    refine Go.of (T' := T0) (f' := (mkF m 79 #[.val (.int p0)] [])) (fun _ k => XS.icmpNo X0.here hx rfl (hb hby d_method_2_code_76) rfl (teq hc17).2 k) ?_
                    obtain ⟨T18, X18, e18, st18⟩ := getS2 X0 hx hZ hown (host := "") (Or.inl (hw _ (List.mem_of_getElem? (i := 29) rfl))) Via.refl e0 (Sta.ext O0 S_LOCAL_DATE) (g := (mkF m 79 #[.val (.int p0)] [])) rfl (hb hby d_method_2_code_79)
                    refine Go.of (T' := T18) (f' := (mkF m 82 #[.val (.int p0)] [(.ref s_LOCAL_DATE)])) (fun _ k => st18 _ k) ?_
                    exact Go.retA X18 hx hlk hret rfl rfl (hb hby d_method_2_code_82) (by decide) (by decide) (by rw [e18]; exact ⟨by rw [own_pick, if_neg hc1, if_neg hc3, if_neg hc5, if_neg hc7, if_neg hc9, if_neg hc11, if_neg hc13, if_neg hc15, if_pos hc17], rfl, by simp, by rw [own_pick, if_neg hc1, if_neg hc3, if_neg hc5, if_neg hc7, if_neg hc9, if_neg hc11, if_neg hc13, if_neg hc15, if_pos hc17]; exact Exa.ext O0 E_s_LOCAL_DATE⟩)
                  · skip
                    refine Go.of (T' := T0) (f' := (mkF m 83 #[.val (.int p0)] [])) (fun _ k => XS.icmpYes X0.here hx rfl (pc0 := 76) (pc' := 83) rfl (hb hby d_method_2_code_76) rfl (feq hc17).2 (by decide) (by decide) k) ?_
                    obtain ⟨T19, X19, e19, st19⟩ := getS2 X0 hx hZ hown (host := "") (Or.inl (hw _ (List.mem_of_getElem? (i := 31) rfl))) Via.refl e0 (Sta.ext O0 S_INSTANT) (g := (mkF m 83 #[.val (.int p0)] [])) rfl (hb hby d_method_2_code_83)
                    refine Go.of (T' := T19) (f' := (mkF m 86 #[.val (.int p0)] [(.ref s_INSTANT)])) (fun _ k => st19 _ k) ?_
                    exact Go.retA X19 hx hlk hret rfl rfl (hb hby d_method_2_code_86) (by decide) (by decide) (by rw [e19]; exact ⟨by rw [own_pick, if_neg hc1, if_neg hc3, if_neg hc5, if_neg hc7, if_neg hc9, if_neg hc11, if_neg hc13, if_neg hc15, if_neg hc17], rfl, by simp, by rw [own_pick, if_neg hc1, if_neg hc3, if_neg hc5, if_neg hc7, if_neg hc9, if_neg hc11, if_neg hc13, if_neg hc15, if_neg hc17]; exact Exa.ext O0 E_s_INSTANT⟩)
theorem d_prog_89_method_13_code_0 : decode prog_89_method_13_code 0 = .ok (.aload_n 0, 1) := by decide +kernel
theorem d_prog_89_method_13_code_1 : decode prog_89_method_13_code 1 = .ok (.getstatic 7, 3) := by decide +kernel
theorem d_prog_89_method_13_code_4 : decode prog_89_method_13_code 4 = .ok (.if_acmp .eq 17, 3) := by decide +kernel
theorem d_prog_89_method_13_code_21 : decode prog_89_method_13_code 21 = .ok (.iconst 1, 1) := by decide +kernel
theorem d_prog_89_method_13_code_22 : decode prog_89_method_13_code 22 = .ok (.goto 4, 3) := by decide +kernel
theorem d_prog_89_method_13_code_26 : decode prog_89_method_13_code 26 = .ok (.ireturn, 1) := by decide +kernel
theorem d_prog_89_method_13_code_7 : decode prog_89_method_13_code 7 = .ok (.aload_n 0, 1) := by decide +kernel
theorem d_prog_89_method_13_code_8 : decode prog_89_method_13_code 8 = .ok (.getstatic 10, 3) := by decide +kernel
theorem d_prog_89_method_13_code_11 : decode prog_89_method_13_code 11 = .ok (.if_acmp .eq 10, 3) := by decide +kernel
theorem d_prog_89_method_13_code_14 : decode prog_89_method_13_code 14 = .ok (.aload_n 0, 1) := by decide +kernel
theorem d_prog_89_method_13_code_15 : decode prog_89_method_13_code 15 = .ok (.getstatic 13, 3) := by decide +kernel
theorem d_prog_89_method_13_code_18 : decode prog_89_method_13_code 18 = .ok (.if_acmp .ne 7, 3) := by decide +kernel
theorem d_prog_89_method_13_code_25 : decode prog_89_method_13_code 25 = .ok (.iconst 0, 1) := by decide +kernel
theorem ef_rm_whole (m : MethodId) (ob : Addr) : entryFrame m #[(.ref ob)] 1 = mkF m 0 #[.val (.ref ob)] [] := by first | (simp [entryFrame, mkF, argsToLocals, Value.category]; done) | rfl
theorem pn_com_example_cascade_mapper_cascademapper_model_ValueType_wholeNumber___Z : plainFor (⟨"com/example/cascade_mapper/cascademapper/model/ValueType", "wholeNumber", "()Z"⟩ : MethodName) = true := by first | exact plainFor_of_name (by first | (simp [plainName, overriddenIn]; done) | decide +kernel) | decide +kernel
set_option maxRecDepth 65536 in
set_option maxHeartbeats 40000000 in
theorem rm_whole {l : Launch} {Z : State} {a0 : Array Value} (hw : ∀ d ∈ tables_1, d.before a0 Z = true) (s_STRING : Addr) (s_LONG : Addr) (s_INT : Addr) (s_SHORT : Addr) (s_DOUBLE : Addr) (s_CHAR : Addr) (s_LOCAL_DATE : Addr) (s_INSTANT : Addr) (s_FLOAT : Addr) (s_BOOLEAN : Addr) (S_STRING : Sta Z Z.heap "com/example/cascade_mapper/cascademapper/model/ValueType" "STRING" "Lcom/example/cascade_mapper/cascademapper/model/ValueType;" (.ref s_STRING)) (E_s_STRING : Exa Z Z.heap s_STRING "com/example/cascade_mapper/cascademapper/model/ValueType") (S_LONG : Sta Z Z.heap "com/example/cascade_mapper/cascademapper/model/ValueType" "LONG" "Lcom/example/cascade_mapper/cascademapper/model/ValueType;" (.ref s_LONG)) (E_s_LONG : Exa Z Z.heap s_LONG "com/example/cascade_mapper/cascademapper/model/ValueType") (S_INT : Sta Z Z.heap "com/example/cascade_mapper/cascademapper/model/ValueType" "INT" "Lcom/example/cascade_mapper/cascademapper/model/ValueType;" (.ref s_INT)) (E_s_INT : Exa Z Z.heap s_INT "com/example/cascade_mapper/cascademapper/model/ValueType") (S_SHORT : Sta Z Z.heap "com/example/cascade_mapper/cascademapper/model/ValueType" "SHORT" "Lcom/example/cascade_mapper/cascademapper/model/ValueType;" (.ref s_SHORT)) (E_s_SHORT : Exa Z Z.heap s_SHORT "com/example/cascade_mapper/cascademapper/model/ValueType") (S_DOUBLE : Sta Z Z.heap "com/example/cascade_mapper/cascademapper/model/ValueType" "DOUBLE" "Lcom/example/cascade_mapper/cascademapper/model/ValueType;" (.ref s_DOUBLE)) (E_s_DOUBLE : Exa Z Z.heap s_DOUBLE "com/example/cascade_mapper/cascademapper/model/ValueType") (S_CHAR : Sta Z Z.heap "com/example/cascade_mapper/cascademapper/model/ValueType" "CHAR" "Lcom/example/cascade_mapper/cascademapper/model/ValueType;" (.ref s_CHAR)) (E_s_CHAR : Exa Z Z.heap s_CHAR "com/example/cascade_mapper/cascademapper/model/ValueType") (S_LOCAL_DATE : Sta Z Z.heap "com/example/cascade_mapper/cascademapper/model/ValueType" "LOCAL_DATE" "Lcom/example/cascade_mapper/cascademapper/model/ValueType;" (.ref s_LOCAL_DATE)) (E_s_LOCAL_DATE : Exa Z Z.heap s_LOCAL_DATE "com/example/cascade_mapper/cascademapper/model/ValueType") (S_INSTANT : Sta Z Z.heap "com/example/cascade_mapper/cascademapper/model/ValueType" "INSTANT" "Lcom/example/cascade_mapper/cascademapper/model/ValueType;" (.ref s_INSTANT)) (E_s_INSTANT : Exa Z Z.heap s_INSTANT "com/example/cascade_mapper/cascademapper/model/ValueType") (S_FLOAT : Sta Z Z.heap "com/example/cascade_mapper/cascademapper/model/ValueType" "FLOAT" "Lcom/example/cascade_mapper/cascademapper/model/ValueType;" (.ref s_FLOAT)) (E_s_FLOAT : Exa Z Z.heap s_FLOAT "com/example/cascade_mapper/cascademapper/model/ValueType") (S_BOOLEAN : Sta Z Z.heap "com/example/cascade_mapper/cascademapper/model/ValueType" "BOOLEAN" "Lcom/example/cascade_mapper/cascademapper/model/ValueType;" (.ref s_BOOLEAN)) (E_s_BOOLEAN : Exa Z Z.heap s_BOOLEAN "com/example/cascade_mapper/cascademapper/model/ValueType") (ne_STRING_LONG : ¬ (s_STRING = s_LONG)) (ne_STRING_INT : ¬ (s_STRING = s_INT)) (ne_STRING_SHORT : ¬ (s_STRING = s_SHORT)) (ne_LONG_INT : ¬ (s_LONG = s_INT)) (ne_LONG_SHORT : ¬ (s_LONG = s_SHORT)) (ne_INT_LONG : ¬ (s_INT = s_LONG)) (ne_INT_SHORT : ¬ (s_INT = s_SHORT)) (ne_SHORT_LONG : ¬ (s_SHORT = s_LONG)) (ne_SHORT_INT : ¬ (s_SHORT = s_INT)) (ne_DOUBLE_LONG : ¬ (s_DOUBLE = s_LONG)) (ne_DOUBLE_INT : ¬ (s_DOUBLE = s_INT)) (ne_DOUBLE_SHORT : ¬ (s_DOUBLE = s_SHORT)) (ne_FLOAT_LONG : ¬ (s_FLOAT = s_LONG)) (ne_FLOAT_INT : ¬ (s_FLOAT = s_INT)) (ne_FLOAT_SHORT : ¬ (s_FLOAT = s_SHORT)) (ne_BOOLEAN_LONG : ¬ (s_BOOLEAN = s_LONG)) (ne_BOOLEAN_INT : ¬ (s_BOOLEAN = s_INT)) (ne_BOOLEAN_SHORT : ¬ (s_BOOLEAN = s_SHORT)) (ne_CHAR_LONG : ¬ (s_CHAR = s_LONG)) (ne_CHAR_INT : ¬ (s_CHAR = s_INT)) (ne_CHAR_SHORT : ¬ (s_CHAR = s_SHORT)) (ne_LOCAL_DATE_LONG : ¬ (s_LOCAL_DATE = s_LONG)) (ne_LOCAL_DATE_INT : ¬ (s_LOCAL_DATE = s_INT)) (ne_LOCAL_DATE_SHORT : ¬ (s_LOCAL_DATE = s_SHORT)) (ne_INSTANT_LONG : ¬ (s_INSTANT = s_LONG)) (ne_INSTANT_INT : ¬ (s_INSTANT = s_INT)) (ne_INSTANT_SHORT : ¬ (s_INSTANT = s_SHORT)) (ob : Addr)  (h0 : Heap) (O0 : Ext Z.heap h0)  :
    Ok l Z (⟨"com/example/cascade_mapper/cascademapper/model/ValueType", "wholeNumber", "()Z"⟩ : MethodName) prog_89_method_13_code 1 (some .boolean) ({ frames := 0, cells := 0, slots := 0, locals := 0 } : Room) #[(.ref ob)] h0
      (fun v h L => v = some (.int (own_whole s_LONG s_INT s_SHORT ob)) ∧ (h = h0) ∧ (L = [])) := by
  refine Ok.mk pn_com_example_cascade_mapper_cascademapper_model_ValueType_wholeNumber___Z ?_
  intro p e s m below meth c T0 hx hby hml hown hnm hret hlk hZ e0 X0
  refine Go.cast (ef_rm_whole m ob) ?_
  have N0 := Fr.nil Z.heap.size
  have K0 : Keep h0 h0 [] := Keep.refl _ _
  refine Go.of (T' := T0) (f' := (mkF m 1 #[.val (.ref ob)] [(.ref ob)])) (fun _ k => XS.aloadN X0.here hx rfl (hb hby d_prog_89_method_13_code_0) rfl rfl k) ?_
  obtain ⟨T20, X20, e20, st20⟩ := getS2 X0 hx hZ hown (host := "") (Or.inl (hw _ (List.mem_of_getElem? (i := 13) rfl))) Via.refl e0 (Sta.ext O0 S_LONG) (g := (mkF m 1 #[.val (.ref ob)] [(.ref ob)])) rfl (hb hby d_prog_89_method_13_code_1)
  refine Go.of (T' := T20) (f' := (mkF m 4 #[.val (.ref ob)] [(.ref s_LONG), (.ref ob)])) (fun _ k => st20 _ k) ?_
  by_cases hc21 : ob = s_LONG
  · skip
    refine Go.of (T' := T20) (f' := (mkF m 21 #[.val (.ref ob)] [])) (fun _ k => Jvm.RoadKit.acmp (g := (mkF m 4 #[.val (.ref ob)] [(.ref s_LONG), (.ref ob)])) X20 hx rfl rfl rfl (pc0 := 4) (pc' := 21) (same := true) rfl (hb hby d_prog_89_method_13_code_4) rfl (decide_eq_true (congrArg Value.ref hc21)) (by decide) (by decide) k) ?_
    refine Go.of (T' := T20) (f' := (mkF m 22 #[.val (.ref ob)] [(.int (1 : Int32))])) (fun _ k => XS.iconst X20.here hx rfl (hb hby d_prog_89_method_13_code_21) k) ?_
    refine Go.of (T' := T20) (f' := (mkF m 26 #[.val (.ref ob)] [(.int (1 : Int32))])) (fun _ k => XS.goto X20.here hx rfl (pc0 := 22) (pc' := 26) rfl (hb hby d_prog_89_method_13_code_22) (by decide) (by decide) k) ?_
    exact Go.retB X20 hx hlk hret (by simp) (hb hby d_prog_89_method_13_code_26) (by decide) (by decide) (z' := (1 : Int32)) rfl (by rw [e20]; exact ⟨by rw [own_whole, if_pos hc21], rfl, by simp⟩)
  · skip
    refine Go.of (T' := T20) (f' := (mkF m 7 #[.val (.ref ob)] [])) (fun _ k => Jvm.RoadKit.acmp (g := (mkF m 4 #[.val (.ref ob)] [(.ref s_LONG), (.ref ob)])) X20 hx rfl rfl rfl (pc0 := 4) (pc' := 7) (same := false) rfl (hb hby d_prog_89_method_13_code_4) rfl (decide_eq_false fun q => hc21 (Value.ref.inj q)) (by decide) (by decide) k) ?_
    refine Go.of (T' := T20) (f' := (mkF m 8 #[.val (.ref ob)] [(.ref ob)])) (fun _ k => XS.aloadN X20.here hx rfl (hb hby d_prog_89_method_13_code_7) rfl rfl k) ?_
    obtain ⟨T22, X22, e22, st22⟩ := getS2 X20 hx hZ hown (host := "") (Or.inl (hw _ (List.mem_of_getElem? (i := 15) rfl))) Via.refl e20 (Sta.ext O0 S_INT) (g := (mkF m 8 #[.val (.ref ob)] [(.ref ob)])) rfl (hb hby d_prog_89_method_13_code_8)
    refine Go.of (T' := T22) (f' := (mkF m 11 #[.val (.ref ob)] [(.ref s_INT), (.ref ob)])) (fun _ k => st22 _ k) ?_
    by_cases hc23 : ob = s_INT
    · skip
      refine Go.of (T' := T22) (f' := (mkF m 21 #[.val (.ref ob)] [])) (fun _ k => Jvm.RoadKit.acmp (g := (mkF m 11 #[.val (.ref ob)] [(.ref s_INT), (.ref ob)])) X22 hx rfl rfl rfl (pc0 := 11) (pc' := 21) (same := true) rfl (hb hby d_prog_89_method_13_code_11) rfl (decide_eq_true (congrArg Value.ref hc23)) (by decide) (by decide) k) ?_
      refine Go.of (T' := T22) (f' := (mkF m 22 #[.val (.ref ob)] [(.int (1 : Int32))])) (fun _ k => XS.iconst X22.here hx rfl (hb hby d_prog_89_method_13_code_21) k) ?_
      refine Go.of (T' := T22) (f' := (mkF m 26 #[.val (.ref ob)] [(.int (1 : Int32))])) (fun _ k => XS.goto X22.here hx rfl (pc0 := 22) (pc' := 26) rfl (hb hby d_prog_89_method_13_code_22) (by decide) (by decide) k) ?_
      exact Go.retB X22 hx hlk hret (by simp) (hb hby d_prog_89_method_13_code_26) (by decide) (by decide) (z' := (1 : Int32)) rfl (by rw [e22]; exact ⟨by rw [own_whole, if_neg hc21, if_pos hc23], rfl, by simp⟩)
    · skip
      refine Go.of (T' := T22) (f' := (mkF m 14 #[.val (.ref ob)] [])) (fun _ k => Jvm.RoadKit.acmp (g := (mkF m 11 #[.val (.ref ob)] [(.ref s_INT), (.ref ob)])) X22 hx rfl rfl rfl (pc0 := 11) (pc' := 14) (same := false) rfl (hb hby d_prog_89_method_13_code_11) rfl (decide_eq_false fun q => hc23 (Value.ref.inj q)) (by decide) (by decide) k) ?_
      refine Go.of (T' := T22) (f' := (mkF m 15 #[.val (.ref ob)] [(.ref ob)])) (fun _ k => XS.aloadN X22.here hx rfl (hb hby d_prog_89_method_13_code_14) rfl rfl k) ?_
      obtain ⟨T24, X24, e24, st24⟩ := getS2 X22 hx hZ hown (host := "") (Or.inl (hw _ (List.mem_of_getElem? (i := 17) rfl))) Via.refl e22 (Sta.ext O0 S_SHORT) (g := (mkF m 15 #[.val (.ref ob)] [(.ref ob)])) rfl (hb hby d_prog_89_method_13_code_15)
      refine Go.of (T' := T24) (f' := (mkF m 18 #[.val (.ref ob)] [(.ref s_SHORT), (.ref ob)])) (fun _ k => st24 _ k) ?_
      by_cases hc25 : ob = s_SHORT
      · skip
        refine Go.of (T' := T24) (f' := (mkF m 21 #[.val (.ref ob)] [])) (fun _ k => Jvm.RoadKit.acmp (g := (mkF m 18 #[.val (.ref ob)] [(.ref s_SHORT), (.ref ob)])) X24 hx rfl rfl rfl (pc0 := 18) (pc' := 21) (same := true) rfl (hb hby d_prog_89_method_13_code_18) rfl (decide_eq_true (congrArg Value.ref hc25)) (by decide) (by decide) k) ?_
        refine Go.of (T' := T24) (f' := (mkF m 22 #[.val (.ref ob)] [(.int (1 : Int32))])) (fun _ k => XS.iconst X24.here hx rfl (hb hby d_prog_89_method_13_code_21) k) ?_
        refine Go.of (T' := T24) (f' := (mkF m 26 #[.val (.ref ob)] [(.int (1 : Int32))])) (fun _ k => XS.goto X24.here hx rfl (pc0 := 22) (pc' := 26) rfl (hb hby d_prog_89_method_13_code_22) (by decide) (by decide) k) ?_
        exact Go.retB X24 hx hlk hret (by simp) (hb hby d_prog_89_method_13_code_26) (by decide) (by decide) (z' := (1 : Int32)) rfl (by rw [e24]; exact ⟨by rw [own_whole, if_neg hc21, if_neg hc23, if_pos hc25], rfl, by simp⟩)
      · skip
        refine Go.of (T' := T24) (f' := (mkF m 25 #[.val (.ref ob)] [])) (fun _ k => Jvm.RoadKit.acmp (g := (mkF m 18 #[.val (.ref ob)] [(.ref s_SHORT), (.ref ob)])) X24 hx rfl rfl rfl (pc0 := 18) (pc' := 25) (same := false) rfl (hb hby d_prog_89_method_13_code_18) rfl (decide_eq_false fun q => hc25 (Value.ref.inj q)) (by decide) (by decide) k) ?_
        refine Go.of (T' := T24) (f' := (mkF m 26 #[.val (.ref ob)] [(.int (0 : Int32))])) (fun _ k => XS.iconst X24.here hx rfl (hb hby d_prog_89_method_13_code_25) k) ?_
        exact Go.retB X24 hx hlk hret (by simp) (hb hby d_prog_89_method_13_code_26) (by decide) (by decide) (z' := (0 : Int32)) rfl (by rw [e24]; exact ⟨by rw [own_whole, if_neg hc21, if_neg hc23, if_neg hc25], rfl, by simp⟩)
theorem d_method_3_code_0 : decode method_3_code 0 = .ok (.iload_n 0, 1) := by decide +kernel
theorem d_method_3_code_1 : decode method_3_code 1 = .ok (.iconst 1, 1) := by decide +kernel
theorem d_method_3_code_2 : decode method_3_code 2 = .ok (.if_icmp .ne 5, 3) := by decide +kernel
theorem d_method_3_code_5 : decode method_3_code 5 = .ok (.iconst 1, 1) := by decide +kernel
theorem d_method_3_code_6 : decode method_3_code 6 = .ok (.ireturn, 1) := by decide +kernel
theorem d_method_3_code_7 : decode method_3_code 7 = .ok (.iload_n 0, 1) := by decide +kernel
theorem d_method_3_code_8 : decode method_3_code 8 = .ok (.iconst 2, 1) := by decide +kernel
theorem d_method_3_code_9 : decode method_3_code 9 = .ok (.if_icmp .ne 5, 3) := by decide +kernel
theorem d_method_3_code_12 : decode method_3_code 12 = .ok (.iconst 1, 1) := by decide +kernel
theorem d_method_3_code_13 : decode method_3_code 13 = .ok (.ireturn, 1) := by decide +kernel
theorem d_method_3_code_14 : decode method_3_code 14 = .ok (.iload_n 0, 1) := by decide +kernel
theorem d_method_3_code_15 : decode method_3_code 15 = .ok (.iconst 3, 1) := by decide +kernel
theorem d_method_3_code_16 : decode method_3_code 16 = .ok (.if_icmp .ne 5, 3) := by decide +kernel
theorem d_method_3_code_19 : decode method_3_code 19 = .ok (.iconst 1, 1) := by decide +kernel
theorem d_method_3_code_20 : decode method_3_code 20 = .ok (.ireturn, 1) := by decide +kernel
theorem d_method_3_code_21 : decode method_3_code 21 = .ok (.iconst 0, 1) := by decide +kernel
theorem d_method_3_code_22 : decode method_3_code 22 = .ok (.ireturn, 1) := by decide +kernel
theorem ef_rm_exp (m : MethodId) (p0 : Int32) : entryFrame m #[(.int p0)] 1 = mkF m 0 #[.val (.int p0)] [] := by first | (simp [entryFrame, mkF, argsToLocals, Value.category]; done) | rfl
theorem pn_com_example_cascade_mapper_cascademapper_model_ValueTypeWholeNumberPinLaw_expected__I_Z : plainFor (⟨"com/example/cascade_mapper/cascademapper/model/ValueTypeWholeNumberPinLaw", "expected", "(I)Z"⟩ : MethodName) = true := by first | exact plainFor_of_name (by first | (simp [plainName, overriddenIn]; done) | decide +kernel) | decide +kernel
set_option maxRecDepth 65536 in
set_option maxHeartbeats 40000000 in
theorem rm_exp {l : Launch} {Z : State} {a0 : Array Value} (hw : ∀ d ∈ tables_1, d.before a0 Z = true) (s_STRING : Addr) (s_LONG : Addr) (s_INT : Addr) (s_SHORT : Addr) (s_DOUBLE : Addr) (s_CHAR : Addr) (s_LOCAL_DATE : Addr) (s_INSTANT : Addr) (s_FLOAT : Addr) (s_BOOLEAN : Addr) (S_STRING : Sta Z Z.heap "com/example/cascade_mapper/cascademapper/model/ValueType" "STRING" "Lcom/example/cascade_mapper/cascademapper/model/ValueType;" (.ref s_STRING)) (E_s_STRING : Exa Z Z.heap s_STRING "com/example/cascade_mapper/cascademapper/model/ValueType") (S_LONG : Sta Z Z.heap "com/example/cascade_mapper/cascademapper/model/ValueType" "LONG" "Lcom/example/cascade_mapper/cascademapper/model/ValueType;" (.ref s_LONG)) (E_s_LONG : Exa Z Z.heap s_LONG "com/example/cascade_mapper/cascademapper/model/ValueType") (S_INT : Sta Z Z.heap "com/example/cascade_mapper/cascademapper/model/ValueType" "INT" "Lcom/example/cascade_mapper/cascademapper/model/ValueType;" (.ref s_INT)) (E_s_INT : Exa Z Z.heap s_INT "com/example/cascade_mapper/cascademapper/model/ValueType") (S_SHORT : Sta Z Z.heap "com/example/cascade_mapper/cascademapper/model/ValueType" "SHORT" "Lcom/example/cascade_mapper/cascademapper/model/ValueType;" (.ref s_SHORT)) (E_s_SHORT : Exa Z Z.heap s_SHORT "com/example/cascade_mapper/cascademapper/model/ValueType") (S_DOUBLE : Sta Z Z.heap "com/example/cascade_mapper/cascademapper/model/ValueType" "DOUBLE" "Lcom/example/cascade_mapper/cascademapper/model/ValueType;" (.ref s_DOUBLE)) (E_s_DOUBLE : Exa Z Z.heap s_DOUBLE "com/example/cascade_mapper/cascademapper/model/ValueType") (S_CHAR : Sta Z Z.heap "com/example/cascade_mapper/cascademapper/model/ValueType" "CHAR" "Lcom/example/cascade_mapper/cascademapper/model/ValueType;" (.ref s_CHAR)) (E_s_CHAR : Exa Z Z.heap s_CHAR "com/example/cascade_mapper/cascademapper/model/ValueType") (S_LOCAL_DATE : Sta Z Z.heap "com/example/cascade_mapper/cascademapper/model/ValueType" "LOCAL_DATE" "Lcom/example/cascade_mapper/cascademapper/model/ValueType;" (.ref s_LOCAL_DATE)) (E_s_LOCAL_DATE : Exa Z Z.heap s_LOCAL_DATE "com/example/cascade_mapper/cascademapper/model/ValueType") (S_INSTANT : Sta Z Z.heap "com/example/cascade_mapper/cascademapper/model/ValueType" "INSTANT" "Lcom/example/cascade_mapper/cascademapper/model/ValueType;" (.ref s_INSTANT)) (E_s_INSTANT : Exa Z Z.heap s_INSTANT "com/example/cascade_mapper/cascademapper/model/ValueType") (S_FLOAT : Sta Z Z.heap "com/example/cascade_mapper/cascademapper/model/ValueType" "FLOAT" "Lcom/example/cascade_mapper/cascademapper/model/ValueType;" (.ref s_FLOAT)) (E_s_FLOAT : Exa Z Z.heap s_FLOAT "com/example/cascade_mapper/cascademapper/model/ValueType") (S_BOOLEAN : Sta Z Z.heap "com/example/cascade_mapper/cascademapper/model/ValueType" "BOOLEAN" "Lcom/example/cascade_mapper/cascademapper/model/ValueType;" (.ref s_BOOLEAN)) (E_s_BOOLEAN : Exa Z Z.heap s_BOOLEAN "com/example/cascade_mapper/cascademapper/model/ValueType") (ne_STRING_LONG : ¬ (s_STRING = s_LONG)) (ne_STRING_INT : ¬ (s_STRING = s_INT)) (ne_STRING_SHORT : ¬ (s_STRING = s_SHORT)) (ne_LONG_INT : ¬ (s_LONG = s_INT)) (ne_LONG_SHORT : ¬ (s_LONG = s_SHORT)) (ne_INT_LONG : ¬ (s_INT = s_LONG)) (ne_INT_SHORT : ¬ (s_INT = s_SHORT)) (ne_SHORT_LONG : ¬ (s_SHORT = s_LONG)) (ne_SHORT_INT : ¬ (s_SHORT = s_INT)) (ne_DOUBLE_LONG : ¬ (s_DOUBLE = s_LONG)) (ne_DOUBLE_INT : ¬ (s_DOUBLE = s_INT)) (ne_DOUBLE_SHORT : ¬ (s_DOUBLE = s_SHORT)) (ne_FLOAT_LONG : ¬ (s_FLOAT = s_LONG)) (ne_FLOAT_INT : ¬ (s_FLOAT = s_INT)) (ne_FLOAT_SHORT : ¬ (s_FLOAT = s_SHORT)) (ne_BOOLEAN_LONG : ¬ (s_BOOLEAN = s_LONG)) (ne_BOOLEAN_INT : ¬ (s_BOOLEAN = s_INT)) (ne_BOOLEAN_SHORT : ¬ (s_BOOLEAN = s_SHORT)) (ne_CHAR_LONG : ¬ (s_CHAR = s_LONG)) (ne_CHAR_INT : ¬ (s_CHAR = s_INT)) (ne_CHAR_SHORT : ¬ (s_CHAR = s_SHORT)) (ne_LOCAL_DATE_LONG : ¬ (s_LOCAL_DATE = s_LONG)) (ne_LOCAL_DATE_INT : ¬ (s_LOCAL_DATE = s_INT)) (ne_LOCAL_DATE_SHORT : ¬ (s_LOCAL_DATE = s_SHORT)) (ne_INSTANT_LONG : ¬ (s_INSTANT = s_LONG)) (ne_INSTANT_INT : ¬ (s_INSTANT = s_INT)) (ne_INSTANT_SHORT : ¬ (s_INSTANT = s_SHORT)) (p0 : Int32)  (h0 : Heap) (O0 : Ext Z.heap h0)  :
    Ok l Z (⟨"com/example/cascade_mapper/cascademapper/model/ValueTypeWholeNumberPinLaw", "expected", "(I)Z"⟩ : MethodName) method_3_code 1 (some .boolean) ({ frames := 0, cells := 0, slots := 0, locals := 0 } : Room) #[(.int p0)] h0
      (fun v h L => v = some (.int (own_exp p0)) ∧ (h = h0) ∧ (L = [])) := by
  refine Ok.mk pn_com_example_cascade_mapper_cascademapper_model_ValueTypeWholeNumberPinLaw_expected__I_Z ?_
  intro p e s m below meth c T0 hx hby hml hown hnm hret hlk hZ e0 X0
  refine Go.cast (ef_rm_exp m p0) ?_
  have N0 := Fr.nil Z.heap.size
  have K0 : Keep h0 h0 [] := Keep.refl _ _
  refine Go.of (T' := T0) (f' := (mkF m 1 #[.val (.int p0)] [(.int p0)])) (fun _ k => XS.iloadN X0.here hx rfl (hb hby d_method_3_code_0) rfl k) ?_
  refine Go.of (T' := T0) (f' := (mkF m 2 #[.val (.int p0)] [(.int (1 : Int32)), (.int p0)])) (fun _ k => XS.iconst X0.here hx rfl (hb hby d_method_3_code_1) k) ?_
  by_cases hc26 : p0 = (1 : Int32)
  · skip
    refine Go.of (T' := T0) (f' := (mkF m 5 #[.val (.int p0)] [])) (fun _ k => XS.icmpNo X0.here hx rfl (hb hby d_method_3_code_2) rfl (teq hc26).2 k) ?_
    refine Go.of (T' := T0) (f' := (mkF m 6 #[.val (.int p0)] [(.int (1 : Int32))])) (fun _ k => XS.iconst X0.here hx rfl (hb hby d_method_3_code_5) k) ?_
    exact Go.retB X0 hx hlk hret (by simp) (hb hby d_method_3_code_6) (by decide) (by decide) (z' := (1 : Int32)) rfl (by rw [e0]; exact ⟨by rw [own_exp, if_pos hc26], rfl, by simp⟩)
  · skip
    refine Go.of (T' := T0) (f' := (mkF m 7 #[.val (.int p0)] [])) (fun _ k => XS.icmpYes X0.here hx rfl (pc0 := 2) (pc' := 7) rfl (hb hby d_method_3_code_2) rfl (feq hc26).2 (by decide) (by decide) k) ?_
    refine Go.of (T' := T0) (f' := (mkF m 8 #[.val (.int p0)] [(.int p0)])) (fun _ k => XS.iloadN X0.here hx rfl (hb hby d_method_3_code_7) rfl k) ?_
    refine Go.of (T' := T0) (f' := (mkF m 9 #[.val (.int p0)] [(.int (2 : Int32)), (.int p0)])) (fun _ k => XS.iconst X0.here hx rfl (hb hby d_method_3_code_8) k) ?_
    by_cases hc27 : p0 = (2 : Int32)
    · skip
      refine Go.of (T' := T0) (f' := (mkF m 12 #[.val (.int p0)] [])) (fun _ k => XS.icmpNo X0.here hx rfl (hb hby d_method_3_code_9) rfl (teq hc27).2 k) ?_
      refine Go.of (T' := T0) (f' := (mkF m 13 #[.val (.int p0)] [(.int (1 : Int32))])) (fun _ k => XS.iconst X0.here hx rfl (hb hby d_method_3_code_12) k) ?_
      exact Go.retB X0 hx hlk hret (by simp) (hb hby d_method_3_code_13) (by decide) (by decide) (z' := (1 : Int32)) rfl (by rw [e0]; exact ⟨by rw [own_exp, if_neg hc26, if_pos hc27], rfl, by simp⟩)
    · skip
      refine Go.of (T' := T0) (f' := (mkF m 14 #[.val (.int p0)] [])) (fun _ k => XS.icmpYes X0.here hx rfl (pc0 := 9) (pc' := 14) rfl (hb hby d_method_3_code_9) rfl (feq hc27).2 (by decide) (by decide) k) ?_
      refine Go.of (T' := T0) (f' := (mkF m 15 #[.val (.int p0)] [(.int p0)])) (fun _ k => XS.iloadN X0.here hx rfl (hb hby d_method_3_code_14) rfl k) ?_
      refine Go.of (T' := T0) (f' := (mkF m 16 #[.val (.int p0)] [(.int (3 : Int32)), (.int p0)])) (fun _ k => XS.iconst X0.here hx rfl (hb hby d_method_3_code_15) k) ?_
      by_cases hc28 : p0 = (3 : Int32)
      · skip
        refine Go.of (T' := T0) (f' := (mkF m 19 #[.val (.int p0)] [])) (fun _ k => XS.icmpNo X0.here hx rfl (hb hby d_method_3_code_16) rfl (teq hc28).2 k) ?_
        refine Go.of (T' := T0) (f' := (mkF m 20 #[.val (.int p0)] [(.int (1 : Int32))])) (fun _ k => XS.iconst X0.here hx rfl (hb hby d_method_3_code_19) k) ?_
        exact Go.retB X0 hx hlk hret (by simp) (hb hby d_method_3_code_20) (by decide) (by decide) (z' := (1 : Int32)) rfl (by rw [e0]; exact ⟨by rw [own_exp, if_neg hc26, if_neg hc27, if_pos hc28], rfl, by simp⟩)
      · skip
        refine Go.of (T' := T0) (f' := (mkF m 21 #[.val (.int p0)] [])) (fun _ k => XS.icmpYes X0.here hx rfl (pc0 := 16) (pc' := 21) rfl (hb hby d_method_3_code_16) rfl (feq hc28).2 (by decide) (by decide) k) ?_
        refine Go.of (T' := T0) (f' := (mkF m 22 #[.val (.int p0)] [(.int (0 : Int32))])) (fun _ k => XS.iconst X0.here hx rfl (hb hby d_method_3_code_21) k) ?_
        exact Go.retB X0 hx hlk hret (by simp) (hb hby d_method_3_code_22) (by decide) (by decide) (z' := (0 : Int32)) rfl (by rw [e0]; exact ⟨by rw [own_exp, if_neg hc26, if_neg hc27, if_neg hc28], rfl, by simp⟩)
theorem own_agree (s_STRING s_LONG s_INT s_SHORT s_DOUBLE s_FLOAT s_BOOLEAN s_CHAR s_LOCAL_DATE s_INSTANT : Addr) (ne_STRING_LONG : ¬ (s_STRING = s_LONG)) (ne_STRING_INT : ¬ (s_STRING = s_INT)) (ne_STRING_SHORT : ¬ (s_STRING = s_SHORT)) (ne_LONG_INT : ¬ (s_LONG = s_INT)) (ne_LONG_SHORT : ¬ (s_LONG = s_SHORT)) (ne_INT_LONG : ¬ (s_INT = s_LONG)) (ne_INT_SHORT : ¬ (s_INT = s_SHORT)) (ne_SHORT_LONG : ¬ (s_SHORT = s_LONG)) (ne_SHORT_INT : ¬ (s_SHORT = s_INT)) (ne_DOUBLE_LONG : ¬ (s_DOUBLE = s_LONG)) (ne_DOUBLE_INT : ¬ (s_DOUBLE = s_INT)) (ne_DOUBLE_SHORT : ¬ (s_DOUBLE = s_SHORT)) (ne_FLOAT_LONG : ¬ (s_FLOAT = s_LONG)) (ne_FLOAT_INT : ¬ (s_FLOAT = s_INT)) (ne_FLOAT_SHORT : ¬ (s_FLOAT = s_SHORT)) (ne_BOOLEAN_LONG : ¬ (s_BOOLEAN = s_LONG)) (ne_BOOLEAN_INT : ¬ (s_BOOLEAN = s_INT)) (ne_BOOLEAN_SHORT : ¬ (s_BOOLEAN = s_SHORT)) (ne_CHAR_LONG : ¬ (s_CHAR = s_LONG)) (ne_CHAR_INT : ¬ (s_CHAR = s_INT)) (ne_CHAR_SHORT : ¬ (s_CHAR = s_SHORT)) (ne_LOCAL_DATE_LONG : ¬ (s_LOCAL_DATE = s_LONG)) (ne_LOCAL_DATE_INT : ¬ (s_LOCAL_DATE = s_INT)) (ne_LOCAL_DATE_SHORT : ¬ (s_LOCAL_DATE = s_SHORT)) (ne_INSTANT_LONG : ¬ (s_INSTANT = s_LONG)) (ne_INSTANT_INT : ¬ (s_INSTANT = s_INT)) (ne_INSTANT_SHORT : ¬ (s_INSTANT = s_SHORT)) (i : Int32) : own_whole s_LONG s_INT s_SHORT (own_pick s_STRING s_LONG s_INT s_SHORT s_DOUBLE s_FLOAT s_BOOLEAN s_CHAR s_LOCAL_DATE s_INSTANT i) = own_exp i := by
  by_cases h0 : i = 0
  · subst h0
    have e1 : own_pick s_STRING s_LONG s_INT s_SHORT s_DOUBLE s_FLOAT s_BOOLEAN s_CHAR s_LOCAL_DATE s_INSTANT 0 = s_STRING := by rw [own_pick, if_pos rfl]
    have e2 : own_exp 0 = 0 := by decide
    rw [e1, e2, own_whole, if_neg ne_STRING_LONG, if_neg ne_STRING_INT, if_neg ne_STRING_SHORT]
  by_cases h1 : i = 1
  · subst h1
    have e1 : own_pick s_STRING s_LONG s_INT s_SHORT s_DOUBLE s_FLOAT s_BOOLEAN s_CHAR s_LOCAL_DATE s_INSTANT 1 = s_LONG := by rw [own_pick, if_neg (by decide), if_pos rfl]
    have e2 : own_exp 1 = 1 := by decide
    rw [e1, e2, own_whole, if_pos rfl]
  by_cases h2 : i = 2
  · subst h2
    have e1 : own_pick s_STRING s_LONG s_INT s_SHORT s_DOUBLE s_FLOAT s_BOOLEAN s_CHAR s_LOCAL_DATE s_INSTANT 2 = s_INT := by rw [own_pick, if_neg (by decide), if_neg (by decide), if_pos rfl]
    have e2 : own_exp 2 = 1 := by decide
    rw [e1, e2, own_whole, if_neg ne_INT_LONG, if_pos rfl]
  by_cases h3 : i = 3
  · subst h3
    have e1 : own_pick s_STRING s_LONG s_INT s_SHORT s_DOUBLE s_FLOAT s_BOOLEAN s_CHAR s_LOCAL_DATE s_INSTANT 3 = s_SHORT := by rw [own_pick, if_neg (by decide), if_neg (by decide), if_neg (by decide), if_pos rfl]
    have e2 : own_exp 3 = 1 := by decide
    rw [e1, e2, own_whole, if_neg ne_SHORT_LONG, if_neg ne_SHORT_INT, if_pos rfl]
  by_cases h4 : i = 4
  · subst h4
    have e1 : own_pick s_STRING s_LONG s_INT s_SHORT s_DOUBLE s_FLOAT s_BOOLEAN s_CHAR s_LOCAL_DATE s_INSTANT 4 = s_DOUBLE := by rw [own_pick, if_neg (by decide), if_neg (by decide), if_neg (by decide), if_neg (by decide), if_pos rfl]
    have e2 : own_exp 4 = 0 := by decide
    rw [e1, e2, own_whole, if_neg ne_DOUBLE_LONG, if_neg ne_DOUBLE_INT, if_neg ne_DOUBLE_SHORT]
  by_cases h5 : i = 5
  · subst h5
    have e1 : own_pick s_STRING s_LONG s_INT s_SHORT s_DOUBLE s_FLOAT s_BOOLEAN s_CHAR s_LOCAL_DATE s_INSTANT 5 = s_FLOAT := by rw [own_pick, if_neg (by decide), if_neg (by decide), if_neg (by decide), if_neg (by decide), if_neg (by decide), if_pos rfl]
    have e2 : own_exp 5 = 0 := by decide
    rw [e1, e2, own_whole, if_neg ne_FLOAT_LONG, if_neg ne_FLOAT_INT, if_neg ne_FLOAT_SHORT]
  by_cases h6 : i = 6
  · subst h6
    have e1 : own_pick s_STRING s_LONG s_INT s_SHORT s_DOUBLE s_FLOAT s_BOOLEAN s_CHAR s_LOCAL_DATE s_INSTANT 6 = s_BOOLEAN := by rw [own_pick, if_neg (by decide), if_neg (by decide), if_neg (by decide), if_neg (by decide), if_neg (by decide), if_neg (by decide), if_pos rfl]
    have e2 : own_exp 6 = 0 := by decide
    rw [e1, e2, own_whole, if_neg ne_BOOLEAN_LONG, if_neg ne_BOOLEAN_INT, if_neg ne_BOOLEAN_SHORT]
  by_cases h7 : i = 7
  · subst h7
    have e1 : own_pick s_STRING s_LONG s_INT s_SHORT s_DOUBLE s_FLOAT s_BOOLEAN s_CHAR s_LOCAL_DATE s_INSTANT 7 = s_CHAR := by rw [own_pick, if_neg (by decide), if_neg (by decide), if_neg (by decide), if_neg (by decide), if_neg (by decide), if_neg (by decide), if_neg (by decide), if_pos rfl]
    have e2 : own_exp 7 = 0 := by decide
    rw [e1, e2, own_whole, if_neg ne_CHAR_LONG, if_neg ne_CHAR_INT, if_neg ne_CHAR_SHORT]
  by_cases h8 : i = 8
  · subst h8
    have e1 : own_pick s_STRING s_LONG s_INT s_SHORT s_DOUBLE s_FLOAT s_BOOLEAN s_CHAR s_LOCAL_DATE s_INSTANT 8 = s_LOCAL_DATE := by rw [own_pick, if_neg (by decide), if_neg (by decide), if_neg (by decide), if_neg (by decide), if_neg (by decide), if_neg (by decide), if_neg (by decide), if_neg (by decide), if_pos rfl]
    have e2 : own_exp 8 = 0 := by decide
    rw [e1, e2, own_whole, if_neg ne_LOCAL_DATE_LONG, if_neg ne_LOCAL_DATE_INT, if_neg ne_LOCAL_DATE_SHORT]
  · skip
    have e1 : own_pick s_STRING s_LONG s_INT s_SHORT s_DOUBLE s_FLOAT s_BOOLEAN s_CHAR s_LOCAL_DATE s_INSTANT i = s_INSTANT := by rw [own_pick, if_neg h0, if_neg h1, if_neg h2, if_neg h3, if_neg h4, if_neg h5, if_neg h6, if_neg h7, if_neg h8]
    have e2 : own_exp i = 0 := by rw [own_exp, if_neg h1, if_neg h2, if_neg h3]
    rw [e1, e2, own_whole, if_neg ne_INSTANT_LONG, if_neg ne_INSTANT_INT, if_neg ne_INSTANT_SHORT]
theorem pd__I_Lcom_example_cascade_mapper_cascademapper_model_ValueType_ : parseMethodDescriptor "(I)Lcom/example/cascade_mapper/cascademapper/model/ValueType;" = some ⟨[.int], some (.object "com/example/cascade_mapper/cascademapper/model/ValueType")⟩ := by decide +kernel
theorem pd___Z : parseMethodDescriptor "()Z" = some ⟨[], some .boolean⟩ := by decide +kernel
theorem pd__I_Z : parseMethodDescriptor "(I)Z" = some ⟨[.int], some .boolean⟩ := by decide +kernel
theorem ef_rm_law (m : MethodId) (p0 : Int32) : entryFrame m #[(.int p0)] maxLocals = mkF m 0 #[.val (.int p0), .unset, .unset] [] := by first | (simp [entryFrame, mkF, argsToLocals, Value.category, maxLocals]; done) | rfl
theorem pn_com_example_cascade_mapper_cascademapper_model_ValueTypeWholeNumberPinLaw_law__I_Z : plainFor (⟨"com/example/cascade_mapper/cascademapper/model/ValueTypeWholeNumberPinLaw", "law", "(I)Z"⟩ : MethodName) = true := by first | exact plainFor_of_name (by first | (simp [plainName, overriddenIn]; done) | decide +kernel) | decide +kernel
set_option maxRecDepth 65536 in
set_option maxHeartbeats 40000000 in
theorem rm_law {l : Launch} {Z : State} {a0 : Array Value} (hw : ∀ d ∈ tables_1, d.before a0 Z = true) (s_STRING : Addr) (s_LONG : Addr) (s_INT : Addr) (s_SHORT : Addr) (s_DOUBLE : Addr) (s_CHAR : Addr) (s_LOCAL_DATE : Addr) (s_INSTANT : Addr) (s_FLOAT : Addr) (s_BOOLEAN : Addr) (S_STRING : Sta Z Z.heap "com/example/cascade_mapper/cascademapper/model/ValueType" "STRING" "Lcom/example/cascade_mapper/cascademapper/model/ValueType;" (.ref s_STRING)) (E_s_STRING : Exa Z Z.heap s_STRING "com/example/cascade_mapper/cascademapper/model/ValueType") (S_LONG : Sta Z Z.heap "com/example/cascade_mapper/cascademapper/model/ValueType" "LONG" "Lcom/example/cascade_mapper/cascademapper/model/ValueType;" (.ref s_LONG)) (E_s_LONG : Exa Z Z.heap s_LONG "com/example/cascade_mapper/cascademapper/model/ValueType") (S_INT : Sta Z Z.heap "com/example/cascade_mapper/cascademapper/model/ValueType" "INT" "Lcom/example/cascade_mapper/cascademapper/model/ValueType;" (.ref s_INT)) (E_s_INT : Exa Z Z.heap s_INT "com/example/cascade_mapper/cascademapper/model/ValueType") (S_SHORT : Sta Z Z.heap "com/example/cascade_mapper/cascademapper/model/ValueType" "SHORT" "Lcom/example/cascade_mapper/cascademapper/model/ValueType;" (.ref s_SHORT)) (E_s_SHORT : Exa Z Z.heap s_SHORT "com/example/cascade_mapper/cascademapper/model/ValueType") (S_DOUBLE : Sta Z Z.heap "com/example/cascade_mapper/cascademapper/model/ValueType" "DOUBLE" "Lcom/example/cascade_mapper/cascademapper/model/ValueType;" (.ref s_DOUBLE)) (E_s_DOUBLE : Exa Z Z.heap s_DOUBLE "com/example/cascade_mapper/cascademapper/model/ValueType") (S_CHAR : Sta Z Z.heap "com/example/cascade_mapper/cascademapper/model/ValueType" "CHAR" "Lcom/example/cascade_mapper/cascademapper/model/ValueType;" (.ref s_CHAR)) (E_s_CHAR : Exa Z Z.heap s_CHAR "com/example/cascade_mapper/cascademapper/model/ValueType") (S_LOCAL_DATE : Sta Z Z.heap "com/example/cascade_mapper/cascademapper/model/ValueType" "LOCAL_DATE" "Lcom/example/cascade_mapper/cascademapper/model/ValueType;" (.ref s_LOCAL_DATE)) (E_s_LOCAL_DATE : Exa Z Z.heap s_LOCAL_DATE "com/example/cascade_mapper/cascademapper/model/ValueType") (S_INSTANT : Sta Z Z.heap "com/example/cascade_mapper/cascademapper/model/ValueType" "INSTANT" "Lcom/example/cascade_mapper/cascademapper/model/ValueType;" (.ref s_INSTANT)) (E_s_INSTANT : Exa Z Z.heap s_INSTANT "com/example/cascade_mapper/cascademapper/model/ValueType") (S_FLOAT : Sta Z Z.heap "com/example/cascade_mapper/cascademapper/model/ValueType" "FLOAT" "Lcom/example/cascade_mapper/cascademapper/model/ValueType;" (.ref s_FLOAT)) (E_s_FLOAT : Exa Z Z.heap s_FLOAT "com/example/cascade_mapper/cascademapper/model/ValueType") (S_BOOLEAN : Sta Z Z.heap "com/example/cascade_mapper/cascademapper/model/ValueType" "BOOLEAN" "Lcom/example/cascade_mapper/cascademapper/model/ValueType;" (.ref s_BOOLEAN)) (E_s_BOOLEAN : Exa Z Z.heap s_BOOLEAN "com/example/cascade_mapper/cascademapper/model/ValueType") (ne_STRING_LONG : ¬ (s_STRING = s_LONG)) (ne_STRING_INT : ¬ (s_STRING = s_INT)) (ne_STRING_SHORT : ¬ (s_STRING = s_SHORT)) (ne_LONG_INT : ¬ (s_LONG = s_INT)) (ne_LONG_SHORT : ¬ (s_LONG = s_SHORT)) (ne_INT_LONG : ¬ (s_INT = s_LONG)) (ne_INT_SHORT : ¬ (s_INT = s_SHORT)) (ne_SHORT_LONG : ¬ (s_SHORT = s_LONG)) (ne_SHORT_INT : ¬ (s_SHORT = s_INT)) (ne_DOUBLE_LONG : ¬ (s_DOUBLE = s_LONG)) (ne_DOUBLE_INT : ¬ (s_DOUBLE = s_INT)) (ne_DOUBLE_SHORT : ¬ (s_DOUBLE = s_SHORT)) (ne_FLOAT_LONG : ¬ (s_FLOAT = s_LONG)) (ne_FLOAT_INT : ¬ (s_FLOAT = s_INT)) (ne_FLOAT_SHORT : ¬ (s_FLOAT = s_SHORT)) (ne_BOOLEAN_LONG : ¬ (s_BOOLEAN = s_LONG)) (ne_BOOLEAN_INT : ¬ (s_BOOLEAN = s_INT)) (ne_BOOLEAN_SHORT : ¬ (s_BOOLEAN = s_SHORT)) (ne_CHAR_LONG : ¬ (s_CHAR = s_LONG)) (ne_CHAR_INT : ¬ (s_CHAR = s_INT)) (ne_CHAR_SHORT : ¬ (s_CHAR = s_SHORT)) (ne_LOCAL_DATE_LONG : ¬ (s_LOCAL_DATE = s_LONG)) (ne_LOCAL_DATE_INT : ¬ (s_LOCAL_DATE = s_INT)) (ne_LOCAL_DATE_SHORT : ¬ (s_LOCAL_DATE = s_SHORT)) (ne_INSTANT_LONG : ¬ (s_INSTANT = s_LONG)) (ne_INSTANT_INT : ¬ (s_INSTANT = s_INT)) (ne_INSTANT_SHORT : ¬ (s_INSTANT = s_SHORT)) (p0 : Int32)  (h0 : Heap) (O0 : Ext Z.heap h0)  :
    Ok l Z x code maxLocals ret room_1 #[(.int p0)] h0
      (fun v h L => v = some (.int (1 : Int32)) ∧ (h = h0) ∧ (L = [])) := by
  refine Ok.mk pn_com_example_cascade_mapper_cascademapper_model_ValueTypeWholeNumberPinLaw_law__I_Z ?_
  intro p e s m below meth c T0 hx hby hml hown hnm hret hlk hZ e0 X0
  have hml : c.maxLocals = 3 := hml
  have hown : s.vm.findClass "com/example/cascade_mapper/cascademapper/model/ValueTypeWholeNumberPinLaw" = some m.cls := hown
  refine Go.cast (ef_rm_law m p0) ?_
  have N0 := Fr.nil Z.heap.size
  have K0 : Keep h0 h0 [] := Keep.refl _ _
  refine Go.of (T' := T0) (f' := (mkF m 1 #[.val (.int p0), .unset, .unset] [(.int p0)])) (fun _ k => XS.iloadN X0.here hx rfl (hb hby at_0) rfl k) ?_
  refine Go.of (T' := T0) (f' := (mkF m 3 #[.val (.int p0), .unset, .unset] [(.int (2147483647 : Int32)), (.int p0)])) (fun _ k => X0.ldcInt hx hown (mvT hZ (hw _ (List.mem_of_getElem? (i := 0) rfl))) (g := (mkF m 1 #[.val (.int p0), .unset, .unset] [(.int p0)])) rfl (hb hby at_1) _ k) ?_
  refine Go.of (T' := T0) (f' := (mkF m 4 #[.val (.int p0), .unset, .unset] [(.int (p0 &&& (2147483647 : Int32)))])) (fun _ k => XS.iand X0.here hx rfl (hb hby at_3) rfl k) ?_
  refine Go.of (T' := T0) (f' := (mkF m 6 #[.val (.int p0), .unset, .unset] [(.int (10 : Int32)), (.int (p0 &&& (2147483647 : Int32)))])) (fun _ k => XS.bipush X0.here hx rfl (hb hby at_4) k) ?_
  refine Go.of (T' := T0) (f' := (mkF m 7 #[.val (.int p0), .unset, .unset] [(.int ((p0 &&& (2147483647 : Int32)) % (10 : Int32)))])) (fun _ k => iremM X0 hx rfl (hb hby at_6) rfl (by decide) k) ?_
  generalize hi : (((p0 &&& (2147483647 : Int32)) % (10 : Int32)) : Int32) = i
  refine Go.of (T' := T0) (f' := (mkF m 8 #[.val (.int p0), .val (.int i), .unset] [])) (fun _ k => XS.istoreN X0.here hx rfl (hb hby at_7) rfl (l' := #[.val (.int p0), .val (.int i), .unset]) rfl k) ?_
  refine Go.of (T' := T0) (f' := (mkF m 9 #[.val (.int p0), .val (.int i), .unset] [(.int i)])) (fun _ k => XS.iloadN X0.here hx rfl (hb hby at_8) rfl k) ?_
  obtain ⟨T29, v29, L29, X29, q29, st29⟩ := callSt X0 hx hZ (y := (⟨"com/example/cascade_mapper/cascademapper/model/ValueTypeWholeNumberPinLaw", "pick", "(I)Lcom/example/cascade_mapper/cascademapper/model/ValueType;"⟩ : MethodName)) hown (hw _ (List.mem_of_getElem? (i := 1) rfl)) (hw _ (List.mem_of_getElem? (i := 2) rfl)) (hw _ (List.mem_of_getElem? (i := 3) rfl)) (hw _ (List.mem_of_getElem? (i := 4) rfl)) (by decide) (rm_pick hw s_STRING s_LONG s_INT s_SHORT s_DOUBLE s_CHAR s_LOCAL_DATE s_INSTANT s_FLOAT s_BOOLEAN S_STRING E_s_STRING S_LONG E_s_LONG S_INT E_s_INT S_SHORT E_s_SHORT S_DOUBLE E_s_DOUBLE S_CHAR E_s_CHAR S_LOCAL_DATE E_s_LOCAL_DATE S_INSTANT E_s_INSTANT S_FLOAT E_s_FLOAT S_BOOLEAN E_s_BOOLEAN ne_STRING_LONG ne_STRING_INT ne_STRING_SHORT ne_LONG_INT ne_LONG_SHORT ne_INT_LONG ne_INT_SHORT ne_SHORT_LONG ne_SHORT_INT ne_DOUBLE_LONG ne_DOUBLE_INT ne_DOUBLE_SHORT ne_FLOAT_LONG ne_FLOAT_INT ne_FLOAT_SHORT ne_BOOLEAN_LONG ne_BOOLEAN_INT ne_BOOLEAN_SHORT ne_CHAR_LONG ne_CHAR_INT ne_CHAR_SHORT ne_LOCAL_DATE_LONG ne_LOCAL_DATE_INT ne_LOCAL_DATE_SHORT ne_INSTANT_LONG ne_INSTANT_INT ne_INSTANT_SHORT i  h0 O0 ) e0 (W := 0) (by decide) (by decide) (by decide) (by decide) (g := (mkF m 9 #[.val (.int p0), .val (.int i), .unset] [(.int i)])) rfl (by rw [hml]; rfl) (argsL := [(.int i)]) (rest := []) (lenOf pd__I_Lcom_example_cascade_mapper_cascademapper_model_ValueType_ rfl) rfl rfl (by show 2 * 0 + _ ≤ _; exact Nat.le_of_eq rfl) (hb hby at_9)
  obtain ⟨rfl, e29, rfl, p29_0⟩ := q29
  rw [e29] at p29_0
  have N29 := Fr.app N0 (Fr.nil _)
  refine Go.of (T' := T29) (f' := (mkF m 12 #[.val (.int p0), .val (.int i), .unset] [(.ref (own_pick s_STRING s_LONG s_INT s_SHORT s_DOUBLE s_FLOAT s_BOOLEAN s_CHAR s_LOCAL_DATE s_INSTANT i))])) (fun _ k => st29 _ k) ?_
  refine Go.of (T' := T29) (f' := (mkF m 13 #[.val (.int p0), .val (.int i), .val (.ref (own_pick s_STRING s_LONG s_INT s_SHORT s_DOUBLE s_FLOAT s_BOOLEAN s_CHAR s_LOCAL_DATE s_INSTANT i))] [])) (fun _ k => XS.astoreN X29.here hx rfl (hb hby at_12) rfl rfl (l' := #[.val (.int p0), .val (.int i), .val (.ref (own_pick s_STRING s_LONG s_INT s_SHORT s_DOUBLE s_FLOAT s_BOOLEAN s_CHAR s_LOCAL_DATE s_INSTANT i))]) rfl k) ?_
  refine Go.of (T' := T29) (f' := (mkF m 14 #[.val (.int p0), .val (.int i), .val (.ref (own_pick s_STRING s_LONG s_INT s_SHORT s_DOUBLE s_FLOAT s_BOOLEAN s_CHAR s_LOCAL_DATE s_INSTANT i))] [(.ref (own_pick s_STRING s_LONG s_INT s_SHORT s_DOUBLE s_FLOAT s_BOOLEAN s_CHAR s_LOCAL_DATE s_INSTANT i))])) (fun _ k => XS.aloadN X29.here hx rfl (hb hby at_13) rfl rfl k) ?_
  obtain ⟨T30, v30, L30, X30, q30, st30⟩ := callVi X29 hx hZ (y := (⟨"com/example/cascade_mapper/cascademapper/model/ValueType", "wholeNumber", "()Z"⟩ : MethodName)) (z := (⟨"com/example/cascade_mapper/cascademapper/model/ValueType", "wholeNumber", "()Z"⟩ : MethodName)) hown (hw _ (List.mem_of_getElem? (i := 8) rfl)) (hw _ (List.mem_of_getElem? (i := 9) rfl)) (notFace_of_selects (args := #[]) (mvT hZ (hw _ (List.mem_of_getElem? (i := 11) rfl)))) (hw _ (List.mem_of_getElem? (i := 11) rfl)) (hw _ (List.mem_of_getElem? (i := 10) rfl)) (hw _ (List.mem_of_getElem? (i := 12) rfl)) (hw _ (List.mem_of_getElem? (i := 6) rfl)) (by decide) (rm_whole hw s_STRING s_LONG s_INT s_SHORT s_DOUBLE s_CHAR s_LOCAL_DATE s_INSTANT s_FLOAT s_BOOLEAN S_STRING E_s_STRING S_LONG E_s_LONG S_INT E_s_INT S_SHORT E_s_SHORT S_DOUBLE E_s_DOUBLE S_CHAR E_s_CHAR S_LOCAL_DATE E_s_LOCAL_DATE S_INSTANT E_s_INSTANT S_FLOAT E_s_FLOAT S_BOOLEAN E_s_BOOLEAN ne_STRING_LONG ne_STRING_INT ne_STRING_SHORT ne_LONG_INT ne_LONG_SHORT ne_INT_LONG ne_INT_SHORT ne_SHORT_LONG ne_SHORT_INT ne_DOUBLE_LONG ne_DOUBLE_INT ne_DOUBLE_SHORT ne_FLOAT_LONG ne_FLOAT_INT ne_FLOAT_SHORT ne_BOOLEAN_LONG ne_BOOLEAN_INT ne_BOOLEAN_SHORT ne_CHAR_LONG ne_CHAR_INT ne_CHAR_SHORT ne_LOCAL_DATE_LONG ne_LOCAL_DATE_INT ne_LOCAL_DATE_SHORT ne_INSTANT_LONG ne_INSTANT_INT ne_INSTANT_SHORT ((own_pick s_STRING s_LONG s_INT s_SHORT s_DOUBLE s_FLOAT s_BOOLEAN s_CHAR s_LOCAL_DATE s_INSTANT i))  h0 O0 ) e29 (W := 0) (by decide) (by decide) (by decide) (by decide) p29_0 (g := (mkF m 14 #[.val (.int p0), .val (.int i), .val (.ref (own_pick s_STRING s_LONG s_INT s_SHORT s_DOUBLE s_FLOAT s_BOOLEAN s_CHAR s_LOCAL_DATE s_INSTANT i))] [(.ref (own_pick s_STRING s_LONG s_INT s_SHORT s_DOUBLE s_FLOAT s_BOOLEAN s_CHAR s_LOCAL_DATE s_INSTANT i))])) rfl (by rw [hml]; rfl) (argsL := []) (rest := []) (lenOf pd___Z rfl) rfl rfl (by show 2 * 0 + _ ≤ _; exact Nat.le_of_eq rfl) (hb hby at_14)
  obtain ⟨rfl, e30, rfl⟩ := q30
  have N30 := Fr.app N29 (Fr.nil _)
  refine Go.of (T' := T30) (f' := (mkF m 17 #[.val (.int p0), .val (.int i), .val (.ref (own_pick s_STRING s_LONG s_INT s_SHORT s_DOUBLE s_FLOAT s_BOOLEAN s_CHAR s_LOCAL_DATE s_INSTANT i))] [(.int (own_whole s_LONG s_INT s_SHORT (own_pick s_STRING s_LONG s_INT s_SHORT s_DOUBLE s_FLOAT s_BOOLEAN s_CHAR s_LOCAL_DATE s_INSTANT i)))])) (fun _ k => st30 _ k) ?_
  refine Go.of (T' := T30) (f' := (mkF m 18 #[.val (.int p0), .val (.int i), .val (.ref (own_pick s_STRING s_LONG s_INT s_SHORT s_DOUBLE s_FLOAT s_BOOLEAN s_CHAR s_LOCAL_DATE s_INSTANT i))] [(.int i), (.int (own_whole s_LONG s_INT s_SHORT (own_pick s_STRING s_LONG s_INT s_SHORT s_DOUBLE s_FLOAT s_BOOLEAN s_CHAR s_LOCAL_DATE s_INSTANT i)))])) (fun _ k => XS.iloadN X30.here hx rfl (hb hby at_17) rfl k) ?_
  obtain ⟨T31, v31, L31, X31, q31, st31⟩ := callSt X30 hx hZ (y := (⟨"com/example/cascade_mapper/cascademapper/model/ValueTypeWholeNumberPinLaw", "expected", "(I)Z"⟩ : MethodName)) hown (hw _ (List.mem_of_getElem? (i := 19) rfl)) (hw _ (List.mem_of_getElem? (i := 20) rfl)) (hw _ (List.mem_of_getElem? (i := 3) rfl)) (hw _ (List.mem_of_getElem? (i := 21) rfl)) (by decide) (rm_exp hw s_STRING s_LONG s_INT s_SHORT s_DOUBLE s_CHAR s_LOCAL_DATE s_INSTANT s_FLOAT s_BOOLEAN S_STRING E_s_STRING S_LONG E_s_LONG S_INT E_s_INT S_SHORT E_s_SHORT S_DOUBLE E_s_DOUBLE S_CHAR E_s_CHAR S_LOCAL_DATE E_s_LOCAL_DATE S_INSTANT E_s_INSTANT S_FLOAT E_s_FLOAT S_BOOLEAN E_s_BOOLEAN ne_STRING_LONG ne_STRING_INT ne_STRING_SHORT ne_LONG_INT ne_LONG_SHORT ne_INT_LONG ne_INT_SHORT ne_SHORT_LONG ne_SHORT_INT ne_DOUBLE_LONG ne_DOUBLE_INT ne_DOUBLE_SHORT ne_FLOAT_LONG ne_FLOAT_INT ne_FLOAT_SHORT ne_BOOLEAN_LONG ne_BOOLEAN_INT ne_BOOLEAN_SHORT ne_CHAR_LONG ne_CHAR_INT ne_CHAR_SHORT ne_LOCAL_DATE_LONG ne_LOCAL_DATE_INT ne_LOCAL_DATE_SHORT ne_INSTANT_LONG ne_INSTANT_INT ne_INSTANT_SHORT i  h0 O0 ) e30 (W := 1) (by decide) (by decide) (by decide) (by decide) (g := (mkF m 18 #[.val (.int p0), .val (.int i), .val (.ref (own_pick s_STRING s_LONG s_INT s_SHORT s_DOUBLE s_FLOAT s_BOOLEAN s_CHAR s_LOCAL_DATE s_INSTANT i))] [(.int i), (.int (own_whole s_LONG s_INT s_SHORT (own_pick s_STRING s_LONG s_INT s_SHORT s_DOUBLE s_FLOAT s_BOOLEAN s_CHAR s_LOCAL_DATE s_INSTANT i)))])) rfl (by rw [hml]; rfl) (argsL := [(.int i)]) (rest := [(.int (own_whole s_LONG s_INT s_SHORT (own_pick s_STRING s_LONG s_INT s_SHORT s_DOUBLE s_FLOAT s_BOOLEAN s_CHAR s_LOCAL_DATE s_INSTANT i)))]) (lenOf pd__I_Z rfl) rfl rfl (by show 2 * 0 + _ ≤ _; exact Nat.le_of_eq rfl) (hb hby at_18)
  obtain ⟨rfl, e31, rfl⟩ := q31
  have N31 := Fr.app N30 (Fr.nil _)
  refine Go.of (T' := T31) (f' := (mkF m 21 #[.val (.int p0), .val (.int i), .val (.ref (own_pick s_STRING s_LONG s_INT s_SHORT s_DOUBLE s_FLOAT s_BOOLEAN s_CHAR s_LOCAL_DATE s_INSTANT i))] [(.int (own_exp i)), (.int (own_whole s_LONG s_INT s_SHORT (own_pick s_STRING s_LONG s_INT s_SHORT s_DOUBLE s_FLOAT s_BOOLEAN s_CHAR s_LOCAL_DATE s_INSTANT i)))])) (fun _ k => st31 _ k) ?_
  have hc32 : (own_whole s_LONG s_INT s_SHORT (own_pick s_STRING s_LONG s_INT s_SHORT s_DOUBLE s_FLOAT s_BOOLEAN s_CHAR s_LOCAL_DATE s_INSTANT i)) = (own_exp i) := own_agree s_STRING s_LONG s_INT s_SHORT s_DOUBLE s_FLOAT s_BOOLEAN s_CHAR s_LOCAL_DATE s_INSTANT ne_STRING_LONG ne_STRING_INT ne_STRING_SHORT ne_LONG_INT ne_LONG_SHORT ne_INT_LONG ne_INT_SHORT ne_SHORT_LONG ne_SHORT_INT ne_DOUBLE_LONG ne_DOUBLE_INT ne_DOUBLE_SHORT ne_FLOAT_LONG ne_FLOAT_INT ne_FLOAT_SHORT ne_BOOLEAN_LONG ne_BOOLEAN_INT ne_BOOLEAN_SHORT ne_CHAR_LONG ne_CHAR_INT ne_CHAR_SHORT ne_LOCAL_DATE_LONG ne_LOCAL_DATE_INT ne_LOCAL_DATE_SHORT ne_INSTANT_LONG ne_INSTANT_INT ne_INSTANT_SHORT _
  refine Go.of (T' := T31) (f' := (mkF m 24 #[.val (.int p0), .val (.int i), .val (.ref (own_pick s_STRING s_LONG s_INT s_SHORT s_DOUBLE s_FLOAT s_BOOLEAN s_CHAR s_LOCAL_DATE s_INSTANT i))] [])) (fun _ k => XS.icmpNo X31.here hx rfl (hb hby at_21) rfl (teq hc32).2 k) ?_
  refine Go.of (T' := T31) (f' := (mkF m 25 #[.val (.int p0), .val (.int i), .val (.ref (own_pick s_STRING s_LONG s_INT s_SHORT s_DOUBLE s_FLOAT s_BOOLEAN s_CHAR s_LOCAL_DATE s_INSTANT i))] [(.int (1 : Int32))])) (fun _ k => XS.iconst X31.here hx rfl (hb hby at_24) k) ?_
  refine Go.of (T' := T31) (f' := (mkF m 29 #[.val (.int p0), .val (.int i), .val (.ref (own_pick s_STRING s_LONG s_INT s_SHORT s_DOUBLE s_FLOAT s_BOOLEAN s_CHAR s_LOCAL_DATE s_INSTANT i))] [(.int (1 : Int32))])) (fun _ k => XS.goto X31.here hx rfl (pc0 := 25) (pc' := 29) rfl (hb hby at_25) (by decide) (by decide) k) ?_
  exact Go.retB X31 hx hlk hret (by simp) (hb hby at_29) (by decide) (by decide) (z' := (1 : Int32)) rfl (by rw [e31]; exact ⟨rfl, rfl, by simp⟩)
set_option maxRecDepth 65536 in
set_option maxHeartbeats 40000000 in
theorem comes_1 {Post : Tables → Env → Array Value → State → Outcome → State → Prop} (hpost : ∀ tb e args s v u, (limb_1_1.after args s (.returned v) u = true ∧ limb_1_2.after args s (.returned v) u = true ∧ True) → FrameEnd s (.returned v) u (Jvm.fieldLocs frame_1_writes args s ++ Jvm.arrayLocs frame_1_arrays args s ++ Jvm.staticLocs frame_1_statics s) 0 0 → Post tb e args s (.returned v) u) :
    ArmFor flags0 classFile x code maxLocals ret World_1 tables_1 room_1 Calls_1 rest_1 Pre_1 Post := by
  intro l hfl _ _ p e ha hc hk s m args below hf hA hF happ hP
  obtain ⟨hcalls, hrest, hpre⟩ := hP
  obtain ⟨-, -, -, hnamed, -, -, -, hat⟩ := (Spec.applies_iff hf).mp happ
  obtain ⟨hg, hn⟩ := and_e (Cond.before_iff.mp (show (Jvm.Cond.and given_1 narrow_1).before args s = true from hpre))
  obtain ⟨ga0, gb0⟩ := and_e hg
  obtain ⟨w0, rfl⟩ : ∃ w0 : Value, args = #[w0] := by
    have hs : args.size = 1 := by simpa [Cond.value, given_1] using ga0
    obtain ⟨L⟩ := args
    match L, hs with
    | [w0], _ => exact ⟨w0, rfl⟩
  have hw := fun d (hd : d ∈ tables_1) => atoms_spec (ws := Jvm.Cond.code x code maxLocals ret :: tables_1) hat d (List.mem_cons_of_mem _ hd)
  have hfit : Fit s := fun {y c} hc i hi => by
    obtain ⟨ha, rfl⟩ := Array.getElem?_eq_some_iff.mp hc
    have q := List.all_eq_true.mp ((Array.all_eq_true_iff_forall_mem.mp hF) _ (Array.getElem_mem ha)) i (List.mem_range.mpr hi)
    simpa [Array.getElem?_eq_getElem hi] using q
  obtain ⟨i0, ei0⟩ := is_v gb0
  obtain rfl : w0 = (.int i0) := Option.some.inj ei0
  obtain ⟨na1, nb1⟩ := and_e hn
  obtain ⟨s_STRING, ev_s_STRING⟩ := exa_v na1
  have S_STRING : Sta s s.heap "com/example/cascade_mapper/cascademapper/model/ValueType" "STRING" "Lcom/example/cascade_mapper/cascademapper/model/ValueType;" (.ref s_STRING) := Sta.start ev_s_STRING (Or.inr ⟨(hw _ (List.mem_of_getElem? (i := 6) rfl)), (hw _ (List.mem_of_getElem? (i := 7) rfl))⟩)
  have E_s_STRING : Exa s s.heap s_STRING "com/example/cascade_mapper/cascademapper/model/ValueType" := Exa.start ev_s_STRING na1
  obtain ⟨na2, nb2⟩ := and_e nb1
  obtain ⟨s_LONG, ev_s_LONG⟩ := exa_v na2
  have S_LONG : Sta s s.heap "com/example/cascade_mapper/cascademapper/model/ValueType" "LONG" "Lcom/example/cascade_mapper/cascademapper/model/ValueType;" (.ref s_LONG) := Sta.start ev_s_LONG (Or.inr ⟨(hw _ (List.mem_of_getElem? (i := 6) rfl)), (hw _ (List.mem_of_getElem? (i := 14) rfl))⟩)
  have E_s_LONG : Exa s s.heap s_LONG "com/example/cascade_mapper/cascademapper/model/ValueType" := Exa.start ev_s_LONG na2
  obtain ⟨na3, nb3⟩ := and_e nb2
  have ev3 := eqI_v na3
  have F_s_STRING_ordinal : Fld s s.heap s_STRING "java/lang/Enum" "ordinal" "I" (.int (0 : Int32)) := Fld.start ((fld_at ev_s_STRING).symm.trans ev3)
  obtain ⟨na5, nb5⟩ := and_e nb3
  have ev5 := eqI_v na5
  have F_s_LONG_ordinal : Fld s s.heap s_LONG "java/lang/Enum" "ordinal" "I" (.int (1 : Int32)) := Fld.start ((fld_at ev_s_LONG).symm.trans ev5)
  obtain ⟨na7, nb7⟩ := and_e nb5
  obtain ⟨s_INT, ev_s_INT⟩ := exa_v na7
  have S_INT : Sta s s.heap "com/example/cascade_mapper/cascademapper/model/ValueType" "INT" "Lcom/example/cascade_mapper/cascademapper/model/ValueType;" (.ref s_INT) := Sta.start ev_s_INT (Or.inr ⟨(hw _ (List.mem_of_getElem? (i := 6) rfl)), (hw _ (List.mem_of_getElem? (i := 16) rfl))⟩)
  have E_s_INT : Exa s s.heap s_INT "com/example/cascade_mapper/cascademapper/model/ValueType" := Exa.start ev_s_INT na7
  obtain ⟨na8, nb8⟩ := and_e nb7
  have ev8 := eqI_v na8
  have F_s_INT_ordinal : Fld s s.heap s_INT "java/lang/Enum" "ordinal" "I" (.int (2 : Int32)) := Fld.start ((fld_at ev_s_INT).symm.trans ev8)
  obtain ⟨na10, nb10⟩ := and_e nb8
  obtain ⟨s_SHORT, ev_s_SHORT⟩ := exa_v na10
  have S_SHORT : Sta s s.heap "com/example/cascade_mapper/cascademapper/model/ValueType" "SHORT" "Lcom/example/cascade_mapper/cascademapper/model/ValueType;" (.ref s_SHORT) := Sta.start ev_s_SHORT (Or.inr ⟨(hw _ (List.mem_of_getElem? (i := 6) rfl)), (hw _ (List.mem_of_getElem? (i := 18) rfl))⟩)
  have E_s_SHORT : Exa s s.heap s_SHORT "com/example/cascade_mapper/cascademapper/model/ValueType" := Exa.start ev_s_SHORT na10
  obtain ⟨na11, nb11⟩ := and_e nb10
  have ev11 := eqI_v na11
  have F_s_SHORT_ordinal : Fld s s.heap s_SHORT "java/lang/Enum" "ordinal" "I" (.int (3 : Int32)) := Fld.start ((fld_at ev_s_SHORT).symm.trans ev11)
  obtain ⟨na13, nb13⟩ := and_e nb11
  obtain ⟨s_DOUBLE, ev_s_DOUBLE⟩ := exa_v na13
  have S_DOUBLE : Sta s s.heap "com/example/cascade_mapper/cascademapper/model/ValueType" "DOUBLE" "Lcom/example/cascade_mapper/cascademapper/model/ValueType;" (.ref s_DOUBLE) := Sta.start ev_s_DOUBLE (Or.inr ⟨(hw _ (List.mem_of_getElem? (i := 6) rfl)), (hw _ (List.mem_of_getElem? (i := 25) rfl))⟩)
  have E_s_DOUBLE : Exa s s.heap s_DOUBLE "com/example/cascade_mapper/cascademapper/model/ValueType" := Exa.start ev_s_DOUBLE na13
  obtain ⟨na14, nb14⟩ := and_e nb13
  have ev14 := eqI_v na14
  have F_s_DOUBLE_ordinal : Fld s s.heap s_DOUBLE "java/lang/Enum" "ordinal" "I" (.int (4 : Int32)) := Fld.start ((fld_at ev_s_DOUBLE).symm.trans ev14)
  obtain ⟨na16, nb16⟩ := and_e nb14
  obtain ⟨s_CHAR, ev_s_CHAR⟩ := exa_v na16
  have S_CHAR : Sta s s.heap "com/example/cascade_mapper/cascademapper/model/ValueType" "CHAR" "Lcom/example/cascade_mapper/cascademapper/model/ValueType;" (.ref s_CHAR) := Sta.start ev_s_CHAR (Or.inr ⟨(hw _ (List.mem_of_getElem? (i := 6) rfl)), (hw _ (List.mem_of_getElem? (i := 27) rfl))⟩)
  have E_s_CHAR : Exa s s.heap s_CHAR "com/example/cascade_mapper/cascademapper/model/ValueType" := Exa.start ev_s_CHAR na16
  obtain ⟨na17, nb17⟩ := and_e nb16
  have ev17 := eqI_v na17
  have F_s_CHAR_ordinal : Fld s s.heap s_CHAR "java/lang/Enum" "ordinal" "I" (.int (7 : Int32)) := Fld.start ((fld_at ev_s_CHAR).symm.trans ev17)
  obtain ⟨na19, nb19⟩ := and_e nb17
  obtain ⟨s_LOCAL_DATE, ev_s_LOCAL_DATE⟩ := exa_v na19
  have S_LOCAL_DATE : Sta s s.heap "com/example/cascade_mapper/cascademapper/model/ValueType" "LOCAL_DATE" "Lcom/example/cascade_mapper/cascademapper/model/ValueType;" (.ref s_LOCAL_DATE) := Sta.start ev_s_LOCAL_DATE (Or.inr ⟨(hw _ (List.mem_of_getElem? (i := 6) rfl)), (hw _ (List.mem_of_getElem? (i := 30) rfl))⟩)
  have E_s_LOCAL_DATE : Exa s s.heap s_LOCAL_DATE "com/example/cascade_mapper/cascademapper/model/ValueType" := Exa.start ev_s_LOCAL_DATE na19
  obtain ⟨na20, nb20⟩ := and_e nb19
  have ev20 := eqI_v na20
  have F_s_LOCAL_DATE_ordinal : Fld s s.heap s_LOCAL_DATE "java/lang/Enum" "ordinal" "I" (.int (8 : Int32)) := Fld.start ((fld_at ev_s_LOCAL_DATE).symm.trans ev20)
  obtain ⟨na22, nb22⟩ := and_e nb20
  obtain ⟨s_INSTANT, ev_s_INSTANT⟩ := exa_v na22
  have S_INSTANT : Sta s s.heap "com/example/cascade_mapper/cascademapper/model/ValueType" "INSTANT" "Lcom/example/cascade_mapper/cascademapper/model/ValueType;" (.ref s_INSTANT) := Sta.start ev_s_INSTANT (Or.inr ⟨(hw _ (List.mem_of_getElem? (i := 6) rfl)), (hw _ (List.mem_of_getElem? (i := 32) rfl))⟩)
  have E_s_INSTANT : Exa s s.heap s_INSTANT "com/example/cascade_mapper/cascademapper/model/ValueType" := Exa.start ev_s_INSTANT na22
  obtain ⟨na23, nb23⟩ := and_e nb22
  have ev23 := eqI_v na23
  have F_s_INSTANT_ordinal : Fld s s.heap s_INSTANT "java/lang/Enum" "ordinal" "I" (.int (9 : Int32)) := Fld.start ((fld_at ev_s_INSTANT).symm.trans ev23)
  obtain ⟨na25, nb25⟩ := and_e nb23
  obtain ⟨s_FLOAT, ev_s_FLOAT⟩ := exa_v na25
  have S_FLOAT : Sta s s.heap "com/example/cascade_mapper/cascademapper/model/ValueType" "FLOAT" "Lcom/example/cascade_mapper/cascademapper/model/ValueType;" (.ref s_FLOAT) := Sta.start ev_s_FLOAT (Or.inr ⟨(hw _ (List.mem_of_getElem? (i := 6) rfl)), (hw _ (List.mem_of_getElem? (i := 34) rfl))⟩)
  have E_s_FLOAT : Exa s s.heap s_FLOAT "com/example/cascade_mapper/cascademapper/model/ValueType" := Exa.start ev_s_FLOAT na25
  obtain ⟨na26, nb26⟩ := and_e nb25
  have ev26 := eqI_v na26
  have F_s_FLOAT_ordinal : Fld s s.heap s_FLOAT "java/lang/Enum" "ordinal" "I" (.int (5 : Int32)) := Fld.start ((fld_at ev_s_FLOAT).symm.trans ev26)
  obtain ⟨na28, nb28⟩ := and_e nb26
  obtain ⟨s_BOOLEAN, ev_s_BOOLEAN⟩ := exa_v na28
  have S_BOOLEAN : Sta s s.heap "com/example/cascade_mapper/cascademapper/model/ValueType" "BOOLEAN" "Lcom/example/cascade_mapper/cascademapper/model/ValueType;" (.ref s_BOOLEAN) := Sta.start ev_s_BOOLEAN (Or.inr ⟨(hw _ (List.mem_of_getElem? (i := 6) rfl)), (hw _ (List.mem_of_getElem? (i := 36) rfl))⟩)
  have E_s_BOOLEAN : Exa s s.heap s_BOOLEAN "com/example/cascade_mapper/cascademapper/model/ValueType" := Exa.start ev_s_BOOLEAN na28
  have ev28 := eqI_v nb28
  have F_s_BOOLEAN_ordinal : Fld s s.heap s_BOOLEAN "java/lang/Enum" "ordinal" "I" (.int (6 : Int32)) := Fld.start ((fld_at ev_s_BOOLEAN).symm.trans ev28)
  have ne_STRING_LONG : ¬ (s_STRING = s_LONG) := Fld.ne F_s_STRING_ordinal F_s_LONG_ordinal (by decide)
  have ne_STRING_INT : ¬ (s_STRING = s_INT) := Fld.ne F_s_STRING_ordinal F_s_INT_ordinal (by decide)
  have ne_STRING_SHORT : ¬ (s_STRING = s_SHORT) := Fld.ne F_s_STRING_ordinal F_s_SHORT_ordinal (by decide)
  have ne_LONG_INT : ¬ (s_LONG = s_INT) := Fld.ne F_s_LONG_ordinal F_s_INT_ordinal (by decide)
  have ne_LONG_SHORT : ¬ (s_LONG = s_SHORT) := Fld.ne F_s_LONG_ordinal F_s_SHORT_ordinal (by decide)
  have ne_INT_LONG : ¬ (s_INT = s_LONG) := Fld.ne F_s_INT_ordinal F_s_LONG_ordinal (by decide)
  have ne_INT_SHORT : ¬ (s_INT = s_SHORT) := Fld.ne F_s_INT_ordinal F_s_SHORT_ordinal (by decide)
  have ne_SHORT_LONG : ¬ (s_SHORT = s_LONG) := Fld.ne F_s_SHORT_ordinal F_s_LONG_ordinal (by decide)
  have ne_SHORT_INT : ¬ (s_SHORT = s_INT) := Fld.ne F_s_SHORT_ordinal F_s_INT_ordinal (by decide)
  have ne_DOUBLE_LONG : ¬ (s_DOUBLE = s_LONG) := Fld.ne F_s_DOUBLE_ordinal F_s_LONG_ordinal (by decide)
  have ne_DOUBLE_INT : ¬ (s_DOUBLE = s_INT) := Fld.ne F_s_DOUBLE_ordinal F_s_INT_ordinal (by decide)
  have ne_DOUBLE_SHORT : ¬ (s_DOUBLE = s_SHORT) := Fld.ne F_s_DOUBLE_ordinal F_s_SHORT_ordinal (by decide)
  have ne_FLOAT_LONG : ¬ (s_FLOAT = s_LONG) := Fld.ne F_s_FLOAT_ordinal F_s_LONG_ordinal (by decide)
  have ne_FLOAT_INT : ¬ (s_FLOAT = s_INT) := Fld.ne F_s_FLOAT_ordinal F_s_INT_ordinal (by decide)
  have ne_FLOAT_SHORT : ¬ (s_FLOAT = s_SHORT) := Fld.ne F_s_FLOAT_ordinal F_s_SHORT_ordinal (by decide)
  have ne_BOOLEAN_LONG : ¬ (s_BOOLEAN = s_LONG) := Fld.ne F_s_BOOLEAN_ordinal F_s_LONG_ordinal (by decide)
  have ne_BOOLEAN_INT : ¬ (s_BOOLEAN = s_INT) := Fld.ne F_s_BOOLEAN_ordinal F_s_INT_ordinal (by decide)
  have ne_BOOLEAN_SHORT : ¬ (s_BOOLEAN = s_SHORT) := Fld.ne F_s_BOOLEAN_ordinal F_s_SHORT_ordinal (by decide)
  have ne_CHAR_LONG : ¬ (s_CHAR = s_LONG) := Fld.ne F_s_CHAR_ordinal F_s_LONG_ordinal (by decide)
  have ne_CHAR_INT : ¬ (s_CHAR = s_INT) := Fld.ne F_s_CHAR_ordinal F_s_INT_ordinal (by decide)
  have ne_CHAR_SHORT : ¬ (s_CHAR = s_SHORT) := Fld.ne F_s_CHAR_ordinal F_s_SHORT_ordinal (by decide)
  have ne_LOCAL_DATE_LONG : ¬ (s_LOCAL_DATE = s_LONG) := Fld.ne F_s_LOCAL_DATE_ordinal F_s_LONG_ordinal (by decide)
  have ne_LOCAL_DATE_INT : ¬ (s_LOCAL_DATE = s_INT) := Fld.ne F_s_LOCAL_DATE_ordinal F_s_INT_ordinal (by decide)
  have ne_LOCAL_DATE_SHORT : ¬ (s_LOCAL_DATE = s_SHORT) := Fld.ne F_s_LOCAL_DATE_ordinal F_s_SHORT_ordinal (by decide)
  have ne_INSTANT_LONG : ¬ (s_INSTANT = s_LONG) := Fld.ne F_s_INSTANT_ordinal F_s_LONG_ordinal (by decide)
  have ne_INSTANT_INT : ¬ (s_INSTANT = s_INT) := Fld.ne F_s_INSTANT_ordinal F_s_INT_ordinal (by decide)
  have ne_INSTANT_SHORT : ¬ (s_INSTANT = s_SHORT) := Fld.ne F_s_INSTANT_ordinal F_s_SHORT_ordinal (by decide)
  obtain ⟨n, o, h1, h2, h3, _, L, rfl, ⟨rfl, _, rfl⟩, hq⟩ := rm_law hw s_STRING s_LONG s_INT s_SHORT s_DOUBLE s_CHAR s_LOCAL_DATE s_INSTANT s_FLOAT s_BOOLEAN S_STRING E_s_STRING S_LONG E_s_LONG S_INT E_s_INT S_SHORT E_s_SHORT S_DOUBLE E_s_DOUBLE S_CHAR E_s_CHAR S_LOCAL_DATE E_s_LOCAL_DATE S_INSTANT E_s_INSTANT S_FLOAT E_s_FLOAT S_BOOLEAN E_s_BOOLEAN ne_STRING_LONG ne_STRING_INT ne_STRING_SHORT ne_LONG_INT ne_LONG_SHORT ne_INT_LONG ne_INT_SHORT ne_SHORT_LONG ne_SHORT_INT ne_DOUBLE_LONG ne_DOUBLE_INT ne_DOUBLE_SHORT ne_FLOAT_LONG ne_FLOAT_INT ne_FLOAT_SHORT ne_BOOLEAN_LONG ne_BOOLEAN_INT ne_BOOLEAN_SHORT ne_CHAR_LONG ne_CHAR_INT ne_CHAR_SHORT ne_LOCAL_DATE_LONG ne_LOCAL_DATE_INT ne_LOCAL_DATE_SHORT ne_INSTANT_LONG ne_INSTANT_INT ne_INSTANT_SHORT i0 s.heap ext_rfl tables_1 p e ha hc hk s m _ below hf ((Spec.applies_iff_loose hf).mp happ).1 ⟨rfl, State.Warmed39.refl s, rfl⟩ trivial
  refine ⟨n, _, h1, h2, h3, hpost _ _ _ _ _ _ ⟨Cond.after_iff.mpr rfl, Cond.after_iff.mpr (eq_i res_at (Term.int_eval (1)) rfl), trivial⟩ ⟨hq.1, hq.2.1, (hq.2.2.sift fun y hy => nomatch hy).mono (by decide) (by decide)⟩⟩
theorem main_1_1 : Claimed_1_1 := comes_1 fun _ _ _ _ _ _ h hF => ⟨h.1, hF⟩
theorem main_1_2 : Claimed_1_2 := comes_1 fun _ _ _ _ _ _ h hF => ⟨h.2.1, hF⟩
end Jvm.Pilot.@@N@@
namespace Jvm.Pilot.@@N@@
open Jvm Jvm.ClassFile Sem Op Lib Jvm.Free Jvm.Stand Jvm.Pilot.@@N@@.Jvm.D
/-! MADE BY PROGRAM (witnessworld.py) out of the Statement's table words and the real class files: 12 classes; the members and pool entries that the words name. The judged class is class 1, her method 3. -/
namespace start1
open Jvm.ClassFile
def u (s : String) : CpInfo := .utf8 (stringToUtf16 s)
/-- a pool by its gaps: so many unusable entries, then the entry; so many at the end -/
def gap : Nat → List CpInfo → List CpInfo
  | 0, r => r
  | n + 1, r => .unusable :: gap n r
def poolList (es : List (Nat × CpInfo)) (last : Nat) : List CpInfo := es.foldr (fun e r => gap e.1 (e.2 :: r)) (gap last [])
def pool (es : List (Nat × CpInfo)) (last : Nat) : Array CpInfo := ⟨poolList es last⟩
def fileOf (pool : Array CpInfo) (this : Nat) (attrs : Array Attribute := #[]) (ms : Array MethodInfo := #[]) (fl : Nat := 33) (sup : Nat := 0) (ifs : Array Nat := #[]) (fds : Array FieldInfo := #[]) : ClassFile where
  minorVersion := 0
  majorVersion := 65
  constantPool := pool
  accessFlags := fl
  thisClass := this
  superClass := sup
  interfaces := ifs
  fields := fds
  methods := ms
  attributes := attrs
def plain (name : String) (sup : Option ClassId) : Class where
  name := name
  kind := .ordinary
  loader := none
  accessFlags := 33
  super := sup
  interfaces := #[]
  cf := none
  fields := #[]
  methods := #[]
  instanceTypes := #[]
  staticTypes := #[]
  resolved := #[]
  callSites := []
  init := .initialized
  statics := none
  mirror := none

def pool0 : Array CpInfo := pool [(5, u "<init>"), (0, u "()V"), (1, .class_ 10), (1, u "java/lang/Object")] 113

def k0m0 : Method := { name := "<init>", desc := "()V", sig := { parameters := [], returnType := none }, accessFlags := 1, code := none }
/-- java/lang/Object -/
def k0 : Class := { plain "java/lang/Object" none with
  accessFlags := 33
  interfaces := #[]
  cf := some (fileOf pool0 8 #[] #[{ accessFlags := 1, nameIndex := 5, descriptorIndex := 6, attributes := #[] }] 33 0 #[] #[])
  fields := #[]
  methods := #[k0m0]
  instanceTypes := #[]
  staticTypes := #[]
  resolved := Array.replicate 124 none
  statics := none }

def pool1 : Array CpInfo := pool [(2, .class_ 4), (1, u "java/lang/Object"), (0, u "<init>"), (0, u "()V"), (0, .fieldref 8 9), (0, .class_ 10), (0, .nameAndType 11 12), (0, u "com/example/cascade_mapper/cascademapper/model/ValueType"), (0, u "STRING"), (0, u "Lcom/example/cascade_mapper/cascademapper/model/ValueType;"), (0, .fieldref 8 14), (0, .nameAndType 15 12), (0, u "LONG"), (0, .fieldref 8 17), (0, .nameAndType 18 12), (0, u "INT"), (0, .fieldref 8 20), (0, .nameAndType 21 12), (0, u "SHORT"), (0, .fieldref 8 23), (0, .nameAndType 24 12), (0, u "DOUBLE"), (0, .fieldref 8 26), (0, .nameAndType 27 12), (0, u "FLOAT"), (0, .fieldref 8 29), (0, .nameAndType 30 12), (0, u "BOOLEAN"), (0, .fieldref 8 32), (0, .nameAndType 33 12), (0, u "CHAR"), (0, .fieldref 8 35), (0, .nameAndType 36 12), (0, u "LOCAL_DATE"), (0, .fieldref 8 38), (0, .nameAndType 39 12), (0, u "INSTANT"), (0, .integer 2147483647), (0, .methodref 42 43), (0, .class_ 44), (0, .nameAndType 45 46), (0, u "com/example/cascade_mapper/cascademapper/model/ValueTypeWholeNumberPinLaw"), (0, u "pick"), (0, u "(I)Lcom/example/cascade_mapper/cascademapper/model/ValueType;"), (0, .methodref 8 48), (0, .nameAndType 49 50), (0, u "wholeNumber"), (0, u "()Z"), (0, .methodref 42 52), (0, .nameAndType 53 54), (0, u "expected"), (0, u "(I)Z"), (3, u "law")] 2

def k1m0 : Method := { name := "<init>", desc := "()V", sig := { parameters := [], returnType := none }, accessFlags := 1, code := none }
def k1c1 : Code := { maxStack := 2, maxLocals := 1, code := method_2_code, exceptionTable := #[], attributes := #[] }
def k1m1 : Method := { name := "pick", desc := "(I)Lcom/example/cascade_mapper/cascademapper/model/ValueType;", sig := { parameters := [.int], returnType := some (.object "com/example/cascade_mapper/cascademapper/model/ValueType") }, accessFlags := 10, code := some k1c1 }
def k1c2 : Code := { maxStack := 2, maxLocals := 1, code := method_3_code, exceptionTable := #[], attributes := #[] }
def k1m2 : Method := { name := "expected", desc := "(I)Z", sig := { parameters := [.int], returnType := some .boolean }, accessFlags := 10, code := some k1c2 }
def k1c3 : Code := { maxStack := 2, maxLocals := 3, code := code, exceptionTable := #[], attributes := #[] }
def k1m3 : Method := { name := "law", desc := "(I)Z", sig := { parameters := [.int], returnType := some .boolean }, accessFlags := 9, code := some k1c3 }
/-- com/example/cascade_mapper/cascademapper/model/ValueTypeWholeNumberPinLaw -/
def k1 : Class := { plain "com/example/cascade_mapper/cascademapper/model/ValueTypeWholeNumberPinLaw" (some 0) with
  accessFlags := 49
  interfaces := #[]
  cf := some (fileOf pool1 42 #[] #[{ accessFlags := 1, nameIndex := 5, descriptorIndex := 6, attributes := #[] }, { accessFlags := 10, nameIndex := 45, descriptorIndex := 46, attributes := #[] }, { accessFlags := 10, nameIndex := 53, descriptorIndex := 54, attributes := #[] }, { accessFlags := 9, nameIndex := 58, descriptorIndex := 54, attributes := #[] }] 49 2 #[] #[])
  fields := #[]
  methods := #[k1m0, k1m1, k1m2, k1m3]
  instanceTypes := #[]
  staticTypes := #[]
  resolved := Array.replicate 61 none
  statics := none }

def pool2 : Array CpInfo := pool [(1, .class_ 2), (0, u "java/lang/constant/Constable"), (0, .class_ 4), (0, u "java/lang/Object")] 6

/-- java/lang/constant/Constable -/
def k2 : Class := { plain "java/lang/constant/Constable" (some 0) with
  accessFlags := 1537
  interfaces := #[]
  cf := some (fileOf pool2 1 #[] #[] 1537 3 #[] #[])
  fields := #[]
  methods := #[]
  instanceTypes := #[]
  staticTypes := #[]
  resolved := Array.replicate 11 none
  statics := none }

def pool3 : Array CpInfo := pool [(1, .class_ 2), (0, u "java/lang/Comparable"), (0, .class_ 4), (0, u "java/lang/Object")] 7

/-- java/lang/Comparable -/
def k3 : Class := { plain "java/lang/Comparable" (some 0) with
  accessFlags := 1537
  interfaces := #[]
  cf := some (fileOf pool3 1 #[] #[] 1537 3 #[] #[])
  fields := #[]
  methods := #[]
  instanceTypes := #[]
  staticTypes := #[]
  resolved := Array.replicate 12 none
  statics := none }

def pool4 : Array CpInfo := pool [(1, .class_ 2), (0, u "java/io/Serializable"), (0, .class_ 4), (0, u "java/lang/Object")] 2

/-- java/io/Serializable -/
def k4 : Class := { plain "java/io/Serializable" (some 0) with
  accessFlags := 1537
  interfaces := #[]
  cf := some (fileOf pool4 1 #[] #[] 1537 3 #[] #[])
  fields := #[]
  methods := #[]
  instanceTypes := #[]
  staticTypes := #[]
  resolved := Array.replicate 7 none
  statics := none }

def pool5 : Array CpInfo := pool [(2, .class_ 4), (1, u "java/lang/Enum"), (0, u "name"), (0, u "Ljava/lang/String;"), (2, u "ordinal"), (0, u "I"), (1, .class_ 14), (1, u "java/lang/Object"), (4, u "hash"), (86, .class_ 108), (1, u "java/lang/Enum$EnumDesc"), (2, .class_ 112), (0, u "java/lang/constant/Constable"), (0, .class_ 114), (0, u "java/lang/Comparable"), (0, .class_ 116), (0, u "java/io/Serializable")] 87

/-- java/lang/Enum -/
def k5 : Class := { plain "java/lang/Enum" (some 0) with
  accessFlags := 1057
  interfaces := #[2, 3, 4]
  cf := some (fileOf pool5 2 #[.nestMembers #[106]] #[] 1057 12 #[111, 113, 115] #[{ accessFlags := 18, nameIndex := 5, descriptorIndex := 6, attributes := #[] }, { accessFlags := 18, nameIndex := 9, descriptorIndex := 10, attributes := #[] }, { accessFlags := 2, nameIndex := 19, descriptorIndex := 10, attributes := #[] }])
  fields := #[{ name := "name", type := (.object "java/lang/String"), accessFlags := 18, slot := 0, constantValue := 0 }, { name := "ordinal", type := .int, accessFlags := 18, slot := 1, constantValue := 0 }, { name := "hash", type := .int, accessFlags := 2, slot := 2, constantValue := 0 }]
  methods := #[]
  instanceTypes := #[(.object "java/lang/String"), .int, .int]
  staticTypes := #[]
  resolved := Array.replicate 204 none
  statics := none }

def pool6 : Array CpInfo := pool [(1, .class_ 2), (0, u "com/example/cascade_mapper/cascademapper/model/ValueType"), (2, u "STRING"), (0, u "Lcom/example/cascade_mapper/cascademapper/model/ValueType;"), (0, .fieldref 1 8), (0, .nameAndType 9 6), (0, u "LONG"), (0, .fieldref 1 11), (0, .nameAndType 12 6), (0, u "INT"), (0, .fieldref 1 14), (0, .nameAndType 15 6), (0, u "SHORT"), (2, u "DOUBLE"), (2, u "FLOAT"), (2, u "BOOLEAN"), (2, u "CHAR"), (2, u "LOCAL_DATE"), (2, u "INSTANT"), (2, u "$VALUES"), (0, u "[Lcom/example/cascade_mapper/cascademapper/model/ValueType;"), (6, .class_ 46), (1, u "java/lang/Enum"), (8, u "typeName"), (0, u "Ljava/lang/String;"), (2, u "javaType"), (0, u "Ljava/lang/Class;"), (2, u "primitiveType"), (29, u "BY_JAVA_TYPE"), (0, u "Ljava/util/Map;"), (6, u "BY_NAME"), (140, u "wholeNumber"), (0, u "()Z")] 45

def k6c0 : Code := { maxStack := 2, maxLocals := 1, code := prog_89_method_13_code, exceptionTable := #[], attributes := #[] }
def k6m0 : Method := { name := "wholeNumber", desc := "()Z", sig := { parameters := [], returnType := some .boolean }, accessFlags := 1, code := some k6c0 }
/-- com/example/cascade_mapper/cascademapper/model/ValueType -/
def k6 : Class := { plain "com/example/cascade_mapper/cascademapper/model/ValueType" (some 5) with
  accessFlags := 16433
  interfaces := #[]
  cf := some (fileOf pool6 1 #[] #[{ accessFlags := 1, nameIndex := 242, descriptorIndex := 243, attributes := #[] }] 16433 44 #[] #[{ accessFlags := 16409, nameIndex := 5, descriptorIndex := 6, attributes := #[] }, { accessFlags := 16409, nameIndex := 9, descriptorIndex := 6, attributes := #[] }, { accessFlags := 16409, nameIndex := 12, descriptorIndex := 6, attributes := #[] }, { accessFlags := 16409, nameIndex := 15, descriptorIndex := 6, attributes := #[] }, { accessFlags := 16409, nameIndex := 18, descriptorIndex := 6, attributes := #[] }, { accessFlags := 16409, nameIndex := 21, descriptorIndex := 6, attributes := #[] }, { accessFlags := 16409, nameIndex := 24, descriptorIndex := 6, attributes := #[] }, { accessFlags := 16409, nameIndex := 27, descriptorIndex := 6, attributes := #[] }, { accessFlags := 16409, nameIndex := 30, descriptorIndex := 6, attributes := #[] }, { accessFlags := 16409, nameIndex := 33, descriptorIndex := 6, attributes := #[] }, { accessFlags := 26, nameIndex := 93, descriptorIndex := 94, attributes := #[] }, { accessFlags := 26, nameIndex := 101, descriptorIndex := 94, attributes := #[] }, { accessFlags := 18, nameIndex := 55, descriptorIndex := 56, attributes := #[] }, { accessFlags := 18, nameIndex := 59, descriptorIndex := 60, attributes := #[] }, { accessFlags := 18, nameIndex := 63, descriptorIndex := 60, attributes := #[] }, { accessFlags := 4122, nameIndex := 36, descriptorIndex := 37, attributes := #[] }])
  fields := #[{ name := "STRING", type := (.object "com/example/cascade_mapper/cascademapper/model/ValueType"), accessFlags := 16409, slot := 0, constantValue := 0 }, { name := "LONG", type := (.object "com/example/cascade_mapper/cascademapper/model/ValueType"), accessFlags := 16409, slot := 1, constantValue := 0 }, { name := "INT", type := (.object "com/example/cascade_mapper/cascademapper/model/ValueType"), accessFlags := 16409, slot := 2, constantValue := 0 }, { name := "SHORT", type := (.object "com/example/cascade_mapper/cascademapper/model/ValueType"), accessFlags := 16409, slot := 3, constantValue := 0 }, { name := "DOUBLE", type := (.object "com/example/cascade_mapper/cascademapper/model/ValueType"), accessFlags := 16409, slot := 4, constantValue := 0 }, { name := "FLOAT", type := (.object "com/example/cascade_mapper/cascademapper/model/ValueType"), accessFlags := 16409, slot := 5, constantValue := 0 }, { name := "BOOLEAN", type := (.object "com/example/cascade_mapper/cascademapper/model/ValueType"), accessFlags := 16409, slot := 6, constantValue := 0 }, { name := "CHAR", type := (.object "com/example/cascade_mapper/cascademapper/model/ValueType"), accessFlags := 16409, slot := 7, constantValue := 0 }, { name := "LOCAL_DATE", type := (.object "com/example/cascade_mapper/cascademapper/model/ValueType"), accessFlags := 16409, slot := 8, constantValue := 0 }, { name := "INSTANT", type := (.object "com/example/cascade_mapper/cascademapper/model/ValueType"), accessFlags := 16409, slot := 9, constantValue := 0 }, { name := "BY_JAVA_TYPE", type := (.object "java/util/Map"), accessFlags := 26, slot := 10, constantValue := 0 }, { name := "BY_NAME", type := (.object "java/util/Map"), accessFlags := 26, slot := 11, constantValue := 0 }, { name := "typeName", type := (.object "java/lang/String"), accessFlags := 18, slot := 3, constantValue := 0 }, { name := "javaType", type := (.object "java/lang/Class"), accessFlags := 18, slot := 4, constantValue := 0 }, { name := "primitiveType", type := (.object "java/lang/Class"), accessFlags := 18, slot := 5, constantValue := 0 }, { name := "$VALUES", type := (.array (.object "com/example/cascade_mapper/cascademapper/model/ValueType")), accessFlags := 4122, slot := 12, constantValue := 0 }]
  methods := #[k6m0]
  instanceTypes := #[(.object "java/lang/String"), .int, .int, (.object "java/lang/String"), (.object "java/lang/Class"), (.object "java/lang/Class")]
  staticTypes := #[(.object "com/example/cascade_mapper/cascademapper/model/ValueType"), (.object "com/example/cascade_mapper/cascademapper/model/ValueType"), (.object "com/example/cascade_mapper/cascademapper/model/ValueType"), (.object "com/example/cascade_mapper/cascademapper/model/ValueType"), (.object "com/example/cascade_mapper/cascademapper/model/ValueType"), (.object "com/example/cascade_mapper/cascademapper/model/ValueType"), (.object "com/example/cascade_mapper/cascademapper/model/ValueType"), (.object "com/example/cascade_mapper/cascademapper/model/ValueType"), (.object "com/example/cascade_mapper/cascademapper/model/ValueType"), (.object "com/example/cascade_mapper/cascademapper/model/ValueType"), (.object "java/util/Map"), (.object "java/util/Map"), (.array (.object "com/example/cascade_mapper/cascademapper/model/ValueType"))]
  resolved := Array.replicate 289 none
  statics := some 0 }

def pool7 : Array CpInfo := pool [(1, u "java/lang/Cloneable"), (0, .class_ 1), (0, u "java/lang/Object"), (0, .class_ 3)] 3

/-- java/lang/Cloneable -/
def k7 : Class := { plain "java/lang/Cloneable" (some 0) with
  accessFlags := 1537
  interfaces := #[]
  cf := some (fileOf pool7 2 #[] #[] 1537 4 #[] #[])
  fields := #[]
  methods := #[]
  instanceTypes := #[]
  staticTypes := #[]
  resolved := Array.replicate 8 none
  statics := none }

/-- the primitive byte -/
def k8 : Class := { plain "byte" none with kind := .primitive 'B', accessFlags := 0x411 }
/-- [B -/
def k9 : Class := { plain "[B" (some 0) with kind := .array 8 .byte, interfaces := #[7, 4], accessFlags := 1041 }

/-- the primitive int -/
def k10 : Class := { plain "int" none with kind := .primitive 'I', accessFlags := 0x411 }
/-- [I -/
def k11 : Class := { plain "[I" (some 0) with kind := .array 10 .int, interfaces := #[7, 4], accessFlags := 1041 }

def heap : Heap := #[{ cls := 6, slots := #[.ref 1, .ref 2, .ref 3, .ref 4, .ref 5, .ref 6, .ref 7, .ref 8, .ref 9, .ref 10, .null, .null, .null], vm := .statics 6 },
  { cls := 6, slots := #[.null, .int 0, .int 0, .null, .null, .null], vm := .none },
  { cls := 6, slots := #[.null, .int 1, .int 0, .null, .null, .null], vm := .none },
  { cls := 6, slots := #[.null, .int 2, .int 0, .null, .null, .null], vm := .none },
  { cls := 6, slots := #[.null, .int 3, .int 0, .null, .null, .null], vm := .none },
  { cls := 6, slots := #[.null, .int 4, .int 0, .null, .null, .null], vm := .none },
  { cls := 6, slots := #[.null, .int 5, .int 0, .null, .null, .null], vm := .none },
  { cls := 6, slots := #[.null, .int 6, .int 0, .null, .null, .null], vm := .none },
  { cls := 6, slots := #[.null, .int 7, .int 0, .null, .null, .null], vm := .none },
  { cls := 6, slots := #[.null, .int 8, .int 0, .null, .null, .null], vm := .none },
  { cls := 6, slots := #[.null, .int 9, .int 0, .null, .null, .null], vm := .none }]
def classes : Array Class := #[k0, k1, k2, k3, k4, k5, k6, k7, k8, k9, k10, k11]
def interned : List (Array UInt16 × Addr) := []
def slotsUsed : Nat := 73
def theMethod : MethodId := ⟨1, 3⟩
def args0 : Array Value := #[.int 5]
def aboutOver (below : List Frame) : State where
  vm := { classes := classes, interned := interned.toArray }
  heap := heap
  slotsUsed := slotsUsed
  threads := #[{ frames := .invoking theMethod args0 :: below }]
def below0 : List Frame := [.native { method := ⟨0, 0⟩, args := #[] }]
def about1 : State := aboutOver below0
def p0 : Program := .bare "" "" ""
def e0 : Env := launch0.env 0 0 0
theorem w_frames : about1.frames = Frame.invoking theMethod args0 :: below0 := rfl
set_option maxRecDepth 65536 in
theorem w_args : argsFit about1.vm theMethod args0 = true := by decide +kernel
set_option maxRecDepth 65536 in
theorem w_heap : heapFits about1 = true := by decide +kernel
set_option maxRecDepth 65536 in
theorem w_runnable : about1.curStatus? = some .runnable := by decide +kernel
set_option maxRecDepth 65536 in
theorem w_alone : about1.alone = true := by decide +kernel
set_option maxRecDepth 65536 in
theorem w_named : about1.methodNamed? x = some theMethod := by decide +kernel
set_option maxRecDepth 65536 in
theorem w_hears : about1.hears theMethod below0 = true := by decide +kernel
set_option maxRecDepth 65536 in
theorem w_ripe : about1.ripe theMethod args0 below0 = true := by decide +kernel
theorem w_running : about1.status = .running := rfl
set_option maxRecDepth 65536 in
theorem w_room : about1.hasRoom e0.platform room_1 = true :=
  launch0.hasRoom_least _ room_1 (by decide +kernel) (by decide +kernel) (by decide +kernel) (by decide +kernel) (by decide +kernel) (by decide +kernel)
theorem allAtoms_all (ts : List Jvm.Cond) (a : Array Jvm.Value) (st : Jvm.State) : (allAtoms ts).before a st = ts.all (fun c => c.before a st) := by
  induction ts with
  | nil => rfl
  | cons c t ih =>
    show (Jvm.Cond.and c (allAtoms t)).before a st = _
    rw [Jvm.Cond.before_and, ih, List.all_cons]
def words1 : List Jvm.Cond := Jvm.Cond.code x code maxLocals ret :: tables_1
/-- a 'code' word, met by the world's own term for the bytes: nothing is compared byte by byte -/
theorem code_word {y : MethodName} {bytes : ByteArray} {mx : Nat} {rt : Option FieldType} {a : Array Value} {s : State} {m : MethodId} {meth : Method} {c : Code} (h1 : s.methodNamed? y = some m) (h2 : s.vm.method? m = some meth) (h3 : meth.code = some c) (h4 : c.code = bytes)
    (h5 : (c.maxLocals == mx && c.exceptionTable.isEmpty && decide (c.maxStack ≤ mostOperands) && decide (meth.sig.returnType = rt) && !meth.locks && decide (parseMethodDescriptor y.desc = some meth.sig)) = true) : (Jvm.Cond.code y bytes mx rt).before a s = true := by
  simp only [Bool.and_eq_true, beq_iff_eq, Bool.not_eq_true', decide_eq_true_eq] at h5
  obtain ⟨⟨⟨⟨⟨g1, g2⟩, g3⟩, g4⟩, g5⟩, g6⟩ := h5
  simp [Cond.before, Cond.holds, Cond.value, h1, h2, h3, h4, g1, g2, g3, g4, g5, g6]
def isCode : Jvm.Cond → Bool
  | .code _ _ _ _ => true
  | _ => false
theorem all_split {L : List Jvm.Cond} {P : Jvm.Cond → Bool} (h1 : L.all (fun c => isCode c || P c) = true) (h2 : ∀ c ∈ L.filter isCode, P c = true) : L.all P = true := by
  refine List.all_eq_true.mpr fun c hc => ?_
  have h := List.all_eq_true.mp h1 c hc
  rcases Bool.eq_false_or_eq_true (isCode c) with hi | hi
  · exact h2 c (List.mem_filter.mpr ⟨hc, hi⟩)
  · simpa [hi] using h
set_option maxRecDepth 65536 in
theorem w_c0 : (Jvm.Cond.code x code maxLocals ret).before args0 about1 = true := code_word (m := ⟨1, 3⟩) (meth := k1m3) (c := k1c3) (by decide +kernel) rfl rfl rfl (by decide +kernel)
set_option maxRecDepth 65536 in
theorem w_c1 : (Jvm.Cond.code ({ cls := "com/example/cascade_mapper/cascademapper/model/ValueTypeWholeNumberPinLaw", name := "pick", desc := "(I)Lcom/example/cascade_mapper/cascademapper/model/ValueType;" } : Jvm.MethodName) method_2_code (1 : Nat) (Option.some (Jvm.ClassFile.FieldType.object "com/example/cascade_mapper/cascademapper/model/ValueType"))).before args0 about1 = true := code_word (m := ⟨1, 1⟩) (meth := k1m1) (c := k1c1) (by decide +kernel) rfl rfl rfl (by decide +kernel)
set_option maxRecDepth 65536 in
theorem w_c2 : (Jvm.Cond.code ({ cls := "com/example/cascade_mapper/cascademapper/model/ValueType", name := "wholeNumber", desc := "()Z" } : Jvm.MethodName) prog_89_method_13_code (1 : Nat) (Option.some Jvm.ClassFile.FieldType.boolean)).before args0 about1 = true := code_word (m := ⟨6, 0⟩) (meth := k6m0) (c := k6c0) (by decide +kernel) rfl rfl rfl (by decide +kernel)
set_option maxRecDepth 65536 in
theorem w_c3 : (Jvm.Cond.code ({ cls := "com/example/cascade_mapper/cascademapper/model/ValueTypeWholeNumberPinLaw", name := "expected", desc := "(I)Z" } : Jvm.MethodName) method_3_code (1 : Nat) (Option.some Jvm.ClassFile.FieldType.boolean)).before args0 about1 = true := code_word (m := ⟨1, 2⟩) (meth := k1m2) (c := k1c2) (by decide +kernel) rfl rfl rfl (by decide +kernel)
def codes1 : List Jvm.Cond := [Jvm.Cond.code x code maxLocals ret, Jvm.Cond.code ({ cls := "com/example/cascade_mapper/cascademapper/model/ValueTypeWholeNumberPinLaw", name := "pick", desc := "(I)Lcom/example/cascade_mapper/cascademapper/model/ValueType;" } : Jvm.MethodName) method_2_code (1 : Nat) (Option.some (Jvm.ClassFile.FieldType.object "com/example/cascade_mapper/cascademapper/model/ValueType")), Jvm.Cond.code ({ cls := "com/example/cascade_mapper/cascademapper/model/ValueType", name := "wholeNumber", desc := "()Z" } : Jvm.MethodName) prog_89_method_13_code (1 : Nat) (Option.some Jvm.ClassFile.FieldType.boolean), Jvm.Cond.code ({ cls := "com/example/cascade_mapper/cascademapper/model/ValueTypeWholeNumberPinLaw", name := "expected", desc := "(I)Z" } : Jvm.MethodName) method_3_code (1 : Nat) (Option.some Jvm.ClassFile.FieldType.boolean)]
set_option maxRecDepth 65536 in
theorem codes_eq : words1.filter isCode = codes1 := rfl
theorem w_codes : ∀ c ∈ words1.filter isCode, c.before args0 about1 = true := by
  rw [codes_eq]
  intro c hc
  simp only [codes1, List.mem_cons, List.not_mem_nil, or_false] at hc
  rcases hc with rfl | rfl | rfl | rfl
  · exact w_c0
  · exact w_c1
  · exact w_c2
  · exact w_c3
set_option maxRecDepth 65536 in
theorem w_t1 : (words1.take 24).all (fun c => isCode c || c.before args0 about1) = true := by decide +kernel
set_option maxRecDepth 65536 in
theorem w_t2 : (words1.drop 24).all (fun c => isCode c || c.before args0 about1) = true := by decide +kernel
theorem w_tables : (allAtoms (Jvm.Cond.code x code maxLocals ret :: tables_1)).before args0 about1 = true := by
  rw [allAtoms_all]
  show words1.all (fun c => c.before args0 about1) = true
  refine all_split ?_ w_codes
  rw [← List.take_append_drop 24 words1, List.all_append, w_t1, w_t2]
  rfl
set_option maxRecDepth 65536 in
theorem w_case : (Jvm.Cond.and given_1 narrow_1).before args0 about1 = true := by decide +kernel
theorem w_applies : (headSpec (Jvm.Cond.code x code maxLocals ret :: tables_1) room_1).applies x e0.platform about1 = true :=
  (Spec.applies_iff w_frames).mpr ⟨w_running, w_runnable, w_alone, w_named, w_hears, w_ripe, w_room, w_tables⟩
theorem atStart : AtStart classFile x code maxLocals ret World_1 tables_1 room_1 Calls_1 rest_1 Pre_1 launch0 p0 e0 about1 theMethod args0 below0 :=
  ⟨lists_1, trivial, launch0.admits_env _ _ _, launch0.least_env, fairChoices_fair.cas, fairChoices_fair.clock, w_frames, w_args, w_heap, w_applies, trivial, trivial, w_case⟩
end start1
theorem witness_1 : WitnessClaimed_1 := ⟨start1.p0, start1.e0, start1.about1, start1.theMethod, start1.args0, start1.below0, start1.atStart⟩
end Jvm.Pilot.@@N@@
