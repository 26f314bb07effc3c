import JvmDerived
import JvmDerived.Pilot.@@N@@Statement
import JvmDerived.Pilot.@@N@@Code
set_option linter.unusedVariables false
set_option linter.unusedSimpArgs false
namespace Jvm.RoadKit
open Sem ClassFile Op Lib Jvm.Stand Jvm.Free Jvm.LawKit
/-! own_: walks written forward: 'Goes P T g': from the frame g at T the run comes to a state that P takes. -/
def Goes (p : Program) (e : Env) (below : List Frame) (P : State → Prop) (T : State) (g : JFrame) : Prop := ∃ t, Steps p.tables e below (T.setTop g) t ∧ P t
/-- how a body ends: it returned v, and Q holds of v, the heap and the places written -/
def Fin1 (below : List Frame) (s : State) (rm : Room) (Q : Option Value → Heap → List Loc → Prop) (t : State) : Prop :=
  ∃ o, t.status = .running ∧ Ended t below o ∧ ∃ v L, o = .returned v ∧ Q v t.heap L ∧ FrameEnd s o t L rm.cells rm.slots
/-- a body's contract -/
def Does (l : Launch) (y : MethodName) (bytes : ByteArray) (maxL : Nat) (ret : Option FieldType) (ws : List Cond) (rm : Room) (Z : State) (as' : Array Value) (h : Heap) (Q : Option Value → Heap → List Loc → Prop) : Prop :=
  MetFree l y (head1 (Cond.code y bytes maxL ret :: ws) rm) (fun a U => a = as' ∧ Z.Warmed39 U.vm ∧ U.heap = h) (fun _ _ _ _ _ => True) (fun _ U o U' => ∃ v L, o = .returned v ∧ Q v U'.heap L ∧ FrameEnd U o U' L rm.cells rm.slots)
section Own
variable {p : Program} {l : Launch} {e : Env} {R : Room} {s : State} {m : MethodId} {args : Array Value} {below : List Frame} {meth : Method} {c : Code} {T T' : State} {locs : List Loc} {cells slots : Nat} {Z : State} {a0 : Array Value} {h h' : Heap} {g g' : JFrame} {P : State → Prop}
theorem Goes.by (st : ∀ target, Steps p.tables e below (T'.setTop g') target → Steps p.tables e below (T.setTop g) target) (k : Goes p e below P T' g') : Goes p e below P T g := by
  obtain ⟨t, h1, h2⟩ := k
  exact ⟨t, st _ h1, h2⟩
theorem Goes.cast (q : g = g') (k : Goes p e below P T g') : Goes p e below P T g := q ▸ k
theorem Does.of {y : MethodName} {bytes : ByteArray} {maxL : Nat} {ret : Option FieldType} {ws : List Cond} {rm : Room} {as' : Array Value} {Q : Option Value → Heap → List Loc → Prop} (hp : plainFor y = true)
    (body : ∀ (p : Program) (e : Env) (s : State) (m : MethodId) (below : List Frame) (meth : Method) (c : Code) (s₁ : State), p.tables.exec = Jvm.exec → c.code = bytes → c.maxLocals = maxL → meth.sig.returnType = ret → meth.locks = false → Z.Warmed39 s.vm → s.vm.findClass y.cls = some m.cls → meth.name = y.name → Stand p l e rm s m as' below meth c s₁ [] 0 0 → s₁.heap = h →
      Goes p e below (Fin1 below s rm Q) s₁ (entryFrame m as' maxL)) : Does l y bytes maxL ret ws rm Z as' h Q := by
  refine MetFree.of_bodySF hp hisR ?_
  intro p e s m args below meth c s₁ Bd hml0 hP hK
  obtain ⟨rfl, hZ, hh⟩ := hP
  have e0 : s₁.heap = h := by rw [← hh, Bd.state]; rfl
  obtain ⟨t, h1, o, h2⟩ := body p e s m below meth c s₁ Bd.exec Bd.bytes hml0 Bd.returns Bd.notSynchronized hZ (findClass_of_methodNamed Bd.named) ((name_of_methodNamed Bd.named Bd.method).1) (Stand.of_body Bd) e0
  exact ⟨t, o, h1, h2⟩
theorem fin_of {rm : Room} {Q : Option Value → Heap → List Loc → Prop} {v : Option Value} (X : Stand p l e R s m args below meth c T locs cells slots) (hlk : meth.locks = false) (hv : meth.sig.returnType = none → v = none) (hQ : Q v T.heap locs) (hc : cells ≤ rm.cells) (hs : slots ≤ rm.slots)
    (st : ∀ fs, (∀ (f : JFrame) (acts : List Action), f.method = m → f.locked = none → f.entered = [] → (doReturn e (T.setTop f) acts v).1 = T.setFrames fs) → Steps p.tables e below (T.setTop g) (T.setFrames fs)) : Goes p e below (Fin1 below s rm Q) T g := by
  obtain ⟨fs, hr, hrun, hended, hW, hsame⟩ := X.leave (v := v) hv hlk
  exact ⟨_, st fs hr, _, hrun, hended, _, _, rfl, hQ, ⟨_, rfl⟩, hW, hsame.mono hc hs⟩
theorem outV {rm : Room} {Q : Option Value → Heap → List Loc → Prop} {pc : Nat} {Ls : Array Slot} (X : Stand p l e R s m args below meth c T locs cells slots) (hx : p.tables.exec = Jvm.exec) (hlk : meth.locks = false) (hret : meth.sig.returnType = none) (hd : decode c.code pc = .ok (.return_, 1)) (hQ : Q none T.heap locs) (hc : cells ≤ rm.cells) (hs : slots ≤ rm.slots) : Goes p e below (Fin1 below s rm Q) T (mkF m pc Ls []) :=
  fin_of X hlk (fun _ => rfl) hQ hc hs fun fs hr => X.returnOut hx hret hd hr
theorem outZ {rm : Room} {Q : Option Value → Heap → List Loc → Prop} {pc : Nat} {Ls : Array Slot} {z : Int32} {rest : List Value} (X : Stand p l e R s m args below meth c T locs cells slots) (hx : p.tables.exec = Jvm.exec) (hlk : meth.locks = false) (hret : meth.sig.returnType = some .boolean) (hd : decode c.code pc = .ok (.ireturn, 1)) (hQ : Q (some (.int (nar .boolean z))) T.heap locs) (hc : cells ≤ rm.cells) (hs : slots ≤ rm.slots) : Goes p e below (Fin1 below s rm Q) T (mkF m pc Ls (.int z :: rest)) :=
  fin_of X hlk (fun h => by rw [hret] at h; cases h) hQ hc hs fun fs hr => retN X hx (t := .boolean) hret (by simp) hd hr
theorem outO {rm : Room} {Q : Option Value → Heap → List Loc → Prop} {pc : Nat} {Ls : Array Slot} {w : Value} {t : FieldType} {i : Instr} {rest : List Value} (X : Stand p l e R s m args below meth c T locs cells slots) (hx : p.tables.exec = Jvm.exec) (hlk : meth.locks = false) (hret : meth.sig.returnType = some t) (hn : narrow t w = w)
    (hi : (i = .ireturn ∧ (t = .int ∨ t = .boolean ∨ t = .byte ∨ t = .char ∨ t = .short) ∧ ∃ z, w = .int z) ∨ (i = .lreturn ∧ t = .long ∧ ∃ z, w = .long z) ∨ (i = .dreturn ∧ t = .double ∧ ∃ z, w = .double z) ∨ (i = .freturn ∧ t = .float ∧ ∃ z, w = .float z) ∨ (i = .areturn ∧ t.isReference = true ∧ w.isRef = true))
    (hd : decode c.code pc = .ok (i, 1)) (hQ : Q (some w) T.heap locs) (hc : cells ≤ rm.cells) (hs : slots ≤ rm.slots) : Goes p e below (Fin1 below s rm Q) T (mkF m pc Ls (w :: rest)) :=
  fin_of X hlk (fun h => by rw [hret] at h; cases h) hQ hc hs fun fs hr => retOut X hx hret hn hi hd hr
theorem outI {rm : Room} {Q : Option Value → Heap → List Loc → Prop} {pc : Nat} {Ls : Array Slot} {z : Int32} {rest : List Value} (X : Stand p l e R s m args below meth c T locs cells slots) (hx : p.tables.exec = Jvm.exec) (hlk : meth.locks = false) (hret : meth.sig.returnType = some .int) (hd : decode c.code pc = .ok (.ireturn, 1)) (hQ : Q (some (.int z)) T.heap locs) (hc : cells ≤ rm.cells) (hs : slots ≤ rm.slots) : Goes p e below (Fin1 below s rm Q) T (mkF m pc Ls (.int z :: rest)) :=
  outO X hx hlk hret rfl (Or.inl ⟨rfl, Or.inl rfl, _, rfl⟩) hd hQ hc hs
theorem outJ {rm : Room} {Q : Option Value → Heap → List Loc → Prop} {pc : Nat} {Ls : Array Slot} {z : Int64} {rest : List Value} (X : Stand p l e R s m args below meth c T locs cells slots) (hx : p.tables.exec = Jvm.exec) (hlk : meth.locks = false) (hret : meth.sig.returnType = some .long) (hd : decode c.code pc = .ok (.lreturn, 1)) (hQ : Q (some (.long z)) T.heap locs) (hc : cells ≤ rm.cells) (hs : slots ≤ rm.slots) : Goes p e below (Fin1 below s rm Q) T (mkF m pc Ls (.long z :: rest)) :=
  outO X hx hlk hret rfl (Or.inr (Or.inl ⟨rfl, rfl, _, rfl⟩)) hd hQ hc hs
theorem outD {rm : Room} {Q : Option Value → Heap → List Loc → Prop} {pc : Nat} {Ls : Array Slot} {z : UInt64} {rest : List Value} (X : Stand p l e R s m args below meth c T locs cells slots) (hx : p.tables.exec = Jvm.exec) (hlk : meth.locks = false) (hret : meth.sig.returnType = some .double) (hd : decode c.code pc = .ok (.dreturn, 1)) (hQ : Q (some (.double z)) T.heap locs) (hc : cells ≤ rm.cells) (hs : slots ≤ rm.slots) : Goes p e below (Fin1 below s rm Q) T (mkF m pc Ls (.double z :: rest)) :=
  outO X hx hlk hret rfl (Or.inr (Or.inr (Or.inl ⟨rfl, rfl, _, rfl⟩))) hd hQ hc hs
theorem outA {rm : Room} {Q : Option Value → Heap → List Loc → Prop} {pc : Nat} {Ls : Array Slot} {w : Value} {t : FieldType} {rest : List Value} (X : Stand p l e R s m args below meth c T locs cells slots) (hx : p.tables.exec = Jvm.exec) (hlk : meth.locks = false) (hret : meth.sig.returnType = some t) (ht : t.isReference = true) (hw : w.isRef = true) (hn : narrow t w = w) (hd : decode c.code pc = .ok (.areturn, 1)) (hQ : Q (some w) T.heap locs) (hc : cells ≤ rm.cells) (hs : slots ≤ rm.slots) : Goes p e below (Fin1 below s rm Q) T (mkF m pc Ls (w :: rest)) :=
  outO X hx hlk hret hn (Or.inr (Or.inr (Or.inr (Or.inr ⟨rfl, ht, hw⟩)))) hd hQ hc hs
/-! calls by a contract -/
theorem callI (X : Stand p l e R s m args below meth c T locs cells slots) (hx : p.tables.exec = Jvm.exec) (hZ : Z.Warmed39 s.vm) {own : String} {index : Nat} {y : MethodName} (hy1 : y.name = "<init>") (hown : s.vm.findClass own = some m.cls) {bytes : ByteArray} {maxL : Nat} {rm : Room}
    (w1 : (Cond.methodLink own index y).before a0 Z = true) (w2 : (Cond.instanceMethod y).before a0 Z = true) (w3 : (Cond.code y bytes maxL none).before a0 Z = true) (w4 : (Cond.initialized y.cls).before a0 Z = true) (hy : y.cls ≠ "java/lang/invoke/MethodHandle" ∧ y.cls ≠ "java/lang/invoke/VarHandle")
    (eT : T.heap = h) {a : Addr} {argsL rest : List Value} {as' : Array Value} {Q : Option Value → Heap → List Loc → Prop} {W : Nat} (hM : Does l y bytes maxL none [] rm Z as' h Q) (has : (.ref a :: argsL).toArray = as') (hf : rm.frames + 1 ≤ R.frames) (hl : W + (maxL + 11) + rm.locals ≤ R.locals)
    (hcc : cells + rm.cells ≤ R.cells) (hss : slots + rm.slots ≤ R.slots) {g : JFrame} (hg : g.method = m) (hsize : g.locals.size = c.maxLocals) (hlen : ∀ sig, parseMethodDescriptor y.desc = some sig → argsL.length = sig.parameters.length) (hst : g.stack = argsL.reverse ++ .ref a :: rest) (hW : 2 * g.monitorRoom + (rest.map fun v => v.category).sum ≤ W) (hd : decode c.code g.pc = .ok (.invokespecial index, 3)) :
    ∃ v T' L, Stand p l e R s m args below meth c T' (locs ++ L) (cells + rm.cells) (slots + rm.slots) ∧ Q v T'.heap L ∧ ∀ target, Steps p.tables e below (T'.setTop { g with pc := g.pc + 3, stack := v.toList ++ rest }) target → Steps p.tables e below (T.setTop g) target := by
  obtain ⟨v, vm1, ⟨T', L', k', n'⟩, -, X', ⟨L, hQ, e1, e2, e3⟩, st⟩ := X.specialBack hx (y := y) hy1 hown (mvT hZ w1) (mvT hZ w2) (mvT hZ w3) hy (backOf (W := W) hM hZ w3 w4 hf hl) hg hsize (Steps.refl _) hlen hst hW hd (fun _ _ => ⟨has, eT, hcc, hss⟩)
  dsimp only [Pt.U, Pt.locs, Pt.cells, Pt.slots] at X' e1 e2 e3 st hQ
  subst e1 e2 e3
  exact ⟨v, T', L, X', hQ, fun t k => st.trans k⟩
theorem callV (X : Stand p l e R s m args below meth c T locs cells slots) (hx : p.tables.exec = Jvm.exec) (hZ : Z.Warmed39 s.vm) {own C : String} {index : Nat} {y : MethodName} (hown : s.vm.findClass own = some m.cls) {bytes : ByteArray} {maxL : Nat} {ret : Option FieldType} {rm : Room}
    (w1 : (Cond.methodLink own index y).before a0 Z = true) (w2 : (Cond.declares y).before a0 Z = true) (w3 : (Cond.selects C y y).before a0 Z = true) (w4 : (Cond.instanceMethod y).before a0 Z = true) (w5 : (Cond.code y bytes maxL ret).before a0 Z = true) (w6 : (Cond.initialized y.cls).before a0 Z = true) (hy : y.cls ≠ "java/lang/invoke/MethodHandle" ∧ y.cls ≠ "java/lang/invoke/VarHandle")
    (eT : T.heap = h) {a : Addr} (E : Exa Z h a C) {argsL rest : List Value} {as' : Array Value} {Q : Option Value → Heap → List Loc → Prop} {W : Nat} (hM : Does l y bytes maxL ret [] rm Z as' h Q) (has : (.ref a :: argsL).toArray = as') (hf : rm.frames + 1 ≤ R.frames) (hl : W + (maxL + 11) + rm.locals ≤ R.locals)
    (hcc : cells + rm.cells ≤ R.cells) (hss : slots + rm.slots ≤ R.slots) {g : JFrame} (hg : g.method = m) (hsize : g.locals.size = c.maxLocals) (hlen : ∀ sig, parseMethodDescriptor y.desc = some sig → argsL.length = sig.parameters.length) (hst : g.stack = argsL.reverse ++ .ref a :: rest) (hW : 2 * g.monitorRoom + (rest.map fun v => v.category).sum ≤ W) (hd : decode c.code g.pc = .ok (.invokevirtual index, 3)) :
    ∃ v T' L, Stand p l e R s m args below meth c T' (locs ++ L) (cells + rm.cells) (slots + rm.slots) ∧ Q v T'.heap L ∧ ∀ target, Steps p.tables e below (T'.setTop { g with pc := g.pc + 3, stack := v.toList ++ rest }) target → Steps p.tables e below (T.setTop g) target := by
  obtain ⟨cB, kB, q1, q2, q3⟩ := isOf hZ eT E
  obtain ⟨v, vm1, ⟨T', L', k', n'⟩, -, X', ⟨L, hQ, e1, e2, e3⟩, st⟩ := X.virtualBack hx (y := y) (z := y) hown (mvT hZ w1) (mvT hZ w2) (notFace_of_selects (args := args) (mvT hZ w3)) (mvT hZ w3) (mvT hZ w4) hy (backOf (W := W) hM hZ w5 w6 hf hl) q1 q3 hg hsize (Steps.refl _) hlen hst hW hd (fun _ _ => ⟨has, eT, hcc, hss⟩)
  dsimp only [Pt.U, Pt.locs, Pt.cells, Pt.slots] at X' e1 e2 e3 st hQ
  subst e1 e2 e3
  exact ⟨v, T', L, X', hQ, fun t k => st.trans k⟩
theorem callC (X : Stand p l e R s m args below meth c T locs cells slots) (hx : p.tables.exec = Jvm.exec) (hZ : Z.Warmed39 s.vm) {own : String} {index : Nat} {y : MethodName} (hown : s.vm.findClass own = some m.cls) {bytes : ByteArray} {maxL : Nat} {ret : Option FieldType} {rm : Room}
    (w1 : (Cond.methodLink own index y).before a0 Z = true) (w2 : (Cond.static y).before a0 Z = true) (w3 : (Cond.code y bytes maxL ret).before a0 Z = true) (w4 : (Cond.initialized y.cls).before a0 Z = true) (hy : y.cls ≠ "java/lang/invoke/MethodHandle" ∧ y.cls ≠ "java/lang/invoke/VarHandle")
    (eT : T.heap = h) {argsL rest : List Value} {as' : Array Value} {Q : Option Value → Heap → List Loc → Prop} {W : Nat} (hM : Does l y bytes maxL ret [] rm Z as' h Q) (has : argsL.toArray = as') (hf : rm.frames + 1 ≤ R.frames) (hl : W + (maxL + 11) + rm.locals ≤ R.locals)
    (hcc : cells + rm.cells ≤ R.cells) (hss : slots + rm.slots ≤ R.slots) {g : JFrame} (hg : g.method = m) (hsize : g.locals.size = c.maxLocals) (hlen : ∀ sig, parseMethodDescriptor y.desc = some sig → argsL.length = sig.parameters.length) (hst : g.stack = argsL.reverse ++ rest) (hW : 2 * g.monitorRoom + (rest.map fun v => v.category).sum ≤ W) (hd : decode c.code g.pc = .ok (.invokestatic index, 3)) :
    ∃ v T' L, Stand p l e R s m args below meth c T' (locs ++ L) (cells + rm.cells) (slots + rm.slots) ∧ Q v T'.heap L ∧ ∀ target, Steps p.tables e below (T'.setTop { g with pc := g.pc + 3, stack := v.toList ++ rest }) target → Steps p.tables e below (T.setTop g) target := by
  obtain ⟨v, vm1, ⟨T', L', k', n'⟩, -, X', ⟨L, hQ, e1, e2, e3⟩, st⟩ := Jvm.LawKit.callS X hx (y := y) hown (mvT hZ w1) (mvT hZ w2) (mvT hZ w4) (mvT hZ w3) hy (backOf (W := W) hM hZ w3 w4 hf hl) hg hsize hlen hst hW hd (fun _ _ => ⟨has, eT, hcc, hss⟩)
  dsimp only [Pt.U, Pt.locs, Pt.cells, Pt.slots] at X' e1 e2 e3 st hQ
  subst e1 e2 e3
  exact ⟨v, T', L, X', hQ, st⟩
end Own
end Jvm.RoadKit
namespace Jvm.Free.XS
open Sem ClassFile Op Lib
theorem lcmpS {tb : Tables} [Ours tb] {e : Env} {below : List Frame} {T target : State} {m : MethodId} {c : Code} {g : JFrame} (h : At T m c below) (hx : tb.exec = Jvm.exec) (hg : g.method = m) {x y : Int64} {v : Int32} {rest : List Value} (hd : decode c.code g.pc = .ok (.lcmp, 1)) (hs : g.stack = .long y :: .long x :: rest) (hv : Jvm.RoadKit.lcmpW x y = v)
    (hr : Steps tb e below (T.setTop { g with pc := g.pc + 1, stack := .int v :: rest }) target) : Steps tb e below (T.setTop g) target := by
  subst hv
  exact lcmp h hx hg hd hs hr
end Jvm.Free.XS
namespace Jvm.RoadKit
open Sem ClassFile Op Lib Jvm.Stand Jvm.Free Jvm.LawKit Jvm.FP Jvm.Free.Fl
section OwnD
theorem own_cmp (i j : Int) : compare i j = if i < j then Ordering.lt else if i = j then Ordering.eq else Ordering.gt := rfl
theorem cmpL_lt {x y : Int64} (h : x < y) : lcmpW x y = -1 := by
  have h' := Int64.lt_iff_toInt_lt.mp h
  show (if y < x then (1 : Int32) else if x = y then 0 else -1) = -1
  rw [if_neg (fun q => by have := Int64.lt_iff_toInt_lt.mp q; omega), if_neg (fun q => by rw [q] at h'; omega)]
theorem cmpL_eq {x y : Int64} (h : x = y) : lcmpW x y = 0 := by
  subst h
  show (if x < x then (1 : Int32) else if x = x then 0 else -1) = 0
  rw [if_neg (fun q => by have := Int64.lt_iff_toInt_lt.mp q; omega), if_pos rfl]
theorem cmpL_gt {x y : Int64} (h : y < x) : lcmpW x y = 1 := by
  show (if y < x then (1 : Int32) else if x = y then 0 else -1) = 1
  rw [if_pos h]
theorem DInt_nn {i : Int} {x : UInt64} (h : Core.DInt i x) : NoNaN64 x := val64_no.mpr (Core.DInt_ne_nan h)
theorem DInt_fin {i : Int} {x : UInt64} (h : Core.DInt i x) : Fin64 x := fin64_core.mpr (by
  have h' : Core.Whole i (Core.val64 x) := h
  cases q : Core.val64 x with
  | nan => rw [q] at h'; exact h'.elim
  | inf s => rw [q] at h'; exact h'.elim
  | fin s c e => exact ⟨s, c, e, q⟩)
theorem cmpD_lt {i j : Int} {x y : UInt64} (hx : Core.DInt i x) (hy : Core.DInt j y) (h : i < j) (o : CmpOp) : cmpValue (FP.dcmp x y) o = -1 := by
  rw [show FP.dcmp x y = _ from Core.dcmp_int hx hy, own_cmp, if_pos h]; rfl
theorem cmpD_eq {i j : Int} {x y : UInt64} (hx : Core.DInt i x) (hy : Core.DInt j y) (h : i = j) (o : CmpOp) : cmpValue (FP.dcmp x y) o = 0 := by
  rw [show FP.dcmp x y = _ from Core.dcmp_int hx hy, own_cmp, if_neg (by omega), if_pos h]; rfl
theorem cmpD_gt {i j : Int} {x y : UInt64} (hx : Core.DInt i x) (hy : Core.DInt j y) (h : j < i) (o : CmpOp) : cmpValue (FP.dcmp x y) o = 1 := by
  rw [show FP.dcmp x y = _ from Core.dcmp_int hx hy, own_cmp, if_neg (by omega), if_neg (by omega)]; rfl
theorem DInt_zero : Core.DInt 0 0 := by
  have h := Core.l2d_int (a := 0) (by decide)
  rw [show Core.l2d 0 = 0 from l2d_zero] at h
  exact h
theorem DInt_i2d {x : Int32} {d : UInt64} (q : FP.i2d x = d) : Core.DInt x.toInt d := q ▸ Core.i2d_int x
theorem DInt_l2d {x : Int64} {d : UInt64} (q : FP.l2d x = d) (h : x.toInt.natAbs ≤ 2 ^ 53) : Core.DInt x.toInt d := q ▸ Core.l2d_int h
theorem DInt_add {i j : Int} {a b d : UInt64} (q : FP.dadd a b = d) (ha : Core.DInt i a) (hb : Core.DInt j b) (h : (i + j).natAbs ≤ 2 ^ 53) : Core.DInt (i + j) d := q ▸ Core.dadd_int ha hb h
theorem DInt_sub {i j : Int} {a b d : UInt64} (q : FP.dsub a b = d) (ha : Core.DInt i a) (hb : Core.DInt j b) (h : (i - j).natAbs ≤ 2 ^ 53) : Core.DInt (i - j) d := q ▸ Core.dsub_int ha hb h
theorem DInt_mul {i j : Int} {a b d : UInt64} (q : FP.dmul a b = d) (ha : Core.DInt i a) (hb : Core.DInt j b) (h : (i * j).natAbs ≤ 2 ^ 53) : Core.DInt (i * j) d := q ▸ Core.dmul_int ha hb h
end OwnD
/-! an array by the list of its values -/
def Sar (Z : State) (h : Heap) (a : Addr) (ty : FieldType) (vs : List Value) : Prop := ∃ c : Cell, Arr Z h a c ty ∧ c.slots = vs.toArray
section OwnA
variable {p : Program} {l : Launch} {e : Env} {R : Room} {s : State} {m : MethodId} {args : Array Value} {below : List Frame} {meth : Method} {c : Code} {T : State} {locs : List Loc} {cells slots : Nat} {Z : State} {a0 : Array Value} {h h' : Heap} {a b : Addr} {ty : FieldType} {vs : List Value} {sl : Nat} {v : Value} {ws : List Addr}
theorem Sar.lt (F : Sar Z h a ty vs) : a < h.size := by obtain ⟨c, A, -⟩ := F; exact A.lt
theorem Sar.ext (F : Sar Z h a ty vs) (E : Ext h h') : Sar Z h' a ty vs := by obtain ⟨c, A, r⟩ := F; exact ⟨c, A.ext E, r⟩
theorem Sar.other (F : Sar Z h b ty vs) (W : Wr h h' a sl v) (q : b ≠ a) : Sar Z h' b ty vs := by obtain ⟨c, A, r⟩ := F; exact ⟨c, A.other W q, r⟩
theorem Sar.keep (F : Sar Z h a ty vs) (K : Keep h h' ws) (q : a ∉ ws) : Sar Z h' a ty vs := by obtain ⟨c, A, r⟩ := F; exact ⟨c, ⟨K.2.1 a c A.1 q, A.2⟩, r⟩
theorem Sar.new {k : ClassId} {z : Int32} {n : Nat} (A : Arr Z h a (newA k ty z) ty) (hn : z.toNatClampNeg = n) : Sar Z h a ty (List.replicate n (defaultValue ty)) := ⟨_, A, by subst hn; show Array.replicate _ _ = _; simp⟩
theorem Sar.in {cl : Cell} {j : Int32} {i : Nat} (S : cl.slots = vs.toArray) (hj : j.toInt = i) (hi : i < vs.length) : ¬ (j < 0 ∨ cl.slots.size ≤ j.toNatClampNeg) := by
  rw [S]
  have q : j.toNatClampNeg = i := by show j.toInt.toNat = i; omega
  have r : ¬ j < 0 := fun z => by have z' := Int32.lt_iff_toInt_lt.mp z; rw [hj] at z'; simp at z'; omega
  rw [q]
  simp only [List.size_toArray]
  intro z
  rcases z with z | z
  · exact r z
  · omega
theorem Sar.nat {j : Int32} {i : Nat} (hj : j.toInt = i) : j.toNatClampNeg = i := by show j.toInt.toNat = i; omega
theorem stDS (X : Stand p l e R s m args below meth c T locs cells slots) (hx : p.tables.exec = Jvm.exec) (hZ : Z.Warmed39 s.vm) (eT : T.heap = h) (V : Sar Z h a .double vs) {j : Int32} {x : UInt64} (i : Nat) (hj : j.toInt = i) (hi : i < vs.length) {g : JFrame} (hg : g.method = m) {rest : List Value} (hs : g.stack = .double x :: .int j :: .ref a :: rest) (hd : decode c.code g.pc = .ok (.dastore, 1)) :
    ∃ T' h', Stand p l e R s m args below meth c T' (locs ++ [⟨a, i⟩]) cells slots ∧ T'.heap = h' ∧ Wr h h' a i (.double x) ∧ Sar Z h' a .double (vs.set i (.double x)) ∧ ∀ target, Steps p.tables e below (T'.setTop { g with pc := g.pc + 1, stack := rest }) target → Steps p.tables e below (T.setTop g) target := by
  obtain ⟨cl, A, S⟩ := V
  obtain ⟨T', h', X', e', W, st⟩ := stD X hx hZ eT A (Sar.in S hj hi) hg hs hd
  rw [Sar.nat hj] at X' W
  exact ⟨T', h', X', e', W, ⟨_, A.same W, by show cl.slots.setIfInBounds _ _ = _; rw [S]; simp⟩, st⟩
theorem stIS (X : Stand p l e R s m args below meth c T locs cells slots) (hx : p.tables.exec = Jvm.exec) (hZ : Z.Warmed39 s.vm) (eT : T.heap = h) (V : Sar Z h a .int vs) {j : Int32} {x : Int32} (i : Nat) (hj : j.toInt = i) (hi : i < vs.length) {g : JFrame} (hg : g.method = m) {rest : List Value} (hs : g.stack = .int x :: .int j :: .ref a :: rest) (hd : decode c.code g.pc = .ok (.iastore, 1)) :
    ∃ T' h', Stand p l e R s m args below meth c T' (locs ++ [⟨a, i⟩]) cells slots ∧ T'.heap = h' ∧ Wr h h' a i (.int x) ∧ Sar Z h' a .int (vs.set i (.int x)) ∧ ∀ target, Steps p.tables e below (T'.setTop { g with pc := g.pc + 1, stack := rest }) target → Steps p.tables e below (T.setTop g) target := by
  obtain ⟨cl, A, S⟩ := V
  obtain ⟨T', h', X', e', W, st⟩ := stI X hx hZ eT A (Sar.in S hj hi) hg hs hd
  rw [Sar.nat hj] at X' W
  exact ⟨T', h', X', e', W, ⟨_, A.same W, by show cl.slots.setIfInBounds _ _ = _; rw [S]; simp⟩, st⟩
theorem ldDS (X : Stand p l e R s m args below meth c T locs cells slots) (hx : p.tables.exec = Jvm.exec) (hZ : Z.Warmed39 s.vm) (eT : T.heap = h) (V : Sar Z h a .double vs) {j : Int32} (i : Nat) (hj : j.toInt = i) (hv : vs[i]? = some v) {g : JFrame} (hg : g.method = m) {rest : List Value} (hs : g.stack = .int j :: .ref a :: rest) (hd : decode c.code g.pc = .ok (.daload, 1)) :
    ∀ target, Steps p.tables e below (T.setTop { g with pc := g.pc + 1, stack := v :: rest }) target → Steps p.tables e below (T.setTop g) target := by
  obtain ⟨cl, A, S⟩ := V
  have hi : i < vs.length := (List.getElem?_eq_some_iff.mp hv).1
  exact X.daload hx (by rw [eT]; exact A.1) (State.isArrayOf_alike hZ.alike A.2.1) A.2.2 (Sar.in S hj hi) (by rw [S, Sar.nat hj]; simpa using hv) hg hs hd
theorem ldIS (X : Stand p l e R s m args below meth c T locs cells slots) (hx : p.tables.exec = Jvm.exec) (hZ : Z.Warmed39 s.vm) (eT : T.heap = h) (V : Sar Z h a .int vs) {j : Int32} (i : Nat) (hj : j.toInt = i) (hv : vs[i]? = some v) {g : JFrame} (hg : g.method = m) {rest : List Value} (hs : g.stack = .int j :: .ref a :: rest) (hd : decode c.code g.pc = .ok (.iaload, 1)) :
    ∀ target, Steps p.tables e below (T.setTop { g with pc := g.pc + 1, stack := v :: rest }) target → Steps p.tables e below (T.setTop g) target := by
  obtain ⟨cl, A, S⟩ := V
  have hi : i < vs.length := (List.getElem?_eq_some_iff.mp hv).1
  exact X.iaload hx (by rw [eT]; exact A.1) (State.isArrayOf_alike hZ.alike A.2.1) A.2.2 (Sar.in S hj hi) (by rw [S, Sar.nat hj]; simpa using hv) hg hs hd
theorem lenS (X : Stand p l e R s m args below meth c T locs cells slots) (hx : p.tables.exec = Jvm.exec) (hZ : Z.Warmed39 s.vm) (eT : T.heap = h) (V : Sar Z h a ty vs) {n : Int32} (hn : vs.length.toInt32 = n) {g : JFrame} (hg : g.method = m) {rest : List Value} (hs : g.stack = .ref a :: rest) (hd : decode c.code g.pc = .ok (.arraylength, 1)) :
    ∀ target, Steps p.tables e below (T.setTop { g with pc := g.pc + 1, stack := .int n :: rest }) target → Steps p.tables e below (T.setTop g) target := by
  obtain ⟨cl, A, S⟩ := V
  intro target k
  refine X.arraylength hx (by rw [eT]; exact A.1) (State.isArrayOf_alike hZ.alike A.2.1) hg hs hd target ?_
  rw [S]
  simp only [List.size_toArray, hn]
  exact k
end OwnA
end Jvm.RoadKit
namespace Jvm.RoadKit
open Jvm.FP Jvm.Free.Fl
theorem DInt_nz {i : Int} {x : UInt64} (h : Core.DInt i x) (hi : i ≠ 0) : Nz64 x := nz64_core.mpr fun z => by
  obtain ⟨s, q, e⟩ := z
  have h' : Core.Whole i (Core.val64 x) := h
  rw [e] at h'
  exact hi ((Core.whole_zero h').mp rfl)
theorem DInt_one : Core.DInt 1 4607182418800017408 := Core.dint_one
end Jvm.RoadKit
namespace Jvm.RoadKit
open Jvm.FP Jvm.Free.Fl Op
theorem cmpD_le {i j : Int} {x y : UInt64} (hx : Core.DInt i x) (hy : Core.DInt j y) (h : i ≤ j) (o : ClassFile.CmpOp) : ∃ v : Int32, cmpValue (FP.dcmp x y) o = v ∧ ¬ (0 : Int32) < v := by
  by_cases q : i < j
  · exact ⟨-1, cmpD_lt hx hy q o, by decide⟩
  · exact ⟨0, cmpD_eq hx hy (by omega) o, by decide⟩
theorem cmpD_ge {i j : Int} {x y : UInt64} (hx : Core.DInt i x) (hy : Core.DInt j y) (h : j ≤ i) (o : ClassFile.CmpOp) : ∃ v : Int32, cmpValue (FP.dcmp x y) o = v ∧ ¬ v < (0 : Int32) := by
  by_cases q : j < i
  · exact ⟨1, cmpD_gt hx hy q o, by decide⟩
  · exact ⟨0, cmpD_eq hx hy (by omega) o, by decide⟩
end Jvm.RoadKit
namespace Jvm.RoadKit
open Jvm.Free
theorem cmpL_le {x y : Int64} (h : ¬ y.toInt < x.toInt) : ∃ v : Int32, lcmpW x y = v ∧ ¬ (0 : Int32) < v := by
  by_cases q : x.toInt < y.toInt
  · exact ⟨-1, cmpL_lt (Int64.lt_iff_toInt_lt.mpr q), by decide⟩
  · exact ⟨0, cmpL_eq (Int64.toInt_inj.mp (by omega)), by decide⟩
theorem cmpL_gtI {x y : Int64} (h : y.toInt < x.toInt) : lcmpW x y = 1 := cmpL_gt (Int64.lt_iff_toInt_lt.mpr h)
end Jvm.RoadKit
namespace Jvm.RoadKit
open Jvm.Free
theorem cmpL_ge {x y : Int64} (h : ¬ x.toInt < y.toInt) : ∃ v : Int32, lcmpW x y = v ∧ ¬ v < (0 : Int32) := by
  by_cases q : y.toInt < x.toInt
  · exact ⟨1, cmpL_gtI q, by decide⟩
  · exact ⟨0, cmpL_eq (Int64.toInt_inj.mp (by omega)), by decide⟩
end Jvm.RoadKit
namespace Jvm.RoadKit
section OwnN
theorem own_mb {i j : Int} {A B : Nat} (hi : i.natAbs ≤ A) (hj : j.natAbs ≤ B) : (i * j).natAbs ≤ A * B := by rw [Int.natAbs_mul]; exact Nat.mul_le_mul hi hj
theorem own_mb2 {i j : Int} {A B : Nat} (hi : -(A : Int) ≤ i ∧ i ≤ A) (hj : -(B : Int) ≤ j ∧ j ≤ B) : -((A * B : Nat) : Int) ≤ i * j ∧ i * j ≤ ((A * B : Nat) : Int) := by
  have h := own_mb (i := i) (j := j) (A := A) (B := B) (by omega) (by omega)
  omega
theorem own_ladd {a b : Int64} (h1 : -9223372036854775808 ≤ a.toInt + b.toInt) (h2 : a.toInt + b.toInt < 9223372036854775808) : (a + b).toInt = a.toInt + b.toInt := by
  have := c_ladd a b; have := rng64 (a + b); omega
theorem own_lsub {a b : Int64} (h1 : -9223372036854775808 ≤ a.toInt - b.toInt) (h2 : a.toInt - b.toInt < 9223372036854775808) : (a - b).toInt = a.toInt - b.toInt := by
  have := c_lsub a b; have := rng64 (a - b); omega
theorem own_lmul {a b : Int64} (h : (a.toInt * b.toInt).natAbs < 9223372036854775808) : (a * b).toInt = a.toInt * b.toInt := by
  have := c_lmul a b; have := rng64 (a * b); omega
theorem own_short (x : Int32) : (x.toInt16.toInt32).toInt.natAbs ≤ 32768 := by
  have := c_i2s x; omega
theorem own_and3 (x : Int32) : (x &&& 3) = 0 ∨ (x &&& 3) = 1 ∨ (x &&& 3) = 2 ∨ (x &&& 3) = 3 := by
  have h := c_and x 3 (by decide)
  have e : (3 : Int32).toInt = 3 := by decide
  simp only [← Int32.toInt_inj]
  rw [show (0 : Int32).toInt = 0 from by decide, show (1 : Int32).toInt = 1 from by decide, show (2 : Int32).toInt = 2 from by decide, e]
  omega
end OwnN
end Jvm.RoadKit
namespace Jvm.Free.XS
open Sem ClassFile Op Lib
theorem pop2W {tb : Tables} [Ours tb] {e : Env} {below : List Frame} {T target : State} {m : MethodId} {c : Code} {g : JFrame} (h : At T m c below) (hx : tb.exec = Jvm.exec) (hg : g.method = m) {x : Value} {rest : List Value} (hd : decode c.code g.pc = .ok (.pop2, 1)) (hs : g.stack = x :: rest) (hc : x.category = 2)
    (hr : Steps tb e below (T.setTop { g with pc := g.pc + 1, stack := rest }) target) : Steps tb e below (T.setTop g) target := by
  subst hg
  jvm_step h [h.top, hx, hd, hs, hc]
  exact hr
end Jvm.Free.XS
namespace Jvm.RoadKit
open Sem ClassFile Op Lib Jvm.Stand Jvm.Free Jvm.LawKit Jvm.FP Jvm.Free.Fl
section OwnC
variable {p : Program} {l : Launch} {e : Env} {R : Room} {s : State} {m : MethodId} {args : Array Value} {below : List Frame} {meth : Method} {c : Code} {T : State} {locs : List Loc} {cells slots : Nat} {Z : State} {a0 : Array Value} {h h' : Heap} {a b : Addr} {xs ys : List Value}
/-- System.arraycopy of the first n doubles into the first places -/
theorem cpS (X : Stand p l e R s m args below meth c T locs cells slots) (hx : p.tables.exec = Jvm.exec) (hZ : Z.Warmed39 s.vm) {own : String} {index : Nat} (hown : s.vm.findClass own = some m.cls) (w1 : (Cond.methodLink own index Jvm.Stand.acN).before a0 Z = true) (w2 : (Cond.native Jvm.Stand.acN).before a0 Z = true) (w3 : (Cond.static Jvm.Stand.acN).before a0 Z = true) (w4 : (Cond.initialized "java/lang/System").before a0 Z = true)
    (eT : T.heap = h) (A : Sar Z h a .double xs) (B : Sar Z h b .double ys) {n : Nat} {jn : Int32} (hn : jn = Int32.ofNat n) (h1 : n = xs.length) (h2 : n ≤ ys.length) (h3 : ys.length < 2 ^ 31) (hfit : ∀ v ∈ xs, fits .double v = true) {n0 : Nat} (N : Fr n0 locs) (ge : n0 ≤ b)
    {g : JFrame} (hg : g.method = m) (hsize : g.locals.size = c.maxLocals) {rest : List Value} (hst : g.stack = .int jn :: .int 0 :: .ref b :: .int 0 :: .ref a :: rest) (hd : decode c.code g.pc = .ok (.invokestatic index, 3)) (hf : 1 ≤ R.frames) {W : Nat} (hW : 2 * g.monitorRoom + (rest.map fun v => v.category).sum ≤ W) (hlo : W + 40 ≤ R.locals) :
    ∃ T' h' L, Stand p l e R s m args below meth c T' L cells slots ∧ T'.heap = h' ∧ Fr n0 L ∧ Keep h h' [b] ∧ Sar Z h' b .double (xs ++ ys.drop n) ∧ ∀ target, Steps p.tables e below (T'.setTop { g with pc := g.pc + 3, stack := rest }) target → Steps p.tables e below (T.setTop g) target := by
  obtain ⟨ca, Aa, Sa⟩ := A
  obtain ⟨cb, Ab, Sb⟩ := B
  have za : ca.slots.size = xs.length := by rw [Sa]; simp
  have zb : cb.slots.size = ys.length := by rw [Sb]; simp
  have al := hZ.alike.trans X.warmed.alike
  obtain ⟨T', B', X', ⟨p1, p2, p3⟩, q1, q2, q3, q4, st⟩ := X.acopy hx (own := own) (index := index) hown (by
      intro w hw
      simp only [Jvm.Free.XT.acW, List.mem_cons, List.mem_nil_iff, or_false] at hw
      rcases hw with rfl | rfl | rfl | rfl
      · exact mvT hZ w1
      · exact mvT hZ w2
      · exact mvT hZ w3
      · exact mvT hZ w4) (ts := .double) (t := .double) (a := a) (b := b) (A := ca) (B := cb)
    ⟨by rw [eT]; exact Aa.1, State.isArrayOf_alike al Aa.2.1, Aa.2.2, by omega⟩ ⟨by rw [eT]; exact Ab.1, State.isArrayOf_alike al Ab.2.1, Ab.2.2, by omega⟩ rfl (o := 0) (q := 0) (n := n) rfl rfl hn (by omega) (by omega)
    (fun i hi => ⟨by
      have hi' : i < xs.length := by omega
      rw [Sa]
      simp only [Nat.zero_add, Array.getD_eq_getD_getElem?, List.getElem?_toArray, List.getElem?_eq_getElem hi', Option.getD_some]
      exact hfit _ (List.getElem_mem hi'), fun q => by cases q⟩) hg hsize hst hd hW hf hlo
  subst eT
  have hb : b < T.heap.size := Ab.lt
  refine ⟨T', T'.heap, _, X', rfl, ?_, ⟨by rw [p3]; exact Nat.le_refl _, fun x c hc hn' => by rw [p2 x (fun q => hn' (List.mem_singleton.mpr q))]; exact hc, fun x c hc => ?_⟩, ⟨B', ⟨p1, ?_, by rw [q2]; exact Ab.2.2⟩, ?_⟩, st⟩
  · intro y hy
    rcases List.mem_append.mp hy with hy | hy
    · exact N y hy
    · simp only [copyLocs, List.mem_map] at hy
      obtain ⟨i, -, rfl⟩ := hy
      exact ge
  · by_cases q : x = b
    · subst q
      cases hc.symm.trans Ab.1
      exact ⟨B', p1, q1, q2, q3⟩
    · exact ⟨c, by rw [p2 x q]; exact hc, rfl, rfl, rfl⟩
  · have hA := Ab.2.1
    obtain ⟨o1, kk, k1, k2⟩ := hA
    exact ⟨fun i => by rw [q2]; exact o1 i, kk, by rw [q1]; exact k1, k2⟩
  · apply Array.ext_getElem?
    intro i
    rw [q4 i, Sa, Sb]
    simp only [Nat.zero_add, Nat.zero_le, true_and, Nat.sub_zero, Array.getD_eq_getD_getElem?, List.getElem?_toArray]
    by_cases q : i < n
    · rw [if_pos q, List.getElem?_append_left (by omega), List.getElem?_eq_getElem (show i < xs.length by omega)]
      rfl
    · rw [if_neg q, List.getElem?_append_right (by omega), List.getElem?_drop]
      congr 1
      omega
end OwnC
abbrev SI (x : Int32) : Slot := .val (.int x)
abbrev SD (x : UInt64) : Slot := .val (.double x)
abbrev SJ (x : Int64) : Slot := .val (.long x)
abbrev SA (x : Addr) : Slot := .val (.ref x)
abbrev SN : Slot := .val .null
abbrev SU : Slot := .unset
abbrev S2 : Slot := .second
/-! the sparse sum's state -/
def own_upd (f : Nat → Int) (k : Nat) (u : Int) : Nat → Int := fun i => if i = k then f i + u else f i
def OwnRep (f : Nat → Int) (ks : List Nat) (xs ys : List Value) (n : Int32) : Prop :=
  (xs.length = 64 ∨ xs.length = 128) ∧ (∀ (i : Nat), i < xs.length → ∃ d, xs[i]? = some (Value.double d) ∧ Core.DInt (f i) d) ∧ (∀ (i : Nat), xs.length ≤ i → f i = 0) ∧ ys.length = 64 ∧ n.toInt = ks.length ∧ ks.length ≤ 4 ∧ ∀ (j k : Nat), ks[j]? = some k → k < xs.length ∧ ∃ w : Int32, ys[j]? = some (Value.int w) ∧ w.toInt = k
theorem own_n32 {n : Nat} (h : n < 2147483648) : (n.toInt32).toInt = n := Int32.toInt_ofNat_small h
section OwnR
variable {f : Nat → Int} {ks : List Nat} {xs ys : List Value} {n w : Int32} {kk : Nat} {u : Int} {d : UInt64}
theorem OwnRep.start : OwnRep (fun _ => 0) [] (List.replicate 64 (.double 0)) (List.replicate 64 (.int 0)) 0 := by
  refine ⟨Or.inl (by simp), fun i hi => ⟨0, ?_, DInt_zero⟩, fun _ _ => rfl, by simp, rfl, by decide, fun j k q => by simp at q⟩
  rw [List.getElem?_replicate, if_pos (by simpa using hi)]
theorem OwnRep.fit (R : OwnRep f ks xs ys n) : ∀ v ∈ xs, fits .double v = true := fun v hv => by
  obtain ⟨i, hi, rfl⟩ := List.mem_iff_getElem.mp hv
  obtain ⟨d, h1, -⟩ := R.2.1 i hi
  rw [List.getElem?_eq_getElem hi] at h1
  rw [Option.some.inj h1]
  rfl
theorem OwnRep.grow (R : OwnRep f ks xs ys n) (h : xs.length = 64) : OwnRep f ks (xs ++ List.replicate 64 (.double 0)) ys n := by
  obtain ⟨r1, r2, r3, r4, r5, r6, r7⟩ := R
  have hl : (xs ++ List.replicate 64 (Value.double 0)).length = 128 := by simp [h]
  refine ⟨Or.inr hl, fun i hi => ?_, fun i hi => r3 i (by omega), r4, r5, r6, fun j k q => ⟨by have := (r7 j k q).1; omega, (r7 j k q).2⟩⟩
  by_cases q : i < xs.length
  · rw [List.getElem?_append_left q]
    exact r2 i q
  · refine ⟨0, ?_, by rw [r3 i (by omega)]; exact DInt_zero⟩
    rw [List.getElem?_append_right (by omega), List.getElem?_replicate, if_pos (by omega)]
theorem OwnRep.set (R : OwnRep f ks xs ys n) (h : kk < xs.length) (D : Core.DInt (f kk + u) d) : OwnRep (own_upd f kk u) ks (xs.set kk (.double d)) ys n := by
  obtain ⟨r1, r2, r3, r4, r5, r6, r7⟩ := R
  refine ⟨by rw [List.length_set]; exact r1, fun i hi => ?_, fun i hi => ?_, r4, r5, r6, fun j k q => by rw [List.length_set]; exact r7 j k q⟩
  · rw [List.length_set] at hi
    by_cases q : i = kk
    · subst q
      exact ⟨d, by rw [List.getElem?_set_self h], by simp only [own_upd, if_pos]; exact D⟩
    · obtain ⟨d', e1, e2⟩ := r2 i hi
      exact ⟨d', by rw [List.getElem?_set_ne (Ne.symm q)]; exact e1, by simp only [own_upd, if_neg q]; exact e2⟩
  · rw [List.length_set] at hi
    have q : i ≠ kk := by omega
    simp only [own_upd, if_neg q]
    exact r3 i hi
theorem OwnRep.push (R : OwnRep f ks xs ys n) (h : kk < xs.length) (hk : ks.length < 4) (hw : w.toInt = kk) : OwnRep f (ks ++ [kk]) xs (ys.set ks.length (.int w)) (n + 1) := by
  obtain ⟨r1, r2, r3, r4, r5, r6, r7⟩ := R
  refine ⟨r1, r2, r3, by rw [List.length_set]; exact r4, ?_, by simp; omega, fun j k q => ?_⟩
  · have t := c_iadd n 1
    have t2 := rng32 (n + 1)
    have t3 : (1 : Int32).toInt = 1 := by decide
    simp only [List.length_append, List.length_singleton]
    omega
  · by_cases hj : j < ks.length
    · rw [List.getElem?_append_left hj] at q
      obtain ⟨a1, w', a2, a3⟩ := r7 j k q
      exact ⟨a1, w', by rw [List.getElem?_set_ne (by omega)]; exact a2, a3⟩
    · rw [List.getElem?_append_right (by omega)] at q
      have hj2 : j = ks.length := by
        have := (List.getElem?_eq_some_iff.mp q).1
        simp at this
        omega
      subst hj2
      simp at q
      subst q
      exact ⟨h, w, by rw [List.getElem?_set_self (by omega)], hw⟩
theorem OwnRep.clear (R : OwnRep (own_upd (fun _ => 0) kk u) [kk] xs ys n) : OwnRep (fun _ => 0) [] (xs.set kk (.double 0)) ys 0 := by
  obtain ⟨r1, r2, r3, r4, r5, r6, r7⟩ := R
  have h := (r7 0 kk rfl).1
  refine ⟨by rw [List.length_set]; exact r1, fun i hi => ?_, fun _ _ => rfl, r4, rfl, by decide, fun j k q => by simp at q⟩
  rw [List.length_set] at hi
  by_cases q : i = kk
  · subst q
    exact ⟨0, by rw [List.getElem?_set_self h], DInt_zero⟩
  · obtain ⟨d', e1, e2⟩ := r2 i hi
    simp only [own_upd, if_neg q] at e2
    exact ⟨d', by rw [List.getElem?_set_ne (Ne.symm q)]; exact e1, e2⟩
end OwnR
end Jvm.RoadKit
namespace Jvm.Pilot.@@N@@
open Jvm Jvm.ClassFile Sem Op Lib Jvm.Free Jvm.Stand Jvm.LawKit Jvm.RoadKit Jvm.FP Jvm.Free.Fl Bundle Jvm.Pilot.@@N@@.Jvm.D
def own_fl (x : Int32) : Int32 := if x = 0 then 0 else 1
theorem own_fl_0 {x : Int32} (h : x = 0) : own_fl x = 0 := if_pos h
theorem own_fl_1 {x : Int32} (h : ¬ x = 0) : own_fl x = 1 := if_neg h
theorem own_67 (x : Int32) : ∃ k : Nat, (x &&& 67).toInt = k ∧ k < 68 := by
  have h := c_and x 67 (by decide)
  have e : (67 : Int32).toInt = 67 := by decide
  exact ⟨(x &&& 67).toInt.toNat, by omega, by omega⟩
theorem own_255 (x : Int32) : 1 ≤ ((x &&& 255) + 1).toInt ∧ ((x &&& 255) + 1).toInt ≤ 256 := by
  have h := c_and x 255 (by decide)
  have e : (255 : Int32).toInt = 255 := by decide
  have t := c_iadd (x &&& 255) 1
  have t2 := rng32 ((x &&& 255) + 1)
  have t3 : (1 : Int32).toInt = 1 := by decide
  omega
theorem d6_0 : decode jdk_29_method_65_code 0 = .ok (.iload_n 0, 1) := by decide +kernel
theorem d6_1 : decode jdk_29_method_65_code 1 = .ok (.iload_n 1, 1) := by decide +kernel
theorem d6_2 : decode jdk_29_method_65_code 2 = .ok (.if_icmp .lt 7, 3) := by decide +kernel
theorem d6_5 : decode jdk_29_method_65_code 5 = .ok (.iload_n 0, 1) := by decide +kernel
theorem d6_6 : decode jdk_29_method_65_code 6 = .ok (.goto 4, 3) := by decide +kernel
theorem d6_9 : decode jdk_29_method_65_code 9 = .ok (.iload_n 1, 1) := by decide +kernel
theorem d6_10 : decode jdk_29_method_65_code 10 = .ok (.ireturn, 1) := by decide +kernel
theorem pd0 : parseMethodDescriptor "(II)I" = some ⟨[.int, .int], some .int⟩ := by decide +kernel
theorem ef_rm_max (m : MethodId) (x0 : Int32) (x1 : Int32) : entryFrame m #[(.int x0), (.int x1)] 2 = mkF m 0 #[.val (.int x0), .val (.int x1)] [] := by first | (simp [entryFrame, mkF, argsToLocals, Value.category, maxLocals]; done) | rfl
set_option maxRecDepth 65536 in
set_option maxHeartbeats 40000000 in
theorem rm_max (l : Launch) (Z : State) (a0 : Array Value) (hw : ∀ d ∈ tables_1, d.before a0 Z = true) (x y : Int32) (h0 : Heap) (n0 : Nat) (Z0 : n0 ≤ h0.size) (hq : x < y) :
    Does l (⟨"java/lang/Math", "max", "(II)I"⟩ : MethodName) jdk_29_method_65_code 2 (some .int) [] ({ frames := 0, cells := 0, slots := 0, locals := 0 } : Room) Z #[(.int x), (.int y)] h0 (fun v h L => v = some (.int y) ∧ Fr n0 L ∧ h = h0) := by
  refine Does.of (Jvm.Free.JP.mathPlain rfl (by decide +kernel)) ?_
  intro p e s m below meth c s₁ hx hby hml hret hlk hZ hown hnm X0 e0
  have N0 := Fr.nil n0
  refine Goes.cast (g' := mkF m 0 #[.val (.int x), .val (.int y)] []) (ef_rm_max m x y) ?_
  refine Goes.by (T' := s₁) (g' := (mkF m 1 #[.val (.int x), .val (.int y)] [(.int x)])) (fun _ k => XS.iloadN X0.here hx rfl (hb hby d6_0) rfl k) ?_
  refine Goes.by (T' := s₁) (g' := (mkF m 2 #[.val (.int x), .val (.int y)] [(.int y), (.int x)])) (fun _ k => XS.iloadN X0.here hx rfl (hb hby d6_1) rfl k) ?_
  refine Goes.by (T' := s₁) (g' := (mkF m 9 #[.val (.int x), .val (.int y)] [])) (fun _ k => XS.icmpYes X0.here hx rfl (pc0 := 2) (pc' := 9) rfl (hb hby d6_2) rfl (tlt hq).1 (by decide) (by decide) k) ?_
  refine Goes.by (T' := s₁) (g' := (mkF m 10 #[.val (.int x), .val (.int y)] [(.int y)])) (fun _ k => XS.iloadN X0.here hx rfl (hb hby d6_9) rfl k) ?_
  exact outI X0 hx hlk hret (hb hby d6_10) (by rw [e0]; exact ⟨rfl, N0, rfl⟩) (by decide) (by decide)
theorem d8_0 : decode jdk_29_method_69_code 0 = .ok (.iload_n 0, 1) := by decide +kernel
theorem d8_1 : decode jdk_29_method_69_code 1 = .ok (.iload_n 1, 1) := by decide +kernel
theorem d8_2 : decode jdk_29_method_69_code 2 = .ok (.if_icmp .gt 7, 3) := by decide +kernel
theorem d8_5 : decode jdk_29_method_69_code 5 = .ok (.iload_n 0, 1) := by decide +kernel
theorem d8_6 : decode jdk_29_method_69_code 6 = .ok (.goto 4, 3) := by decide +kernel
theorem d8_9 : decode jdk_29_method_69_code 9 = .ok (.iload_n 1, 1) := by decide +kernel
theorem d8_10 : decode jdk_29_method_69_code 10 = .ok (.ireturn, 1) := by decide +kernel
theorem ef_rm_min (m : MethodId) (x0 : Int32) (x1 : Int32) : entryFrame m #[(.int x0), (.int x1)] 2 = mkF m 0 #[.val (.int x0), .val (.int x1)] [] := by first | (simp [entryFrame, mkF, argsToLocals, Value.category, maxLocals]; done) | rfl
set_option maxRecDepth 65536 in
set_option maxHeartbeats 40000000 in
theorem rm_min (l : Launch) (Z : State) (a0 : Array Value) (hw : ∀ d ∈ tables_1, d.before a0 Z = true) (x y : Int32) (h0 : Heap) (n0 : Nat) (Z0 : n0 ≤ h0.size) (hq : ¬ y < x) :
    Does l (⟨"java/lang/Math", "min", "(II)I"⟩ : MethodName) jdk_29_method_69_code 2 (some .int) [] ({ frames := 0, cells := 0, slots := 0, locals := 0 } : Room) Z #[(.int x), (.int y)] h0 (fun v h L => v = some (.int x) ∧ Fr n0 L ∧ h = h0) := by
  refine Does.of (Jvm.Free.JP.mathPlain rfl (by decide +kernel)) ?_
  intro p e s m below meth c s₁ hx hby hml hret hlk hZ hown hnm X0 e0
  have N0 := Fr.nil n0
  refine Goes.cast (g' := mkF m 0 #[.val (.int x), .val (.int y)] []) (ef_rm_min m x y) ?_
  refine Goes.by (T' := s₁) (g' := (mkF m 1 #[.val (.int x), .val (.int y)] [(.int x)])) (fun _ k => XS.iloadN X0.here hx rfl (hb hby d8_0) rfl k) ?_
  refine Goes.by (T' := s₁) (g' := (mkF m 2 #[.val (.int x), .val (.int y)] [(.int y), (.int x)])) (fun _ k => XS.iloadN X0.here hx rfl (hb hby d8_1) rfl k) ?_
  refine Goes.by (T' := s₁) (g' := (mkF m 5 #[.val (.int x), .val (.int y)] [])) (fun _ k => XS.icmpNo X0.here hx rfl (hb hby d8_2) rfl (flt hq).2.2.1 k) ?_
  refine Goes.by (T' := s₁) (g' := (mkF m 6 #[.val (.int x), .val (.int y)] [(.int x)])) (fun _ k => XS.iloadN X0.here hx rfl (hb hby d8_5) rfl k) ?_
  refine Goes.by (T' := s₁) (g' := (mkF m 10 #[.val (.int x), .val (.int y)] [(.int x)])) (fun _ k => XS.goto X0.here hx rfl (pc0 := 6) (pc' := 10) rfl (hb hby d8_6) (by decide) (by decide) k) ?_
  exact outI X0 hx hlk hret (hb hby d8_10) (by rw [e0]; exact ⟨rfl, N0, rfl⟩) (by decide) (by decide)
theorem d7_0 : decode jdk_65_method_127_code 0 = .ok (.iload_n 1, 1) := by decide +kernel
theorem d7_1 : decode jdk_65_method_127_code 1 = .ok (.aload_n 0, 1) := by decide +kernel
theorem d7_2 : decode jdk_65_method_127_code 2 = .ok (.arraylength, 1) := by decide +kernel
theorem d7_3 : decode jdk_65_method_127_code 3 = .ok (.if_icmp .ne 11, 3) := by decide +kernel
theorem d7_6 : decode jdk_65_method_127_code 6 = .ok (.aload_n 0, 1) := by decide +kernel
theorem d7_7 : decode jdk_65_method_127_code 7 = .ok (.invokevirtual 328, 3) := by decide +kernel
theorem d7_10 : decode jdk_65_method_127_code 10 = .ok (.checkcast 329, 3) := by decide +kernel
theorem d7_13 : decode jdk_65_method_127_code 13 = .ok (.areturn, 1) := by decide +kernel
theorem d7_14 : decode jdk_65_method_127_code 14 = .ok (.iload_n 1, 1) := by decide +kernel
theorem d7_15 : decode jdk_65_method_127_code 15 = .ok (.newarray .double, 2) := by decide +kernel
theorem d7_17 : decode jdk_65_method_127_code 17 = .ok (.astore_n 2, 1) := by decide +kernel
theorem d7_18 : decode jdk_65_method_127_code 18 = .ok (.aload_n 0, 1) := by decide +kernel
theorem d7_19 : decode jdk_65_method_127_code 19 = .ok (.iconst 0, 1) := by decide +kernel
theorem d7_20 : decode jdk_65_method_127_code 20 = .ok (.aload_n 2, 1) := by decide +kernel
theorem d7_21 : decode jdk_65_method_127_code 21 = .ok (.iconst 0, 1) := by decide +kernel
theorem d7_22 : decode jdk_65_method_127_code 22 = .ok (.aload_n 0, 1) := by decide +kernel
theorem d7_23 : decode jdk_65_method_127_code 23 = .ok (.arraylength, 1) := by decide +kernel
theorem d7_24 : decode jdk_65_method_127_code 24 = .ok (.iload_n 1, 1) := by decide +kernel
theorem d7_25 : decode jdk_65_method_127_code 25 = .ok (.invokestatic 304, 3) := by decide +kernel
theorem d7_28 : decode jdk_65_method_127_code 28 = .ok (.invokestatic 150, 3) := by decide +kernel
theorem d7_31 : decode jdk_65_method_127_code 31 = .ok (.aload_n 2, 1) := by decide +kernel
theorem d7_32 : decode jdk_65_method_127_code 32 = .ok (.areturn, 1) := by decide +kernel
theorem pn0 : plainName "java/util/Arrays" = true := by first | (simp [plainName, overriddenIn]; done) | decide +kernel
theorem pd1 : parseMethodDescriptor "([DI)[D" = some ⟨[(.array .double), .int], some (.array .double)⟩ := by decide +kernel
theorem ef_rm_copy (m : MethodId) (x0 : Addr) (x1 : Int32) : entryFrame m #[(.ref x0), (.int x1)] 3 = mkF m 0 #[.val (.ref x0), .val (.int x1), .unset] [] := by first | (simp [entryFrame, mkF, argsToLocals, Value.category, maxLocals]; done) | rfl
set_option maxRecDepth 65536 in
set_option maxHeartbeats 40000000 in
theorem rm_copy (l : Launch) (Z : State) (a0 : Array Value) (hw : ∀ d ∈ tables_1, d.before a0 Z = true) (d : Addr) (xs : List Value) (h0 : Heap) (n0 : Nat) (Z0 : n0 ≤ h0.size) (VD : Sar Z h0 d .double xs) (hl : xs.length = 64) (hfit : ∀ v ∈ xs, fits .double v = true) :
    Does l (⟨"java/util/Arrays", "copyOf", "([DI)[D"⟩ : MethodName) jdk_65_method_127_code 3 (some (.array .double)) [] ({ frames := 1, cells := 1, slots := 128, locals := 40 } : Room) Z #[(.ref d), (.int (128 : Int32))] h0 (fun v h L => ∃ r, v = some (.ref r) ∧ Sar Z h r .double (xs ++ (List.replicate 128 (Value.double 0)).drop 64) ∧ h0.size ≤ r ∧ Keep h0 h [] ∧ Fr n0 L) := by
  refine Does.of (plainFor_of_name pn0) ?_
  intro p e s m below meth c s₁ hx hby hml hret hlk hZ hown hnm X0 e0
  have N0 := Fr.nil n0
  refine Goes.cast (g' := mkF m 0 #[.val (.ref d), .val (.int (128 : Int32)), .unset] []) (ef_rm_copy m d (128 : Int32)) ?_
  have K0 := Keep.refl h0 []
  refine Goes.by (T' := s₁) (g' := (mkF m 1 #[.val (.ref d), .val (.int (128 : Int32)), .unset] [(.int (128 : Int32))])) (fun _ k => XS.iloadN X0.here hx rfl (hb hby d7_0) rfl k) ?_
  refine Goes.by (T' := s₁) (g' := (mkF m 2 #[.val (.ref d), .val (.int (128 : Int32)), .unset] [(.ref d), (.int (128 : Int32))])) (fun _ k => XS.aloadN X0.here hx rfl (hb hby d7_1) rfl rfl k) ?_
  refine Goes.by (T' := s₁) (g' := (mkF m 3 #[.val (.ref d), .val (.int (128 : Int32)), .unset] [(.int (64 : Int32)), (.int (128 : Int32))])) (lenS X0 hx hZ e0 VD (n := (64 : Int32)) (by rw [hl]; rfl) (g := (mkF m 2 #[.val (.ref d), .val (.int (128 : Int32)), .unset] [(.ref d), (.int (128 : Int32))])) rfl rfl (hb hby d7_2)) ?_
  refine Goes.by (T' := s₁) (g' := (mkF m 14 #[.val (.ref d), .val (.int (128 : Int32)), .unset] [])) (fun _ k => XS.icmpYes X0.here hx rfl (pc0 := 3) (pc' := 14) rfl (hb hby d7_3) rfl (by decide) (by decide) (by decide) k) ?_
  refine Goes.by (T' := s₁) (g' := (mkF m 15 #[.val (.ref d), .val (.int (128 : Int32)), .unset] [(.int (128 : Int32))])) (fun _ k => XS.iloadN X0.here hx rfl (hb hby d7_14) rfl k) ?_
  obtain ⟨T1, h1, k1, X1, e1, E1, A1, st1⟩ := newP X0 hx hZ (hw _ (List.mem_of_getElem? (i := 9) rfl)) e0 (g := (mkF m 15 #[.val (.ref d), .val (.int (128 : Int32)), .unset] [(.int (128 : Int32))])) rfl (hb hby d7_15) rfl (by decide) (cap := 128) (by decide) (by decide) (by decide) (by decide)
  obtain ⟨r, g1⟩ : ∃ z, z = h0.size := ⟨_, rfl⟩
  rw [← g1] at A1 st1
  have ne_d_r : d ≠ r := fun q => Nat.lt_irrefl _ (Nat.lt_of_lt_of_eq VD.lt (g1.symm.trans q.symm))
  have ge_r : n0 ≤ r := Nat.le_trans Z0 (Nat.le_of_eq g1.symm)
  have sz_r : h0.size ≤ r := Nat.le_trans K0.1 (Nat.le_of_eq g1.symm)
  have VD := VD.ext E1
  have Z0 := Nat.le_trans Z0 E1.1
  have K0 := K0.ext E1
  have V_r : Sar Z h1 r .double (List.replicate 128 (.double 0)) := Sar.new (n := 128) A1 (by decide)
  refine Goes.by (T' := T1) (g' := (mkF m 17 #[.val (.ref d), .val (.int (128 : Int32)), .unset] [(.ref r)])) st1 ?_
  refine Goes.by (T' := T1) (g' := (mkF m 18 #[.val (.ref d), .val (.int (128 : Int32)), .val (.ref r)] [])) (fun _ k => XS.astoreN X1.here hx rfl (hb hby d7_17) rfl rfl (l' := #[.val (.ref d), .val (.int (128 : Int32)), .val (.ref r)]) rfl k) ?_
  refine Goes.by (T' := T1) (g' := (mkF m 19 #[.val (.ref d), .val (.int (128 : Int32)), .val (.ref r)] [(.ref d)])) (fun _ k => XS.aloadN X1.here hx rfl (hb hby d7_18) rfl rfl k) ?_
  refine Goes.by (T' := T1) (g' := (mkF m 20 #[.val (.ref d), .val (.int (128 : Int32)), .val (.ref r)] [(.int (0 : Int32)), (.ref d)])) (fun _ k => XS.iconst X1.here hx rfl (hb hby d7_19)  k) ?_
  refine Goes.by (T' := T1) (g' := (mkF m 21 #[.val (.ref d), .val (.int (128 : Int32)), .val (.ref r)] [(.ref r), (.int (0 : Int32)), (.ref d)])) (fun _ k => XS.aloadN X1.here hx rfl (hb hby d7_20) rfl rfl k) ?_
  refine Goes.by (T' := T1) (g' := (mkF m 22 #[.val (.ref d), .val (.int (128 : Int32)), .val (.ref r)] [(.int (0 : Int32)), (.ref r), (.int (0 : Int32)), (.ref d)])) (fun _ k => XS.iconst X1.here hx rfl (hb hby d7_21)  k) ?_
  refine Goes.by (T' := T1) (g' := (mkF m 23 #[.val (.ref d), .val (.int (128 : Int32)), .val (.ref r)] [(.ref d), (.int (0 : Int32)), (.ref r), (.int (0 : Int32)), (.ref d)])) (fun _ k => XS.aloadN X1.here hx rfl (hb hby d7_22) rfl rfl k) ?_
  refine Goes.by (T' := T1) (g' := (mkF m 24 #[.val (.ref d), .val (.int (128 : Int32)), .val (.ref r)] [(.int (64 : Int32)), (.int (0 : Int32)), (.ref r), (.int (0 : Int32)), (.ref d)])) (lenS X1 hx hZ e1 VD (n := (64 : Int32)) (by rw [hl]; rfl) (g := (mkF m 23 #[.val (.ref d), .val (.int (128 : Int32)), .val (.ref r)] [(.ref d), (.int (0 : Int32)), (.ref r), (.int (0 : Int32)), (.ref d)])) rfl rfl (hb hby d7_23)) ?_
  refine Goes.by (T' := T1) (g' := (mkF m 25 #[.val (.ref d), .val (.int (128 : Int32)), .val (.ref r)] [(.int (128 : Int32)), (.int (64 : Int32)), (.int (0 : Int32)), (.ref r), (.int (0 : Int32)), (.ref d)])) (fun _ k => XS.iloadN X1.here hx rfl (hb hby d7_24) rfl k) ?_
  obtain ⟨v2, T2, L2, X2, hQ2, st2⟩ := callC X1 hx hZ (y := (⟨"java/lang/Math", "min", "(II)I"⟩ : MethodName)) hown (hw _ (List.mem_of_getElem? (i := 41) rfl)) (hw _ (List.mem_of_getElem? (i := 42) rfl)) (hw _ (List.mem_of_getElem? (i := 43) rfl)) (hw _ (List.mem_of_getElem? (i := 35) rfl)) (by decide) e1 (argsL := [(.int (64 : Int32)), (.int (128 : Int32))]) (rest := [(.int (0 : Int32)), (.ref r), (.int (0 : Int32)), (.ref d)]) (W := 4) (rm_min l Z a0 hw (64 : Int32) (128 : Int32) h1 n0 Z0 (by decide)) rfl (by decide) (by decide) (by decide) (by decide) (g := (mkF m 25 #[.val (.ref d), .val (.int (128 : Int32)), .val (.ref r)] [(.int (128 : Int32)), (.int (64 : Int32)), (.int (0 : Int32)), (.ref r), (.int (0 : Int32)), (.ref d)])) rfl (by rw [hml]; rfl) (lenOf pd0 rfl) rfl (by show 2 * 0 + _ ≤ _; exact Nat.le_of_eq rfl) (hb hby d7_25)
  obtain ⟨rfl, NL2, hk2⟩ := hQ2
  have N0 := Fr.app N0 NL2
  refine Goes.by (T' := T2) (g' := (mkF m 28 #[.val (.ref d), .val (.int (128 : Int32)), .val (.ref r)] [(.int (64 : Int32)), (.int (0 : Int32)), (.ref r), (.int (0 : Int32)), (.ref d)])) st2 ?_
  obtain ⟨T3, h3, L3, X3, e3, NL3, KK3, VR3, st3⟩ := cpS X2 hx hZ hown (hw _ (List.mem_of_getElem? (i := 44) rfl)) (hw _ (List.mem_of_getElem? (i := 47) rfl)) (hw _ (List.mem_of_getElem? (i := 45) rfl)) (hw _ (List.mem_of_getElem? (i := 46) rfl)) hk2 VD V_r (n := 64) (jn := (64 : Int32)) rfl (by rw [hl]) (by simp) (by simp) hfit N0 ge_r (g := (mkF m 28 #[.val (.ref d), .val (.int (128 : Int32)), .val (.ref r)] [(.int (64 : Int32)), (.int (0 : Int32)), (.ref r), (.int (0 : Int32)), (.ref d)])) rfl (by rw [hml]; rfl) rfl (hb hby d7_28) (by decide) (W := 0) (by show 2 * 0 + _ ≤ _; exact Nat.le_of_eq rfl) (by decide)
  have N0 := NL3
  have K0 := K0.trans KK3 (allS (Or.inr sz_r) all0)
  refine Goes.by (T' := T3) (g' := (mkF m 31 #[.val (.ref d), .val (.int (128 : Int32)), .val (.ref r)] [])) st3 ?_
  refine Goes.by (T' := T3) (g' := (mkF m 32 #[.val (.ref d), .val (.int (128 : Int32)), .val (.ref r)] [(.ref r)])) (fun _ k => XS.aloadN X3.here hx rfl (hb hby d7_31) rfl rfl k) ?_
  exact outA X3 hx hlk hret rfl rfl rfl (hb hby d7_32) (by rw [e3]; exact ⟨r, rfl, VR3, sz_r, K0, N0⟩) (by decide) (by decide)
theorem d1_0 : decode prog_36_method_1_code 0 = .ok (.aload_n 0, 1) := by decide +kernel
theorem d1_1 : decode prog_36_method_1_code 1 = .ok (.invokespecial 1, 3) := by decide +kernel
theorem d1_4 : decode prog_36_method_1_code 4 = .ok (.aload_n 0, 1) := by decide +kernel
theorem d1_5 : decode prog_36_method_1_code 5 = .ok (.bipush 64, 2) := by decide +kernel
theorem d1_7 : decode prog_36_method_1_code 7 = .ok (.newarray .double, 2) := by decide +kernel
theorem d1_9 : decode prog_36_method_1_code 9 = .ok (.putfield 7, 3) := by decide +kernel
theorem d1_12 : decode prog_36_method_1_code 12 = .ok (.aload_n 0, 1) := by decide +kernel
theorem d1_13 : decode prog_36_method_1_code 13 = .ok (.bipush 64, 2) := by decide +kernel
theorem d1_15 : decode prog_36_method_1_code 15 = .ok (.newarray .int, 2) := by decide +kernel
theorem d1_17 : decode prog_36_method_1_code 17 = .ok (.putfield 13, 3) := by decide +kernel
theorem d1_20 : decode prog_36_method_1_code 20 = .ok (.return_, 1) := by decide +kernel
theorem pn1 : plainName "com/example/gibbon/gibbon/analysis/SparseSum" = true := by first | (simp [plainName, overriddenIn]; done) | decide +kernel
theorem pd2 : parseMethodDescriptor "()V" = some ⟨[], none⟩ := by decide +kernel
theorem ef_rm_init (m : MethodId) (x0 : Addr) : entryFrame m #[(.ref x0)] 1 = mkF m 0 #[.val (.ref x0)] [] := by first | (simp [entryFrame, mkF, argsToLocals, Value.category, maxLocals]; done) | rfl
set_option maxRecDepth 65536 in
set_option maxHeartbeats 40000000 in
theorem rm_init (l : Launch) (Z : State) (a0 : Array Value) (hw : ∀ d ∈ tables_1, d.before a0 Z = true) (a : Addr) (h0 : Heap) (n0 : Nat) (Z0 : n0 ≤ h0.size) (EA : Exa Z h0 a "com/example/gibbon/gibbon/analysis/SparseSum") (FS : Fld Z h0 a "com/example/gibbon/gibbon/analysis/SparseSum" "sums" "[D" .null) (FI : Fld Z h0 a "com/example/gibbon/gibbon/analysis/SparseSum" "indices" "[I" .null) (FN : Fld Z h0 a "com/example/gibbon/gibbon/analysis/SparseSum" "size" "I" (.int 0)) (ga : n0 ≤ a) :
    Does l (⟨"com/example/gibbon/gibbon/analysis/SparseSum", "<init>", "()V"⟩ : MethodName) prog_36_method_1_code 1 none [] ({ frames := 1, cells := 2, slots := 128, locals := 12 } : Room) Z #[(.ref a)] h0 (fun v h L => ∃ (bs bi : Addr), v = none ∧ Exa Z h a "com/example/gibbon/gibbon/analysis/SparseSum" ∧ Fld Z h a "com/example/gibbon/gibbon/analysis/SparseSum" "sums" "[D" (.ref bs) ∧ Fld Z h a "com/example/gibbon/gibbon/analysis/SparseSum" "indices" "[I" (.ref bi) ∧ Fld Z h a "com/example/gibbon/gibbon/analysis/SparseSum" "size" "I" (.int (0 : Int32)) ∧ Sar Z h bs .double (List.replicate 64 (.double 0)) ∧ Sar Z h bi .int (List.replicate 64 (.int 0)) ∧ n0 ≤ bs ∧ n0 ≤ bi ∧ a ≠ bs ∧ a ≠ bi ∧ bs ≠ bi ∧ Keep h0 h [a] ∧ Fr n0 L) := by
  refine Does.of (plainFor_of_name pn1) ?_
  intro p e s m below meth c s₁ hx hby hml hret hlk hZ hown hnm X0 e0
  have N0 := Fr.nil n0
  refine Goes.cast (g' := mkF m 0 #[.val (.ref a)] []) (ef_rm_init m a) ?_
  have K0 := Keep.refl h0 [a]
  refine Goes.by (T' := s₁) (g' := (mkF m 1 #[.val (.ref a)] [(.ref a)])) (fun _ k => XS.aloadN X0.here hx rfl (hb hby d1_0) rfl rfl k) ?_
  obtain ⟨T4, X4, e4, st4⟩ := initO X0 hx hZ hown (hw _ (List.mem_of_getElem? (i := 6) rfl)) (hw _ (List.mem_of_getElem? (i := 7) rfl)) (hw _ (List.mem_of_getElem? (i := 8) rfl)) e0 (g := (mkF m 1 #[.val (.ref a)] [(.ref a)])) rfl (by rw [hml]; rfl) rfl (hb hby d1_1) (by decide) (W := 0) (by show 2 * 0 + _ ≤ _; exact Nat.le_of_eq rfl) (by decide)
  refine Goes.by (T' := T4) (g' := (mkF m 4 #[.val (.ref a)] [])) st4 ?_
  refine Goes.by (T' := T4) (g' := (mkF m 5 #[.val (.ref a)] [(.ref a)])) (fun _ k => XS.aloadN X4.here hx rfl (hb hby d1_4) rfl rfl k) ?_
  refine Goes.by (T' := T4) (g' := (mkF m 7 #[.val (.ref a)] [(.int (64 : Int32)), (.ref a)])) (fun _ k => XS.bipush X4.here hx rfl (hb hby d1_5)  k) ?_
  obtain ⟨T5, h5, k5, X5, e5, E5, A5, st5⟩ := newP X4 hx hZ (hw _ (List.mem_of_getElem? (i := 9) rfl)) e4 (g := (mkF m 7 #[.val (.ref a)] [(.int (64 : Int32)), (.ref a)])) rfl (hb hby d1_7) rfl (by decide) (cap := 64) (by decide) (by decide) (by decide) (by decide)
  obtain ⟨bs, g5⟩ : ∃ z, z = h0.size := ⟨_, rfl⟩
  rw [← g5] at A5 st5
  have ne_a_bs : a ≠ bs := fun q => Nat.lt_irrefl _ (Nat.lt_of_lt_of_eq EA.lt (g5.symm.trans q.symm))
  have ge_bs : n0 ≤ bs := Nat.le_trans Z0 (Nat.le_of_eq g5.symm)
  have sz_bs : h0.size ≤ bs := Nat.le_trans K0.1 (Nat.le_of_eq g5.symm)
  have EA := EA.ext E5
  have FS := FS.ext E5
  have FI := FI.ext E5
  have FN := FN.ext E5
  have Z0 := Nat.le_trans Z0 E5.1
  have K0 := K0.ext E5
  have V_bs : Sar Z h5 bs .double (List.replicate 64 (.double 0)) := Sar.new (n := 64) A5 (by decide)
  refine Goes.by (T' := T5) (g' := (mkF m 9 #[.val (.ref a)] [(.ref bs), (.ref a)])) st5 ?_
  obtain ⟨T6, h6, X6, e6, W6, st6⟩ := putF X5 hx hZ hown (host := "") (Or.inl (hw _ (List.mem_of_getElem? (i := 10) rfl))) Via.refl e5 FS EA (Or.inl (hw _ (List.mem_of_getElem? (i := 11) rfl))) (hw _ (List.mem_of_getElem? (i := 1) rfl)) (ty := (.array .double)) (by decide) rfl rfl (g := (mkF m 9 #[.val (.ref a)] [(.ref bs), (.ref a)])) rfl rfl (hb hby d1_9)
  have N0 := Fr.snoc X6 N0 ga
  have EA := EA.wr W6
  have FS := FS.same W6
  have FI := FI.other W6 (Or.inr (slot_ne (t := (.array .int)) (t' := (.array .double)) (Or.inl (hw _ (List.mem_of_getElem? (i := 14) rfl))) (Or.inl (hw _ (List.mem_of_getElem? (i := 11) rfl))) (by decide) (by decide) (by decide)))
  have FN := FN.other W6 (Or.inr (slot_ne (t := .int) (t' := (.array .double)) (Or.inl (hw _ (List.mem_of_getElem? (i := 21) rfl))) (Or.inl (hw _ (List.mem_of_getElem? (i := 11) rfl))) (by decide) (by decide) (by decide)))
  have V_bs := V_bs.other W6 (Ne.symm ne_a_bs)
  have Z0 := Nat.le_trans Z0 (Nat.le_of_eq W6.size.symm)
  have K0 := K0.wr W6 (Or.inl (by simp))
  refine Goes.by (T' := T6) (g' := (mkF m 12 #[.val (.ref a)] [])) st6 ?_
  refine Goes.by (T' := T6) (g' := (mkF m 13 #[.val (.ref a)] [(.ref a)])) (fun _ k => XS.aloadN X6.here hx rfl (hb hby d1_12) rfl rfl k) ?_
  refine Goes.by (T' := T6) (g' := (mkF m 15 #[.val (.ref a)] [(.int (64 : Int32)), (.ref a)])) (fun _ k => XS.bipush X6.here hx rfl (hb hby d1_13)  k) ?_
  obtain ⟨T7, h7, k7, X7, e7, E7, A7, st7⟩ := newP X6 hx hZ (hw _ (List.mem_of_getElem? (i := 12) rfl)) e6 (g := (mkF m 15 #[.val (.ref a)] [(.int (64 : Int32)), (.ref a)])) rfl (hb hby d1_15) rfl (by decide) (cap := 64) (by decide) (by decide) (by decide) (by decide)
  obtain ⟨bi, g7⟩ : ∃ z, z = h6.size := ⟨_, rfl⟩
  rw [← g7] at A7 st7
  have ne_a_bi : a ≠ bi := fun q => Nat.lt_irrefl _ (Nat.lt_of_lt_of_eq EA.lt (g7.symm.trans q.symm))
  have ne_bs_bi : bs ≠ bi := fun q => Nat.lt_irrefl _ (Nat.lt_of_lt_of_eq V_bs.lt (g7.symm.trans q.symm))
  have ge_bi : n0 ≤ bi := Nat.le_trans Z0 (Nat.le_of_eq g7.symm)
  have sz_bi : h0.size ≤ bi := Nat.le_trans K0.1 (Nat.le_of_eq g7.symm)
  have EA := EA.ext E7
  have FS := FS.ext E7
  have FI := FI.ext E7
  have FN := FN.ext E7
  have V_bs := V_bs.ext E7
  have Z0 := Nat.le_trans Z0 E7.1
  have K0 := K0.ext E7
  have V_bi : Sar Z h7 bi .int (List.replicate 64 (.int 0)) := Sar.new (n := 64) A7 (by decide)
  refine Goes.by (T' := T7) (g' := (mkF m 17 #[.val (.ref a)] [(.ref bi), (.ref a)])) st7 ?_
  obtain ⟨T8, h8, X8, e8, W8, st8⟩ := putF X7 hx hZ hown (host := "") (Or.inl (hw _ (List.mem_of_getElem? (i := 13) rfl))) Via.refl e7 FI EA (Or.inl (hw _ (List.mem_of_getElem? (i := 14) rfl))) (hw _ (List.mem_of_getElem? (i := 1) rfl)) (ty := (.array .int)) (by decide) rfl rfl (g := (mkF m 17 #[.val (.ref a)] [(.ref bi), (.ref a)])) rfl rfl (hb hby d1_17)
  have N0 := Fr.snoc X8 N0 ga
  have EA := EA.wr W8
  have FS := FS.other W8 (Or.inr (slot_ne (t := (.array .double)) (t' := (.array .int)) (Or.inl (hw _ (List.mem_of_getElem? (i := 11) rfl))) (Or.inl (hw _ (List.mem_of_getElem? (i := 14) rfl))) (by decide) (by decide) (by decide)))
  have FI := FI.same W8
  have FN := FN.other W8 (Or.inr (slot_ne (t := .int) (t' := (.array .int)) (Or.inl (hw _ (List.mem_of_getElem? (i := 21) rfl))) (Or.inl (hw _ (List.mem_of_getElem? (i := 14) rfl))) (by decide) (by decide) (by decide)))
  have V_bs := V_bs.other W8 (Ne.symm ne_a_bs)
  have V_bi := V_bi.other W8 (Ne.symm ne_a_bi)
  have Z0 := Nat.le_trans Z0 (Nat.le_of_eq W8.size.symm)
  have K0 := K0.wr W8 (Or.inl (by simp))
  refine Goes.by (T' := T8) (g' := (mkF m 20 #[.val (.ref a)] [])) st8 ?_
  exact outV X8 hx hlk hret (hb hby d1_20) (by rw [e8]; exact ⟨bs, bi, rfl, EA, FS, FI, FN, V_bs, V_bi, ge_bs, ge_bi, ne_a_bs, ne_a_bi, ne_bs_bi, K0, N0⟩) (by decide) (by decide)
theorem d3_0 : decode prog_36_method_2_code 0 = .ok (.iload_n 1, 1) := by decide +kernel
theorem d3_1 : decode prog_36_method_2_code 1 = .ok (.aload_n 0, 1) := by decide +kernel
theorem d3_2 : decode prog_36_method_2_code 2 = .ok (.getfield 7, 3) := by decide +kernel
theorem d3_5 : decode prog_36_method_2_code 5 = .ok (.arraylength, 1) := by decide +kernel
theorem d3_6 : decode prog_36_method_2_code 6 = .ok (.if_icmp .lt 27, 3) := by decide +kernel
theorem d3_9 : decode prog_36_method_2_code 9 = .ok (.aload_n 0, 1) := by decide +kernel
theorem d3_10 : decode prog_36_method_2_code 10 = .ok (.aload_n 0, 1) := by decide +kernel
theorem d3_11 : decode prog_36_method_2_code 11 = .ok (.getfield 7, 3) := by decide +kernel
theorem d3_14 : decode prog_36_method_2_code 14 = .ok (.iload_n 1, 1) := by decide +kernel
theorem d3_15 : decode prog_36_method_2_code 15 = .ok (.iconst 1, 1) := by decide +kernel
theorem d3_16 : decode prog_36_method_2_code 16 = .ok (.iadd, 1) := by decide +kernel
theorem d3_17 : decode prog_36_method_2_code 17 = .ok (.iconst 2, 1) := by decide +kernel
theorem d3_18 : decode prog_36_method_2_code 18 = .ok (.aload_n 0, 1) := by decide +kernel
theorem d3_19 : decode prog_36_method_2_code 19 = .ok (.getfield 7, 3) := by decide +kernel
theorem d3_22 : decode prog_36_method_2_code 22 = .ok (.arraylength, 1) := by decide +kernel
theorem d3_23 : decode prog_36_method_2_code 23 = .ok (.imul, 1) := by decide +kernel
theorem d3_24 : decode prog_36_method_2_code 24 = .ok (.invokestatic 17, 3) := by decide +kernel
theorem d3_27 : decode prog_36_method_2_code 27 = .ok (.invokestatic 23, 3) := by decide +kernel
theorem d3_30 : decode prog_36_method_2_code 30 = .ok (.putfield 7, 3) := by decide +kernel
theorem d3_33 : decode prog_36_method_2_code 33 = .ok (.aload_n 0, 1) := by decide +kernel
theorem d3_34 : decode prog_36_method_2_code 34 = .ok (.getfield 7, 3) := by decide +kernel
theorem d3_37 : decode prog_36_method_2_code 37 = .ok (.iload_n 1, 1) := by decide +kernel
theorem d3_38 : decode prog_36_method_2_code 38 = .ok (.daload, 1) := by decide +kernel
theorem d3_39 : decode prog_36_method_2_code 39 = .ok (.dconst 0, 1) := by decide +kernel
theorem d3_40 : decode prog_36_method_2_code 40 = .ok (.dcmp .l, 1) := by decide +kernel
theorem d3_41 : decode prog_36_method_2_code 41 = .ok (.ifCond .ne 52, 3) := by decide +kernel
theorem d3_44 : decode prog_36_method_2_code 44 = .ok (.aload_n 0, 1) := by decide +kernel
theorem d3_45 : decode prog_36_method_2_code 45 = .ok (.getfield 29, 3) := by decide +kernel
theorem d3_48 : decode prog_36_method_2_code 48 = .ok (.aload_n 0, 1) := by decide +kernel
theorem d3_49 : decode prog_36_method_2_code 49 = .ok (.getfield 13, 3) := by decide +kernel
theorem d3_52 : decode prog_36_method_2_code 52 = .ok (.arraylength, 1) := by decide +kernel
theorem d3_53 : decode prog_36_method_2_code 53 = .ok (.if_icmp .ne 20, 3) := by decide +kernel
theorem d3_56 : decode prog_36_method_2_code 56 = .ok (.aload_n 0, 1) := by decide +kernel
theorem d3_57 : decode prog_36_method_2_code 57 = .ok (.aload_n 0, 1) := by decide +kernel
theorem d3_58 : decode prog_36_method_2_code 58 = .ok (.getfield 13, 3) := by decide +kernel
theorem d3_61 : decode prog_36_method_2_code 61 = .ok (.iconst 2, 1) := by decide +kernel
theorem d3_62 : decode prog_36_method_2_code 62 = .ok (.aload_n 0, 1) := by decide +kernel
theorem d3_63 : decode prog_36_method_2_code 63 = .ok (.getfield 29, 3) := by decide +kernel
theorem d3_66 : decode prog_36_method_2_code 66 = .ok (.imul, 1) := by decide +kernel
theorem d3_67 : decode prog_36_method_2_code 67 = .ok (.invokestatic 33, 3) := by decide +kernel
theorem d3_70 : decode prog_36_method_2_code 70 = .ok (.putfield 13, 3) := by decide +kernel
theorem d3_73 : decode prog_36_method_2_code 73 = .ok (.aload_n 0, 1) := by decide +kernel
theorem d3_74 : decode prog_36_method_2_code 74 = .ok (.getfield 13, 3) := by decide +kernel
theorem d3_77 : decode prog_36_method_2_code 77 = .ok (.aload_n 0, 1) := by decide +kernel
theorem d3_78 : decode prog_36_method_2_code 78 = .ok (.getfield 29, 3) := by decide +kernel
theorem d3_81 : decode prog_36_method_2_code 81 = .ok (.iload_n 1, 1) := by decide +kernel
theorem d3_82 : decode prog_36_method_2_code 82 = .ok (.iastore, 1) := by decide +kernel
theorem d3_83 : decode prog_36_method_2_code 83 = .ok (.aload_n 0, 1) := by decide +kernel
theorem d3_84 : decode prog_36_method_2_code 84 = .ok (.dup, 1) := by decide +kernel
theorem d3_85 : decode prog_36_method_2_code 85 = .ok (.getfield 29, 3) := by decide +kernel
theorem d3_88 : decode prog_36_method_2_code 88 = .ok (.iconst 1, 1) := by decide +kernel
theorem d3_89 : decode prog_36_method_2_code 89 = .ok (.iadd, 1) := by decide +kernel
theorem d3_90 : decode prog_36_method_2_code 90 = .ok (.putfield 29, 3) := by decide +kernel
theorem d3_93 : decode prog_36_method_2_code 93 = .ok (.aload_n 0, 1) := by decide +kernel
theorem d3_94 : decode prog_36_method_2_code 94 = .ok (.getfield 7, 3) := by decide +kernel
theorem d3_97 : decode prog_36_method_2_code 97 = .ok (.iload_n 1, 1) := by decide +kernel
theorem d3_98 : decode prog_36_method_2_code 98 = .ok (.dup2, 1) := by decide +kernel
theorem d3_99 : decode prog_36_method_2_code 99 = .ok (.daload, 1) := by decide +kernel
theorem d3_100 : decode prog_36_method_2_code 100 = .ok (.dload_n 2, 1) := by decide +kernel
theorem d3_101 : decode prog_36_method_2_code 101 = .ok (.dadd, 1) := by decide +kernel
theorem d3_102 : decode prog_36_method_2_code 102 = .ok (.dastore, 1) := by decide +kernel
theorem d3_103 : decode prog_36_method_2_code 103 = .ok (.aload_n 0, 1) := by decide +kernel
theorem d3_104 : decode prog_36_method_2_code 104 = .ok (.getfield 7, 3) := by decide +kernel
theorem d3_107 : decode prog_36_method_2_code 107 = .ok (.iload_n 1, 1) := by decide +kernel
theorem d3_108 : decode prog_36_method_2_code 108 = .ok (.daload, 1) := by decide +kernel
theorem d3_109 : decode prog_36_method_2_code 109 = .ok (.dreturn, 1) := by decide +kernel
theorem pd3 : parseMethodDescriptor "(ID)D" = some ⟨[.int, .double], some .double⟩ := by decide +kernel
theorem ef_rm_addN (m : MethodId) (x0 : Addr) (x1 : Int32) (x2 : UInt64) : entryFrame m #[(.ref x0), (.int x1), (.double x2)] 4 = mkF m 0 #[.val (.ref x0), .val (.int x1), .val (.double x2), .second] [] := by first | (simp [entryFrame, mkF, argsToLocals, Value.category, maxLocals]; done) | rfl
set_option maxRecDepth 65536 in
set_option maxHeartbeats 40000000 in
theorem rm_addN (l : Launch) (Z : State) (a0 : Array Value) (hw : ∀ d ∈ tables_1, d.before a0 Z = true) (a bs bi : Addr) (n kx : Int32) (kk : Nat) (x : UInt64) (u : Int) (f : Nat → Int) (ks : List Nat) (xs ys : List Value) (h0 : Heap) (n0 : Nat) (Z0 : n0 ≤ h0.size) (EA : Exa Z h0 a "com/example/gibbon/gibbon/analysis/SparseSum") (FS : Fld Z h0 a "com/example/gibbon/gibbon/analysis/SparseSum" "sums" "[D" (.ref bs)) (FI : Fld Z h0 a "com/example/gibbon/gibbon/analysis/SparseSum" "indices" "[I" (.ref bi)) (FN : Fld Z h0 a "com/example/gibbon/gibbon/analysis/SparseSum" "size" "I" (.int n)) (VS : Sar Z h0 bs .double xs) (VI : Sar Z h0 bi .int ys) (hR : OwnRep f ks xs ys n) (hk : kx.toInt = kk) (hkk : kk < 100) (Dx : Core.DInt u x) (hu : 1 ≤ u ∧ u ≤ 256) (hf : 0 ≤ f kk ∧ f kk ≤ 2000) (hks : ks.length < 4) (ga : n0 ≤ a) (gs : n0 ≤ bs) (gi : n0 ≤ bi) (n1 : a ≠ bs) (n2 : a ≠ bi) (n3 : bs ≠ bi) (hlt : kk < xs.length) :
    Does l (⟨"com/example/gibbon/gibbon/analysis/SparseSum", "add", "(ID)D"⟩ : MethodName) prog_36_method_2_code 4 (some .double) [] ({ frames := 0, cells := 0, slots := 0, locals := 0 } : Room) Z #[(.ref a), (.int kx), (.double x)] h0 (fun v h L => ∃ (r : UInt64) (b2 : Addr) (n2 : Int32) (xs2 ys2 : List Value), v = some (.double r) ∧ Exa Z h a "com/example/gibbon/gibbon/analysis/SparseSum" ∧ Fld Z h a "com/example/gibbon/gibbon/analysis/SparseSum" "sums" "[D" (.ref b2) ∧ Fld Z h a "com/example/gibbon/gibbon/analysis/SparseSum" "indices" "[I" (.ref bi) ∧ Fld Z h a "com/example/gibbon/gibbon/analysis/SparseSum" "size" "I" (.int n2) ∧ Sar Z h b2 .double xs2 ∧ Sar Z h bi .int ys2 ∧ OwnRep (own_upd f kk u) (if f kk = 0 then ks ++ [kk] else ks) xs2 ys2 n2 ∧ kk < xs2.length ∧ xs2.length = xs.length ∧ n0 ≤ b2 ∧ a ≠ b2 ∧ b2 ≠ bi ∧ Keep h0 h [a, bs, bi] ∧ Fr n0 L) := by
  refine Does.of (plainFor_of_name pn1) ?_
  intro p e s m below meth c s₁ hx hby hml hret hlk hZ hown hnm X0 e0
  have N0 := Fr.nil n0
  refine Goes.cast (g' := mkF m 0 #[.val (.ref a), .val (.int kx), .val (.double x), .second] []) (ef_rm_addN m a kx x) ?_
  have K0 := Keep.refl h0 [a, bs, bi]
  have hlen := hR.1
  have h32 : (xs.length.toInt32).toInt = xs.length := own_n32 (by omega)
  refine Goes.by (T' := s₁) (g' := (mkF m 1 #[.val (.ref a), .val (.int kx), .val (.double x), .second] [(.int kx)])) (fun _ k => XS.iloadN X0.here hx rfl (hb hby d3_0) rfl k) ?_
  refine Goes.by (T' := s₁) (g' := (mkF m 2 #[.val (.ref a), .val (.int kx), .val (.double x), .second] [(.ref a), (.int kx)])) (fun _ k => XS.aloadN X0.here hx rfl (hb hby d3_1) rfl rfl k) ?_
  obtain ⟨T9, X9, e9, st9⟩ := getF X0 hx hZ hown (host := "") (Or.inl (hw _ (List.mem_of_getElem? (i := 10) rfl))) Via.refl e0 FS (g := (mkF m 2 #[.val (.ref a), .val (.int kx), .val (.double x), .second] [(.ref a), (.int kx)])) rfl rfl (hb hby d3_2)
  refine Goes.by (T' := T9) (g' := (mkF m 5 #[.val (.ref a), .val (.int kx), .val (.double x), .second] [(.ref bs), (.int kx)])) st9 ?_
  refine Goes.by (T' := T9) (g' := (mkF m 6 #[.val (.ref a), .val (.int kx), .val (.double x), .second] [(.int xs.length.toInt32), (.int kx)])) (lenS X9 hx hZ e9 VS (n := xs.length.toInt32) rfl (g := (mkF m 5 #[.val (.ref a), .val (.int kx), .val (.double x), .second] [(.ref bs), (.int kx)])) rfl rfl (hb hby d3_5)) ?_
  refine Goes.by (T' := T9) (g' := (mkF m 33 #[.val (.ref a), .val (.int kx), .val (.double x), .second] [])) (fun _ k => XS.icmpYes X9.here hx rfl (pc0 := 6) (pc' := 33) rfl (hb hby d3_6) rfl (tlt (Int32.lt_iff_toInt_lt.mpr (by rw [hk, h32]; omega))).1 (by decide) (by decide) k) ?_
  refine Goes.by (T' := T9) (g' := (mkF m 34 #[.val (.ref a), .val (.int kx), .val (.double x), .second] [(.ref a)])) (fun _ k => XS.aloadN X9.here hx rfl (hb hby d3_33) rfl rfl k) ?_
  obtain ⟨T10, X10, e10, st10⟩ := getF X9 hx hZ hown (host := "") (Or.inl (hw _ (List.mem_of_getElem? (i := 10) rfl))) Via.refl e9 FS (g := (mkF m 34 #[.val (.ref a), .val (.int kx), .val (.double x), .second] [(.ref a)])) rfl rfl (hb hby d3_34)
  refine Goes.by (T' := T10) (g' := (mkF m 37 #[.val (.ref a), .val (.int kx), .val (.double x), .second] [(.ref bs)])) st10 ?_
  refine Goes.by (T' := T10) (g' := (mkF m 38 #[.val (.ref a), .val (.int kx), .val (.double x), .second] [(.int kx), (.ref bs)])) (fun _ k => XS.iloadN X10.here hx rfl (hb hby d3_37) rfl k) ?_
  obtain ⟨dk, hdk, Ddk⟩ := hR.2.1 kk hlt
  refine Goes.by (T' := T10) (g' := (mkF m 39 #[.val (.ref a), .val (.int kx), .val (.double x), .second] [(.double dk)])) (ldDS X10 hx hZ e10 VS (v := (.double dk)) (j := kx) kk hk hdk (g := (mkF m 38 #[.val (.ref a), .val (.int kx), .val (.double x), .second] [(.int kx), (.ref bs)])) rfl rfl (hb hby d3_38)) ?_
  refine Goes.by (T' := T10) (g' := (mkF m 40 #[.val (.ref a), .val (.int kx), .val (.double x), .second] [(.double (0 : UInt64)), (.double dk)])) (fun _ k => XS.dconst0 X10.here hx rfl (hb hby d3_39) rfl k) ?_
  by_cases hz : f kk = 0
  · refine Goes.by (T' := T10) (g' := (mkF m 41 #[.val (.ref a), .val (.int kx), .val (.double x), .second] [(.int (0 : Int32))])) (fun _ k => XS.dcmpS X10.here hx rfl (hb hby d3_40) rfl (cmpD_eq Ddk DInt_zero hz _) k) ?_
    refine Goes.by (T' := T10) (g' := (mkF m 44 #[.val (.ref a), .val (.int kx), .val (.double x), .second] [])) (fun _ k => XS.ifNo X10.here hx rfl (hb hby d3_41) rfl (by decide) k) ?_
    refine Goes.by (T' := T10) (g' := (mkF m 45 #[.val (.ref a), .val (.int kx), .val (.double x), .second] [(.ref a)])) (fun _ k => XS.aloadN X10.here hx rfl (hb hby d3_44) rfl rfl k) ?_
    obtain ⟨T11, X11, e11, st11⟩ := getF X10 hx hZ hown (host := "") (Or.inl (hw _ (List.mem_of_getElem? (i := 20) rfl))) Via.refl e10 FN (g := (mkF m 45 #[.val (.ref a), .val (.int kx), .val (.double x), .second] [(.ref a)])) rfl rfl (hb hby d3_45)
    refine Goes.by (T' := T11) (g' := (mkF m 48 #[.val (.ref a), .val (.int kx), .val (.double x), .second] [(.int n)])) st11 ?_
    refine Goes.by (T' := T11) (g' := (mkF m 49 #[.val (.ref a), .val (.int kx), .val (.double x), .second] [(.ref a), (.int n)])) (fun _ k => XS.aloadN X11.here hx rfl (hb hby d3_48) rfl rfl k) ?_
    obtain ⟨T12, X12, e12, st12⟩ := getF X11 hx hZ hown (host := "") (Or.inl (hw _ (List.mem_of_getElem? (i := 13) rfl))) Via.refl e11 FI (g := (mkF m 49 #[.val (.ref a), .val (.int kx), .val (.double x), .second] [(.ref a), (.int n)])) rfl rfl (hb hby d3_49)
    refine Goes.by (T' := T12) (g' := (mkF m 52 #[.val (.ref a), .val (.int kx), .val (.double x), .second] [(.ref bi), (.int n)])) st12 ?_
    refine Goes.by (T' := T12) (g' := (mkF m 53 #[.val (.ref a), .val (.int kx), .val (.double x), .second] [(.int (64 : Int32)), (.int n)])) (lenS X12 hx hZ e12 VI (n := (64 : Int32)) (by rw [hR.2.2.2.1]; rfl) (g := (mkF m 52 #[.val (.ref a), .val (.int kx), .val (.double x), .second] [(.ref bi), (.int n)])) rfl rfl (hb hby d3_52)) ?_
    have hn64 : ¬ n = (64 : Int32) := fun q => by
      have t := hR.2.2.2.2.1
      rw [q, show (64 : Int32).toInt = 64 from by decide] at t
      omega
    refine Goes.by (T' := T12) (g' := (mkF m 73 #[.val (.ref a), .val (.int kx), .val (.double x), .second] [])) (fun _ k => XS.icmpYes X12.here hx rfl (pc0 := 53) (pc' := 73) rfl (hb hby d3_53) rfl (feq hn64).2 (by decide) (by decide) k) ?_
    refine Goes.by (T' := T12) (g' := (mkF m 74 #[.val (.ref a), .val (.int kx), .val (.double x), .second] [(.ref a)])) (fun _ k => XS.aloadN X12.here hx rfl (hb hby d3_73) rfl rfl k) ?_
    obtain ⟨T13, X13, e13, st13⟩ := getF X12 hx hZ hown (host := "") (Or.inl (hw _ (List.mem_of_getElem? (i := 13) rfl))) Via.refl e12 FI (g := (mkF m 74 #[.val (.ref a), .val (.int kx), .val (.double x), .second] [(.ref a)])) rfl rfl (hb hby d3_74)
    refine Goes.by (T' := T13) (g' := (mkF m 77 #[.val (.ref a), .val (.int kx), .val (.double x), .second] [(.ref bi)])) st13 ?_
    refine Goes.by (T' := T13) (g' := (mkF m 78 #[.val (.ref a), .val (.int kx), .val (.double x), .second] [(.ref a), (.ref bi)])) (fun _ k => XS.aloadN X13.here hx rfl (hb hby d3_77) rfl rfl k) ?_
    obtain ⟨T14, X14, e14, st14⟩ := getF X13 hx hZ hown (host := "") (Or.inl (hw _ (List.mem_of_getElem? (i := 20) rfl))) Via.refl e13 FN (g := (mkF m 78 #[.val (.ref a), .val (.int kx), .val (.double x), .second] [(.ref a), (.ref bi)])) rfl rfl (hb hby d3_78)
    refine Goes.by (T' := T14) (g' := (mkF m 81 #[.val (.ref a), .val (.int kx), .val (.double x), .second] [(.int n), (.ref bi)])) st14 ?_
    refine Goes.by (T' := T14) (g' := (mkF m 82 #[.val (.ref a), .val (.int kx), .val (.double x), .second] [(.int kx), (.int n), (.ref bi)])) (fun _ k => XS.iloadN X14.here hx rfl (hb hby d3_81) rfl k) ?_
    obtain ⟨T15, h15, X15, e15, W15, V15, st15⟩ := stIS X14 hx hZ e14 VI (j := n) ks.length hR.2.2.2.2.1 (by rw [hR.2.2.2.1]; omega) (g := (mkF m 82 #[.val (.ref a), .val (.int kx), .val (.double x), .second] [(.int kx), (.int n), (.ref bi)])) rfl rfl (hb hby d3_82)
    have N0 := Fr.snoc X15 N0 gi
    have EA := EA.wr W15
    have FS := FS.other W15 (Or.inl n2)
    have FI := FI.other W15 (Or.inl n2)
    have FN := FN.other W15 (Or.inl n2)
    have VS := VS.other W15 n3
    have Z0 := Nat.le_trans Z0 (Nat.le_of_eq W15.size.symm)
    have K0 := K0.wr W15 (Or.inl (by simp))
    have VI : Sar Z h15 bi .int (ys.set ks.length (.int kx)) := V15
    refine Goes.by (T' := T15) (g' := (mkF m 83 #[.val (.ref a), .val (.int kx), .val (.double x), .second] [])) st15 ?_
    rw [if_pos hz]
    refine Goes.by (T' := T15) (g' := (mkF m 84 #[.val (.ref a), .val (.int kx), .val (.double x), .second] [(.ref a)])) (fun _ k => XS.aloadN X15.here hx rfl (hb hby d3_83) rfl rfl k) ?_
    refine Goes.by (T' := T15) (g' := (mkF m 85 #[.val (.ref a), .val (.int kx), .val (.double x), .second] [(.ref a), (.ref a)])) (fun _ k => XS.dup X15.here hx rfl (hb hby d3_84) rfl rfl k) ?_
    obtain ⟨T16, X16, e16, st16⟩ := getF X15 hx hZ hown (host := "") (Or.inl (hw _ (List.mem_of_getElem? (i := 20) rfl))) Via.refl e15 FN (g := (mkF m 85 #[.val (.ref a), .val (.int kx), .val (.double x), .second] [(.ref a), (.ref a)])) rfl rfl (hb hby d3_85)
    refine Goes.by (T' := T16) (g' := (mkF m 88 #[.val (.ref a), .val (.int kx), .val (.double x), .second] [(.int n), (.ref a)])) st16 ?_
    refine Goes.by (T' := T16) (g' := (mkF m 89 #[.val (.ref a), .val (.int kx), .val (.double x), .second] [(.int (1 : Int32)), (.int n), (.ref a)])) (fun _ k => XS.iconst X16.here hx rfl (hb hby d3_88)  k) ?_
    refine Goes.by (T' := T16) (g' := (mkF m 90 #[.val (.ref a), .val (.int kx), .val (.double x), .second] [(.int (n + (1 : Int32))), (.ref a)])) (fun _ k => XS.iadd X16.here hx rfl (hb hby d3_89) rfl k) ?_
    obtain ⟨T17, h17, X17, e17, W17, st17⟩ := putF X16 hx hZ hown (host := "") (Or.inl (hw _ (List.mem_of_getElem? (i := 20) rfl))) Via.refl e16 FN EA (Or.inl (hw _ (List.mem_of_getElem? (i := 21) rfl))) (hw _ (List.mem_of_getElem? (i := 1) rfl)) (ty := .int) (by decide) rfl rfl (g := (mkF m 90 #[.val (.ref a), .val (.int kx), .val (.double x), .second] [(.int (n + (1 : Int32))), (.ref a)])) rfl rfl (hb hby d3_90)
    have N0 := Fr.snoc X17 N0 ga
    have EA := EA.wr W17
    have FS := FS.other W17 (Or.inr (slot_ne (t := (.array .double)) (t' := .int) (Or.inl (hw _ (List.mem_of_getElem? (i := 11) rfl))) (Or.inl (hw _ (List.mem_of_getElem? (i := 21) rfl))) (by decide) (by decide) (by decide)))
    have FI := FI.other W17 (Or.inr (slot_ne (t := (.array .int)) (t' := .int) (Or.inl (hw _ (List.mem_of_getElem? (i := 14) rfl))) (Or.inl (hw _ (List.mem_of_getElem? (i := 21) rfl))) (by decide) (by decide) (by decide)))
    have FN := FN.same W17
    have VS := VS.other W17 (Ne.symm n1)
    have VI := VI.other W17 (Ne.symm n2)
    have Z0 := Nat.le_trans Z0 (Nat.le_of_eq W17.size.symm)
    have K0 := K0.wr W17 (Or.inl (by simp))
    refine Goes.by (T' := T17) (g' := (mkF m 93 #[.val (.ref a), .val (.int kx), .val (.double x), .second] [])) st17 ?_
    refine Goes.by (T' := T17) (g' := (mkF m 94 #[.val (.ref a), .val (.int kx), .val (.double x), .second] [(.ref a)])) (fun _ k => XS.aloadN X17.here hx rfl (hb hby d3_93) rfl rfl k) ?_
    obtain ⟨T18, X18, e18, st18⟩ := getF X17 hx hZ hown (host := "") (Or.inl (hw _ (List.mem_of_getElem? (i := 10) rfl))) Via.refl e17 FS (g := (mkF m 94 #[.val (.ref a), .val (.int kx), .val (.double x), .second] [(.ref a)])) rfl rfl (hb hby d3_94)
    refine Goes.by (T' := T18) (g' := (mkF m 97 #[.val (.ref a), .val (.int kx), .val (.double x), .second] [(.ref bs)])) st18 ?_
    refine Goes.by (T' := T18) (g' := (mkF m 98 #[.val (.ref a), .val (.int kx), .val (.double x), .second] [(.int kx), (.ref bs)])) (fun _ k => XS.iloadN X18.here hx rfl (hb hby d3_97) rfl k) ?_
    refine Goes.by (T' := T18) (g' := (mkF m 99 #[.val (.ref a), .val (.int kx), .val (.double x), .second] [(.int kx), (.ref bs), (.int kx), (.ref bs)])) (fun _ k => XT.dup2 X18.here hx rfl (hb hby d3_98) rfl rfl rfl k) ?_
    refine Goes.by (T' := T18) (g' := (mkF m 100 #[.val (.ref a), .val (.int kx), .val (.double x), .second] [(.double dk), (.int kx), (.ref bs)])) (ldDS X18 hx hZ e18 VS (v := (.double dk)) (j := kx) kk hk hdk (g := (mkF m 99 #[.val (.ref a), .val (.int kx), .val (.double x), .second] [(.int kx), (.ref bs), (.int kx), (.ref bs)])) rfl rfl (hb hby d3_99)) ?_
    refine Goes.by (T' := T18) (g' := (mkF m 101 #[.val (.ref a), .val (.int kx), .val (.double x), .second] [(.double x), (.double dk), (.int kx), (.ref bs)])) (fun _ k => XS.dloadN X18.here hx rfl (hb hby d3_100) rfl k) ?_
    obtain ⟨tt, q_tt⟩ : ∃ zz, FP.dadd dk x = zz := ⟨_, rfl⟩
    have D_tt : Core.DInt (f kk + u) tt := DInt_add q_tt Ddk Dx (by omega)
    refine Goes.by (T' := T18) (g' := (mkF m 102 #[.val (.ref a), .val (.int kx), .val (.double x), .second] [(.double tt), (.int kx), (.ref bs)])) (fun _ k => XS.daddS X18.here hx rfl (hb hby d3_101) rfl (by rw [q_tt]; exact DInt_nn D_tt) q_tt k) ?_
    obtain ⟨T19, h19, X19, e19, W19, V19, st19⟩ := stDS X18 hx hZ e18 VS (j := kx) kk hk hlt (g := (mkF m 102 #[.val (.ref a), .val (.int kx), .val (.double x), .second] [(.double tt), (.int kx), (.ref bs)])) rfl rfl (hb hby d3_102)
    have N0 := Fr.snoc X19 N0 gs
    have EA := EA.wr W19
    have FS := FS.other W19 (Or.inl n1)
    have FI := FI.other W19 (Or.inl n1)
    have FN := FN.other W19 (Or.inl n1)
    have VI := VI.other W19 (Ne.symm n3)
    have Z0 := Nat.le_trans Z0 (Nat.le_of_eq W19.size.symm)
    have K0 := K0.wr W19 (Or.inl (by simp))
    have VS : Sar Z h19 bs .double (xs.set kk (.double tt)) := V19
    refine Goes.by (T' := T19) (g' := (mkF m 103 #[.val (.ref a), .val (.int kx), .val (.double x), .second] [])) st19 ?_
    refine Goes.by (T' := T19) (g' := (mkF m 104 #[.val (.ref a), .val (.int kx), .val (.double x), .second] [(.ref a)])) (fun _ k => XS.aloadN X19.here hx rfl (hb hby d3_103) rfl rfl k) ?_
    obtain ⟨T20, X20, e20, st20⟩ := getF X19 hx hZ hown (host := "") (Or.inl (hw _ (List.mem_of_getElem? (i := 10) rfl))) Via.refl e19 FS (g := (mkF m 104 #[.val (.ref a), .val (.int kx), .val (.double x), .second] [(.ref a)])) rfl rfl (hb hby d3_104)
    refine Goes.by (T' := T20) (g' := (mkF m 107 #[.val (.ref a), .val (.int kx), .val (.double x), .second] [(.ref bs)])) st20 ?_
    refine Goes.by (T' := T20) (g' := (mkF m 108 #[.val (.ref a), .val (.int kx), .val (.double x), .second] [(.int kx), (.ref bs)])) (fun _ k => XS.iloadN X20.here hx rfl (hb hby d3_107) rfl k) ?_
    refine Goes.by (T' := T20) (g' := (mkF m 109 #[.val (.ref a), .val (.int kx), .val (.double x), .second] [(.double tt)])) (ldDS X20 hx hZ e20 VS (v := (.double tt)) (j := kx) kk hk (List.getElem?_set_self hlt) (g := (mkF m 108 #[.val (.ref a), .val (.int kx), .val (.double x), .second] [(.int kx), (.ref bs)])) rfl rfl (hb hby d3_108)) ?_
    exact outD X20 hx hlk hret (hb hby d3_109) (by rw [e20]; exact ⟨tt, bs, (n + 1), (xs.set kk (.double tt)), (ys.set ks.length (.int kx)), rfl, EA, FS, FI, FN, VS, VI, (hR.push hlt hks hk).set hlt D_tt, by rw [List.length_set]; exact hlt, by rw [List.length_set], gs, n1, n3, K0, N0⟩) (by decide) (by decide)
  · obtain ⟨cv, hcv, hcn⟩ : ∃ v : Int32, cmpValue (FP.dcmp dk 0) .l = v ∧ ¬ v = 0 := ⟨1, cmpD_gt Ddk DInt_zero (by omega) _, by decide⟩
    refine Goes.by (T' := T10) (g' := (mkF m 41 #[.val (.ref a), .val (.int kx), .val (.double x), .second] [(.int cv)])) (fun _ k => XS.dcmpS X10.here hx rfl (hb hby d3_40) rfl hcv k) ?_
    refine Goes.by (T' := T10) (g' := (mkF m 93 #[.val (.ref a), .val (.int kx), .val (.double x), .second] [])) (fun _ k => XS.ifYes X10.here hx rfl (pc0 := 41) (pc' := 93) rfl (hb hby d3_41) rfl ((if0 _ _).trans (feq hcn).2) (by decide) (by decide) k) ?_
    rw [if_neg hz]
    refine Goes.by (T' := T10) (g' := (mkF m 94 #[.val (.ref a), .val (.int kx), .val (.double x), .second] [(.ref a)])) (fun _ k => XS.aloadN X10.here hx rfl (hb hby d3_93) rfl rfl k) ?_
    obtain ⟨T21, X21, e21, st21⟩ := getF X10 hx hZ hown (host := "") (Or.inl (hw _ (List.mem_of_getElem? (i := 10) rfl))) Via.refl e10 FS (g := (mkF m 94 #[.val (.ref a), .val (.int kx), .val (.double x), .second] [(.ref a)])) rfl rfl (hb hby d3_94)
    refine Goes.by (T' := T21) (g' := (mkF m 97 #[.val (.ref a), .val (.int kx), .val (.double x), .second] [(.ref bs)])) st21 ?_
    refine Goes.by (T' := T21) (g' := (mkF m 98 #[.val (.ref a), .val (.int kx), .val (.double x), .second] [(.int kx), (.ref bs)])) (fun _ k => XS.iloadN X21.here hx rfl (hb hby d3_97) rfl k) ?_
    refine Goes.by (T' := T21) (g' := (mkF m 99 #[.val (.ref a), .val (.int kx), .val (.double x), .second] [(.int kx), (.ref bs), (.int kx), (.ref bs)])) (fun _ k => XT.dup2 X21.here hx rfl (hb hby d3_98) rfl rfl rfl k) ?_
    refine Goes.by (T' := T21) (g' := (mkF m 100 #[.val (.ref a), .val (.int kx), .val (.double x), .second] [(.double dk), (.int kx), (.ref bs)])) (ldDS X21 hx hZ e21 VS (v := (.double dk)) (j := kx) kk hk hdk (g := (mkF m 99 #[.val (.ref a), .val (.int kx), .val (.double x), .second] [(.int kx), (.ref bs), (.int kx), (.ref bs)])) rfl rfl (hb hby d3_99)) ?_
    refine Goes.by (T' := T21) (g' := (mkF m 101 #[.val (.ref a), .val (.int kx), .val (.double x), .second] [(.double x), (.double dk), (.int kx), (.ref bs)])) (fun _ k => XS.dloadN X21.here hx rfl (hb hby d3_100) rfl k) ?_
    obtain ⟨tt, q_tt⟩ : ∃ zz, FP.dadd dk x = zz := ⟨_, rfl⟩
    have D_tt : Core.DInt (f kk + u) tt := DInt_add q_tt Ddk Dx (by omega)
    refine Goes.by (T' := T21) (g' := (mkF m 102 #[.val (.ref a), .val (.int kx), .val (.double x), .second] [(.double tt), (.int kx), (.ref bs)])) (fun _ k => XS.daddS X21.here hx rfl (hb hby d3_101) rfl (by rw [q_tt]; exact DInt_nn D_tt) q_tt k) ?_
    obtain ⟨T22, h22, X22, e22, W22, V22, st22⟩ := stDS X21 hx hZ e21 VS (j := kx) kk hk hlt (g := (mkF m 102 #[.val (.ref a), .val (.int kx), .val (.double x), .second] [(.double tt), (.int kx), (.ref bs)])) rfl rfl (hb hby d3_102)
    have N0 := Fr.snoc X22 N0 gs
    have EA := EA.wr W22
    have FS := FS.other W22 (Or.inl n1)
    have FI := FI.other W22 (Or.inl n1)
    have FN := FN.other W22 (Or.inl n1)
    have VI := VI.other W22 (Ne.symm n3)
    have Z0 := Nat.le_trans Z0 (Nat.le_of_eq W22.size.symm)
    have K0 := K0.wr W22 (Or.inl (by simp))
    have VS : Sar Z h22 bs .double (xs.set kk (.double tt)) := V22
    refine Goes.by (T' := T22) (g' := (mkF m 103 #[.val (.ref a), .val (.int kx), .val (.double x), .second] [])) st22 ?_
    refine Goes.by (T' := T22) (g' := (mkF m 104 #[.val (.ref a), .val (.int kx), .val (.double x), .second] [(.ref a)])) (fun _ k => XS.aloadN X22.here hx rfl (hb hby d3_103) rfl rfl k) ?_
    obtain ⟨T23, X23, e23, st23⟩ := getF X22 hx hZ hown (host := "") (Or.inl (hw _ (List.mem_of_getElem? (i := 10) rfl))) Via.refl e22 FS (g := (mkF m 104 #[.val (.ref a), .val (.int kx), .val (.double x), .second] [(.ref a)])) rfl rfl (hb hby d3_104)
    refine Goes.by (T' := T23) (g' := (mkF m 107 #[.val (.ref a), .val (.int kx), .val (.double x), .second] [(.ref bs)])) st23 ?_
    refine Goes.by (T' := T23) (g' := (mkF m 108 #[.val (.ref a), .val (.int kx), .val (.double x), .second] [(.int kx), (.ref bs)])) (fun _ k => XS.iloadN X23.here hx rfl (hb hby d3_107) rfl k) ?_
    refine Goes.by (T' := T23) (g' := (mkF m 109 #[.val (.ref a), .val (.int kx), .val (.double x), .second] [(.double tt)])) (ldDS X23 hx hZ e23 VS (v := (.double tt)) (j := kx) kk hk (List.getElem?_set_self hlt) (g := (mkF m 108 #[.val (.ref a), .val (.int kx), .val (.double x), .second] [(.int kx), (.ref bs)])) rfl rfl (hb hby d3_108)) ?_
    exact outD X23 hx hlk hret (hb hby d3_109) (by rw [e23]; exact ⟨tt, bs, n, (xs.set kk (.double tt)), ys, rfl, EA, FS, FI, FN, VS, VI, (hR).set hlt D_tt, by rw [List.length_set]; exact hlt, by rw [List.length_set], gs, n1, n3, K0, N0⟩) (by decide) (by decide)
theorem ef_rm_addU (m : MethodId) (x0 : Addr) (x1 : Int32) (x2 : UInt64) : entryFrame m #[(.ref x0), (.int x1), (.double x2)] 4 = mkF m 0 #[.val (.ref x0), .val (.int x1), .val (.double x2), .second] [] := by first | (simp [entryFrame, mkF, argsToLocals, Value.category, maxLocals]; done) | rfl
set_option maxRecDepth 65536 in
set_option maxHeartbeats 40000000 in
theorem rm_addU (l : Launch) (Z : State) (a0 : Array Value) (hw : ∀ d ∈ tables_1, d.before a0 Z = true) (a bs bi : Addr) (n kx : Int32) (kk : Nat) (x : UInt64) (u : Int) (f : Nat → Int) (ks : List Nat) (xs ys : List Value) (h0 : Heap) (n0 : Nat) (Z0 : n0 ≤ h0.size) (EA : Exa Z h0 a "com/example/gibbon/gibbon/analysis/SparseSum") (FS : Fld Z h0 a "com/example/gibbon/gibbon/analysis/SparseSum" "sums" "[D" (.ref bs)) (FI : Fld Z h0 a "com/example/gibbon/gibbon/analysis/SparseSum" "indices" "[I" (.ref bi)) (FN : Fld Z h0 a "com/example/gibbon/gibbon/analysis/SparseSum" "size" "I" (.int n)) (VS : Sar Z h0 bs .double xs) (VI : Sar Z h0 bi .int ys) (hR : OwnRep f ks xs ys n) (hk : kx.toInt = kk) (hkk : kk < 100) (Dx : Core.DInt u x) (hu : 1 ≤ u ∧ u ≤ 256) (hf : 0 ≤ f kk ∧ f kk ≤ 2000) (hks : ks.length < 4) (ga : n0 ≤ a) (gs : n0 ≤ bs) (gi : n0 ≤ bi) (n1 : a ≠ bs) (n2 : a ≠ bi) (n3 : bs ≠ bi) :
    Does l (⟨"com/example/gibbon/gibbon/analysis/SparseSum", "add", "(ID)D"⟩ : MethodName) prog_36_method_2_code 4 (some .double) [] ({ frames := 2, cells := 1, slots := 128, locals := 55 } : Room) Z #[(.ref a), (.int kx), (.double x)] h0 (fun v h L => ∃ (r : UInt64) (b2 : Addr) (n2 : Int32) (xs2 ys2 : List Value), v = some (.double r) ∧ Exa Z h a "com/example/gibbon/gibbon/analysis/SparseSum" ∧ Fld Z h a "com/example/gibbon/gibbon/analysis/SparseSum" "sums" "[D" (.ref b2) ∧ Fld Z h a "com/example/gibbon/gibbon/analysis/SparseSum" "indices" "[I" (.ref bi) ∧ Fld Z h a "com/example/gibbon/gibbon/analysis/SparseSum" "size" "I" (.int n2) ∧ Sar Z h b2 .double xs2 ∧ Sar Z h bi .int ys2 ∧ OwnRep (own_upd f kk u) (if f kk = 0 then ks ++ [kk] else ks) xs2 ys2 n2 ∧ kk < xs2.length ∧ True ∧ n0 ≤ b2 ∧ a ≠ b2 ∧ b2 ≠ bi ∧ Keep h0 h [a, bs, bi] ∧ Fr n0 L) := by
  refine Does.of (plainFor_of_name pn1) ?_
  intro p e s m below meth c s₁ hx hby hml hret hlk hZ hown hnm X0 e0
  have N0 := Fr.nil n0
  refine Goes.cast (g' := mkF m 0 #[.val (.ref a), .val (.int kx), .val (.double x), .second] []) (ef_rm_addU m a kx x) ?_
  have K0 := Keep.refl h0 [a, bs, bi]
  have hlen := hR.1
  have h32 : (xs.length.toInt32).toInt = xs.length := own_n32 (by omega)
  have tl : ∀ (br : Addr) (xr : List Value) (Tj24 : State) (hj24 : Heap) (Lj24 : List Loc), Stand p l e ({ frames := 2, cells := 1, slots := 128, locals := 55 } : Room) s m #[(.ref a), (.int kx), (.double x)] below meth c Tj24 Lj24 1 128 → Tj24.heap = hj24 → Fr n0 Lj24 → n0 ≤ hj24.size → Keep h0 hj24 [a, bs, bi] → Exa Z hj24 a "com/example/gibbon/gibbon/analysis/SparseSum" → Fld Z hj24 a "com/example/gibbon/gibbon/analysis/SparseSum" "sums" "[D" (.ref br) → Fld Z hj24 a "com/example/gibbon/gibbon/analysis/SparseSum" "indices" "[I" (.ref bi) → Fld Z hj24 a "com/example/gibbon/gibbon/analysis/SparseSum" "size" "I" (.int n) → Sar Z hj24 br .double xr → Sar Z hj24 bi .int ys → OwnRep f ks xr ys n → kk < xr.length → n0 ≤ br → a ≠ br → br ≠ bi → br ∈ [a, bs, bi] ∨ h0.size ≤ br → Goes p e below (Fin1 below s ({ frames := 2, cells := 1, slots := 128, locals := 55 } : Room) (fun v h L => ∃ (r : UInt64) (b2 : Addr) (n2 : Int32) (xs2 ys2 : List Value), v = some (.double r) ∧ Exa Z h a "com/example/gibbon/gibbon/analysis/SparseSum" ∧ Fld Z h a "com/example/gibbon/gibbon/analysis/SparseSum" "sums" "[D" (.ref b2) ∧ Fld Z h a "com/example/gibbon/gibbon/analysis/SparseSum" "indices" "[I" (.ref bi) ∧ Fld Z h a "com/example/gibbon/gibbon/analysis/SparseSum" "size" "I" (.int n2) ∧ Sar Z h b2 .double xs2 ∧ Sar Z h bi .int ys2 ∧ OwnRep (own_upd f kk u) (if f kk = 0 then ks ++ [kk] else ks) xs2 ys2 n2 ∧ kk < xs2.length ∧ True ∧ n0 ≤ b2 ∧ a ≠ b2 ∧ b2 ≠ bi ∧ Keep h0 h [a, bs, bi] ∧ Fr n0 L)) Tj24 (mkF m 33 #[.val (.ref a), .val (.int kx), .val (.double x), .second] []) := by
    intro br xr Tj24 hj24 Lj24 Xj24 ej24 N0 Z0 K0 EA FS FI FN VS VI hR hlt gr n4 n5 szr
    refine Goes.by (T' := Tj24) (g' := (mkF m 34 #[.val (.ref a), .val (.int kx), .val (.double x), .second] [(.ref a)])) (fun _ k => XS.aloadN Xj24.here hx rfl (hb hby d3_33) rfl rfl k) ?_
    obtain ⟨T25, X25, e25, st25⟩ := getF Xj24 hx hZ hown (host := "") (Or.inl (hw _ (List.mem_of_getElem? (i := 10) rfl))) Via.refl ej24 FS (g := (mkF m 34 #[.val (.ref a), .val (.int kx), .val (.double x), .second] [(.ref a)])) rfl rfl (hb hby d3_34)
    refine Goes.by (T' := T25) (g' := (mkF m 37 #[.val (.ref a), .val (.int kx), .val (.double x), .second] [(.ref br)])) st25 ?_
    refine Goes.by (T' := T25) (g' := (mkF m 38 #[.val (.ref a), .val (.int kx), .val (.double x), .second] [(.int kx), (.ref br)])) (fun _ k => XS.iloadN X25.here hx rfl (hb hby d3_37) rfl k) ?_
    obtain ⟨dk, hdk, Ddk⟩ := hR.2.1 kk hlt
    refine Goes.by (T' := T25) (g' := (mkF m 39 #[.val (.ref a), .val (.int kx), .val (.double x), .second] [(.double dk)])) (ldDS X25 hx hZ e25 VS (v := (.double dk)) (j := kx) kk hk hdk (g := (mkF m 38 #[.val (.ref a), .val (.int kx), .val (.double x), .second] [(.int kx), (.ref br)])) rfl rfl (hb hby d3_38)) ?_
    refine Goes.by (T' := T25) (g' := (mkF m 40 #[.val (.ref a), .val (.int kx), .val (.double x), .second] [(.double (0 : UInt64)), (.double dk)])) (fun _ k => XS.dconst0 X25.here hx rfl (hb hby d3_39) rfl k) ?_
    by_cases hz : f kk = 0
    · refine Goes.by (T' := T25) (g' := (mkF m 41 #[.val (.ref a), .val (.int kx), .val (.double x), .second] [(.int (0 : Int32))])) (fun _ k => XS.dcmpS X25.here hx rfl (hb hby d3_40) rfl (cmpD_eq Ddk DInt_zero hz _) k) ?_
      refine Goes.by (T' := T25) (g' := (mkF m 44 #[.val (.ref a), .val (.int kx), .val (.double x), .second] [])) (fun _ k => XS.ifNo X25.here hx rfl (hb hby d3_41) rfl (by decide) k) ?_
      refine Goes.by (T' := T25) (g' := (mkF m 45 #[.val (.ref a), .val (.int kx), .val (.double x), .second] [(.ref a)])) (fun _ k => XS.aloadN X25.here hx rfl (hb hby d3_44) rfl rfl k) ?_
      obtain ⟨T26, X26, e26, st26⟩ := getF X25 hx hZ hown (host := "") (Or.inl (hw _ (List.mem_of_getElem? (i := 20) rfl))) Via.refl e25 FN (g := (mkF m 45 #[.val (.ref a), .val (.int kx), .val (.double x), .second] [(.ref a)])) rfl rfl (hb hby d3_45)
      refine Goes.by (T' := T26) (g' := (mkF m 48 #[.val (.ref a), .val (.int kx), .val (.double x), .second] [(.int n)])) st26 ?_
      refine Goes.by (T' := T26) (g' := (mkF m 49 #[.val (.ref a), .val (.int kx), .val (.double x), .second] [(.ref a), (.int n)])) (fun _ k => XS.aloadN X26.here hx rfl (hb hby d3_48) rfl rfl k) ?_
      obtain ⟨T27, X27, e27, st27⟩ := getF X26 hx hZ hown (host := "") (Or.inl (hw _ (List.mem_of_getElem? (i := 13) rfl))) Via.refl e26 FI (g := (mkF m 49 #[.val (.ref a), .val (.int kx), .val (.double x), .second] [(.ref a), (.int n)])) rfl rfl (hb hby d3_49)
      refine Goes.by (T' := T27) (g' := (mkF m 52 #[.val (.ref a), .val (.int kx), .val (.double x), .second] [(.ref bi), (.int n)])) st27 ?_
      refine Goes.by (T' := T27) (g' := (mkF m 53 #[.val (.ref a), .val (.int kx), .val (.double x), .second] [(.int (64 : Int32)), (.int n)])) (lenS X27 hx hZ e27 VI (n := (64 : Int32)) (by rw [hR.2.2.2.1]; rfl) (g := (mkF m 52 #[.val (.ref a), .val (.int kx), .val (.double x), .second] [(.ref bi), (.int n)])) rfl rfl (hb hby d3_52)) ?_
      have hn64 : ¬ n = (64 : Int32) := fun q => by
        have t := hR.2.2.2.2.1
        rw [q, show (64 : Int32).toInt = 64 from by decide] at t
        omega
      refine Goes.by (T' := T27) (g' := (mkF m 73 #[.val (.ref a), .val (.int kx), .val (.double x), .second] [])) (fun _ k => XS.icmpYes X27.here hx rfl (pc0 := 53) (pc' := 73) rfl (hb hby d3_53) rfl (feq hn64).2 (by decide) (by decide) k) ?_
      refine Goes.by (T' := T27) (g' := (mkF m 74 #[.val (.ref a), .val (.int kx), .val (.double x), .second] [(.ref a)])) (fun _ k => XS.aloadN X27.here hx rfl (hb hby d3_73) rfl rfl k) ?_
      obtain ⟨T28, X28, e28, st28⟩ := getF X27 hx hZ hown (host := "") (Or.inl (hw _ (List.mem_of_getElem? (i := 13) rfl))) Via.refl e27 FI (g := (mkF m 74 #[.val (.ref a), .val (.int kx), .val (.double x), .second] [(.ref a)])) rfl rfl (hb hby d3_74)
      refine Goes.by (T' := T28) (g' := (mkF m 77 #[.val (.ref a), .val (.int kx), .val (.double x), .second] [(.ref bi)])) st28 ?_
      refine Goes.by (T' := T28) (g' := (mkF m 78 #[.val (.ref a), .val (.int kx), .val (.double x), .second] [(.ref a), (.ref bi)])) (fun _ k => XS.aloadN X28.here hx rfl (hb hby d3_77) rfl rfl k) ?_
      obtain ⟨T29, X29, e29, st29⟩ := getF X28 hx hZ hown (host := "") (Or.inl (hw _ (List.mem_of_getElem? (i := 20) rfl))) Via.refl e28 FN (g := (mkF m 78 #[.val (.ref a), .val (.int kx), .val (.double x), .second] [(.ref a), (.ref bi)])) rfl rfl (hb hby d3_78)
      refine Goes.by (T' := T29) (g' := (mkF m 81 #[.val (.ref a), .val (.int kx), .val (.double x), .second] [(.int n), (.ref bi)])) st29 ?_
      refine Goes.by (T' := T29) (g' := (mkF m 82 #[.val (.ref a), .val (.int kx), .val (.double x), .second] [(.int kx), (.int n), (.ref bi)])) (fun _ k => XS.iloadN X29.here hx rfl (hb hby d3_81) rfl k) ?_
      obtain ⟨T30, h30, X30, e30, W30, V30, st30⟩ := stIS X29 hx hZ e29 VI (j := n) ks.length hR.2.2.2.2.1 (by rw [hR.2.2.2.1]; omega) (g := (mkF m 82 #[.val (.ref a), .val (.int kx), .val (.double x), .second] [(.int kx), (.int n), (.ref bi)])) rfl rfl (hb hby d3_82)
      have N0 := Fr.snoc X30 N0 gi
      have EA := EA.wr W30
      have FS := FS.other W30 (Or.inl n2)
      have FI := FI.other W30 (Or.inl n2)
      have FN := FN.other W30 (Or.inl n2)
      have VS := VS.other W30 n5
      have Z0 := Nat.le_trans Z0 (Nat.le_of_eq W30.size.symm)
      have K0 := K0.wr W30 (Or.inl (by simp))
      have VI : Sar Z h30 bi .int (ys.set ks.length (.int kx)) := V30
      refine Goes.by (T' := T30) (g' := (mkF m 83 #[.val (.ref a), .val (.int kx), .val (.double x), .second] [])) st30 ?_
      rw [if_pos hz]
      refine Goes.by (T' := T30) (g' := (mkF m 84 #[.val (.ref a), .val (.int kx), .val (.double x), .second] [(.ref a)])) (fun _ k => XS.aloadN X30.here hx rfl (hb hby d3_83) rfl rfl k) ?_
      refine Goes.by (T' := T30) (g' := (mkF m 85 #[.val (.ref a), .val (.int kx), .val (.double x), .second] [(.ref a), (.ref a)])) (fun _ k => XS.dup X30.here hx rfl (hb hby d3_84) rfl rfl k) ?_
      obtain ⟨T31, X31, e31, st31⟩ := getF X30 hx hZ hown (host := "") (Or.inl (hw _ (List.mem_of_getElem? (i := 20) rfl))) Via.refl e30 FN (g := (mkF m 85 #[.val (.ref a), .val (.int kx), .val (.double x), .second] [(.ref a), (.ref a)])) rfl rfl (hb hby d3_85)
      refine Goes.by (T' := T31) (g' := (mkF m 88 #[.val (.ref a), .val (.int kx), .val (.double x), .second] [(.int n), (.ref a)])) st31 ?_
      refine Goes.by (T' := T31) (g' := (mkF m 89 #[.val (.ref a), .val (.int kx), .val (.double x), .second] [(.int (1 : Int32)), (.int n), (.ref a)])) (fun _ k => XS.iconst X31.here hx rfl (hb hby d3_88)  k) ?_
      refine Goes.by (T' := T31) (g' := (mkF m 90 #[.val (.ref a), .val (.int kx), .val (.double x), .second] [(.int (n + (1 : Int32))), (.ref a)])) (fun _ k => XS.iadd X31.here hx rfl (hb hby d3_89) rfl k) ?_
      obtain ⟨T32, h32, X32, e32, W32, st32⟩ := putF X31 hx hZ hown (host := "") (Or.inl (hw _ (List.mem_of_getElem? (i := 20) rfl))) Via.refl e31 FN EA (Or.inl (hw _ (List.mem_of_getElem? (i := 21) rfl))) (hw _ (List.mem_of_getElem? (i := 1) rfl)) (ty := .int) (by decide) rfl rfl (g := (mkF m 90 #[.val (.ref a), .val (.int kx), .val (.double x), .second] [(.int (n + (1 : Int32))), (.ref a)])) rfl rfl (hb hby d3_90)
      have N0 := Fr.snoc X32 N0 ga
      have EA := EA.wr W32
      have FS := FS.other W32 (Or.inr (slot_ne (t := (.array .double)) (t' := .int) (Or.inl (hw _ (List.mem_of_getElem? (i := 11) rfl))) (Or.inl (hw _ (List.mem_of_getElem? (i := 21) rfl))) (by decide) (by decide) (by decide)))
      have FI := FI.other W32 (Or.inr (slot_ne (t := (.array .int)) (t' := .int) (Or.inl (hw _ (List.mem_of_getElem? (i := 14) rfl))) (Or.inl (hw _ (List.mem_of_getElem? (i := 21) rfl))) (by decide) (by decide) (by decide)))
      have FN := FN.same W32
      have VS := VS.other W32 (Ne.symm n4)
      have VI := VI.other W32 (Ne.symm n2)
      have Z0 := Nat.le_trans Z0 (Nat.le_of_eq W32.size.symm)
      have K0 := K0.wr W32 (Or.inl (by simp))
      refine Goes.by (T' := T32) (g' := (mkF m 93 #[.val (.ref a), .val (.int kx), .val (.double x), .second] [])) st32 ?_
      refine Goes.by (T' := T32) (g' := (mkF m 94 #[.val (.ref a), .val (.int kx), .val (.double x), .second] [(.ref a)])) (fun _ k => XS.aloadN X32.here hx rfl (hb hby d3_93) rfl rfl k) ?_
      obtain ⟨T33, X33, e33, st33⟩ := getF X32 hx hZ hown (host := "") (Or.inl (hw _ (List.mem_of_getElem? (i := 10) rfl))) Via.refl e32 FS (g := (mkF m 94 #[.val (.ref a), .val (.int kx), .val (.double x), .second] [(.ref a)])) rfl rfl (hb hby d3_94)
      refine Goes.by (T' := T33) (g' := (mkF m 97 #[.val (.ref a), .val (.int kx), .val (.double x), .second] [(.ref br)])) st33 ?_
      refine Goes.by (T' := T33) (g' := (mkF m 98 #[.val (.ref a), .val (.int kx), .val (.double x), .second] [(.int kx), (.ref br)])) (fun _ k => XS.iloadN X33.here hx rfl (hb hby d3_97) rfl k) ?_
      refine Goes.by (T' := T33) (g' := (mkF m 99 #[.val (.ref a), .val (.int kx), .val (.double x), .second] [(.int kx), (.ref br), (.int kx), (.ref br)])) (fun _ k => XT.dup2 X33.here hx rfl (hb hby d3_98) rfl rfl rfl k) ?_
      refine Goes.by (T' := T33) (g' := (mkF m 100 #[.val (.ref a), .val (.int kx), .val (.double x), .second] [(.double dk), (.int kx), (.ref br)])) (ldDS X33 hx hZ e33 VS (v := (.double dk)) (j := kx) kk hk hdk (g := (mkF m 99 #[.val (.ref a), .val (.int kx), .val (.double x), .second] [(.int kx), (.ref br), (.int kx), (.ref br)])) rfl rfl (hb hby d3_99)) ?_
      refine Goes.by (T' := T33) (g' := (mkF m 101 #[.val (.ref a), .val (.int kx), .val (.double x), .second] [(.double x), (.double dk), (.int kx), (.ref br)])) (fun _ k => XS.dloadN X33.here hx rfl (hb hby d3_100) rfl k) ?_
      obtain ⟨tt, q_tt⟩ : ∃ zz, FP.dadd dk x = zz := ⟨_, rfl⟩
      have D_tt : Core.DInt (f kk + u) tt := DInt_add q_tt Ddk Dx (by omega)
      refine Goes.by (T' := T33) (g' := (mkF m 102 #[.val (.ref a), .val (.int kx), .val (.double x), .second] [(.double tt), (.int kx), (.ref br)])) (fun _ k => XS.daddS X33.here hx rfl (hb hby d3_101) rfl (by rw [q_tt]; exact DInt_nn D_tt) q_tt k) ?_
      obtain ⟨T34, h34, X34, e34, W34, V34, st34⟩ := stDS X33 hx hZ e33 VS (j := kx) kk hk hlt (g := (mkF m 102 #[.val (.ref a), .val (.int kx), .val (.double x), .second] [(.double tt), (.int kx), (.ref br)])) rfl rfl (hb hby d3_102)
      have N0 := Fr.snoc X34 N0 gr
      have EA := EA.wr W34
      have FS := FS.other W34 (Or.inl n4)
      have FI := FI.other W34 (Or.inl n4)
      have FN := FN.other W34 (Or.inl n4)
      have VI := VI.other W34 (Ne.symm n5)
      have Z0 := Nat.le_trans Z0 (Nat.le_of_eq W34.size.symm)
      have K0 := K0.wr W34 szr
      have VS : Sar Z h34 br .double (xr.set kk (.double tt)) := V34
      refine Goes.by (T' := T34) (g' := (mkF m 103 #[.val (.ref a), .val (.int kx), .val (.double x), .second] [])) st34 ?_
      refine Goes.by (T' := T34) (g' := (mkF m 104 #[.val (.ref a), .val (.int kx), .val (.double x), .second] [(.ref a)])) (fun _ k => XS.aloadN X34.here hx rfl (hb hby d3_103) rfl rfl k) ?_
      obtain ⟨T35, X35, e35, st35⟩ := getF X34 hx hZ hown (host := "") (Or.inl (hw _ (List.mem_of_getElem? (i := 10) rfl))) Via.refl e34 FS (g := (mkF m 104 #[.val (.ref a), .val (.int kx), .val (.double x), .second] [(.ref a)])) rfl rfl (hb hby d3_104)
      refine Goes.by (T' := T35) (g' := (mkF m 107 #[.val (.ref a), .val (.int kx), .val (.double x), .second] [(.ref br)])) st35 ?_
      refine Goes.by (T' := T35) (g' := (mkF m 108 #[.val (.ref a), .val (.int kx), .val (.double x), .second] [(.int kx), (.ref br)])) (fun _ k => XS.iloadN X35.here hx rfl (hb hby d3_107) rfl k) ?_
      refine Goes.by (T' := T35) (g' := (mkF m 109 #[.val (.ref a), .val (.int kx), .val (.double x), .second] [(.double tt)])) (ldDS X35 hx hZ e35 VS (v := (.double tt)) (j := kx) kk hk (List.getElem?_set_self hlt) (g := (mkF m 108 #[.val (.ref a), .val (.int kx), .val (.double x), .second] [(.int kx), (.ref br)])) rfl rfl (hb hby d3_108)) ?_
      exact outD X35 hx hlk hret (hb hby d3_109) (by rw [e35]; exact ⟨tt, br, (n + 1), (xr.set kk (.double tt)), (ys.set ks.length (.int kx)), rfl, EA, FS, FI, FN, VS, VI, (hR.push hlt hks hk).set hlt D_tt, by rw [List.length_set]; exact hlt, trivial, gr, n4, n5, K0, N0⟩) (by decide) (by decide)
    · obtain ⟨cv, hcv, hcn⟩ : ∃ v : Int32, cmpValue (FP.dcmp dk 0) .l = v ∧ ¬ v = 0 := ⟨1, cmpD_gt Ddk DInt_zero (by omega) _, by decide⟩
      refine Goes.by (T' := T25) (g' := (mkF m 41 #[.val (.ref a), .val (.int kx), .val (.double x), .second] [(.int cv)])) (fun _ k => XS.dcmpS X25.here hx rfl (hb hby d3_40) rfl hcv k) ?_
      refine Goes.by (T' := T25) (g' := (mkF m 93 #[.val (.ref a), .val (.int kx), .val (.double x), .second] [])) (fun _ k => XS.ifYes X25.here hx rfl (pc0 := 41) (pc' := 93) rfl (hb hby d3_41) rfl ((if0 _ _).trans (feq hcn).2) (by decide) (by decide) k) ?_
      rw [if_neg hz]
      refine Goes.by (T' := T25) (g' := (mkF m 94 #[.val (.ref a), .val (.int kx), .val (.double x), .second] [(.ref a)])) (fun _ k => XS.aloadN X25.here hx rfl (hb hby d3_93) rfl rfl k) ?_
      obtain ⟨T36, X36, e36, st36⟩ := getF X25 hx hZ hown (host := "") (Or.inl (hw _ (List.mem_of_getElem? (i := 10) rfl))) Via.refl e25 FS (g := (mkF m 94 #[.val (.ref a), .val (.int kx), .val (.double x), .second] [(.ref a)])) rfl rfl (hb hby d3_94)
      refine Goes.by (T' := T36) (g' := (mkF m 97 #[.val (.ref a), .val (.int kx), .val (.double x), .second] [(.ref br)])) st36 ?_
      refine Goes.by (T' := T36) (g' := (mkF m 98 #[.val (.ref a), .val (.int kx), .val (.double x), .second] [(.int kx), (.ref br)])) (fun _ k => XS.iloadN X36.here hx rfl (hb hby d3_97) rfl k) ?_
      refine Goes.by (T' := T36) (g' := (mkF m 99 #[.val (.ref a), .val (.int kx), .val (.double x), .second] [(.int kx), (.ref br), (.int kx), (.ref br)])) (fun _ k => XT.dup2 X36.here hx rfl (hb hby d3_98) rfl rfl rfl k) ?_
      refine Goes.by (T' := T36) (g' := (mkF m 100 #[.val (.ref a), .val (.int kx), .val (.double x), .second] [(.double dk), (.int kx), (.ref br)])) (ldDS X36 hx hZ e36 VS (v := (.double dk)) (j := kx) kk hk hdk (g := (mkF m 99 #[.val (.ref a), .val (.int kx), .val (.double x), .second] [(.int kx), (.ref br), (.int kx), (.ref br)])) rfl rfl (hb hby d3_99)) ?_
      refine Goes.by (T' := T36) (g' := (mkF m 101 #[.val (.ref a), .val (.int kx), .val (.double x), .second] [(.double x), (.double dk), (.int kx), (.ref br)])) (fun _ k => XS.dloadN X36.here hx rfl (hb hby d3_100) rfl k) ?_
      obtain ⟨tt, q_tt⟩ : ∃ zz, FP.dadd dk x = zz := ⟨_, rfl⟩
      have D_tt : Core.DInt (f kk + u) tt := DInt_add q_tt Ddk Dx (by omega)
      refine Goes.by (T' := T36) (g' := (mkF m 102 #[.val (.ref a), .val (.int kx), .val (.double x), .second] [(.double tt), (.int kx), (.ref br)])) (fun _ k => XS.daddS X36.here hx rfl (hb hby d3_101) rfl (by rw [q_tt]; exact DInt_nn D_tt) q_tt k) ?_
      obtain ⟨T37, h37, X37, e37, W37, V37, st37⟩ := stDS X36 hx hZ e36 VS (j := kx) kk hk hlt (g := (mkF m 102 #[.val (.ref a), .val (.int kx), .val (.double x), .second] [(.double tt), (.int kx), (.ref br)])) rfl rfl (hb hby d3_102)
      have N0 := Fr.snoc X37 N0 gr
      have EA := EA.wr W37
      have FS := FS.other W37 (Or.inl n4)
      have FI := FI.other W37 (Or.inl n4)
      have FN := FN.other W37 (Or.inl n4)
      have VI := VI.other W37 (Ne.symm n5)
      have Z0 := Nat.le_trans Z0 (Nat.le_of_eq W37.size.symm)
      have K0 := K0.wr W37 szr
      have VS : Sar Z h37 br .double (xr.set kk (.double tt)) := V37
      refine Goes.by (T' := T37) (g' := (mkF m 103 #[.val (.ref a), .val (.int kx), .val (.double x), .second] [])) st37 ?_
      refine Goes.by (T' := T37) (g' := (mkF m 104 #[.val (.ref a), .val (.int kx), .val (.double x), .second] [(.ref a)])) (fun _ k => XS.aloadN X37.here hx rfl (hb hby d3_103) rfl rfl k) ?_
      obtain ⟨T38, X38, e38, st38⟩ := getF X37 hx hZ hown (host := "") (Or.inl (hw _ (List.mem_of_getElem? (i := 10) rfl))) Via.refl e37 FS (g := (mkF m 104 #[.val (.ref a), .val (.int kx), .val (.double x), .second] [(.ref a)])) rfl rfl (hb hby d3_104)
      refine Goes.by (T' := T38) (g' := (mkF m 107 #[.val (.ref a), .val (.int kx), .val (.double x), .second] [(.ref br)])) st38 ?_
      refine Goes.by (T' := T38) (g' := (mkF m 108 #[.val (.ref a), .val (.int kx), .val (.double x), .second] [(.int kx), (.ref br)])) (fun _ k => XS.iloadN X38.here hx rfl (hb hby d3_107) rfl k) ?_
      refine Goes.by (T' := T38) (g' := (mkF m 109 #[.val (.ref a), .val (.int kx), .val (.double x), .second] [(.double tt)])) (ldDS X38 hx hZ e38 VS (v := (.double tt)) (j := kx) kk hk (List.getElem?_set_self hlt) (g := (mkF m 108 #[.val (.ref a), .val (.int kx), .val (.double x), .second] [(.int kx), (.ref br)])) rfl rfl (hb hby d3_108)) ?_
      exact outD X38 hx hlk hret (hb hby d3_109) (by rw [e38]; exact ⟨tt, br, n, (xr.set kk (.double tt)), ys, rfl, EA, FS, FI, FN, VS, VI, (hR).set hlt D_tt, by rw [List.length_set]; exact hlt, trivial, gr, n4, n5, K0, N0⟩) (by decide) (by decide)
  refine Goes.by (T' := s₁) (g' := (mkF m 1 #[.val (.ref a), .val (.int kx), .val (.double x), .second] [(.int kx)])) (fun _ k => XS.iloadN X0.here hx rfl (hb hby d3_0) rfl k) ?_
  refine Goes.by (T' := s₁) (g' := (mkF m 2 #[.val (.ref a), .val (.int kx), .val (.double x), .second] [(.ref a), (.int kx)])) (fun _ k => XS.aloadN X0.here hx rfl (hb hby d3_1) rfl rfl k) ?_
  obtain ⟨T39, X39, e39, st39⟩ := getF X0 hx hZ hown (host := "") (Or.inl (hw _ (List.mem_of_getElem? (i := 10) rfl))) Via.refl e0 FS (g := (mkF m 2 #[.val (.ref a), .val (.int kx), .val (.double x), .second] [(.ref a), (.int kx)])) rfl rfl (hb hby d3_2)
  refine Goes.by (T' := T39) (g' := (mkF m 5 #[.val (.ref a), .val (.int kx), .val (.double x), .second] [(.ref bs), (.int kx)])) st39 ?_
  refine Goes.by (T' := T39) (g' := (mkF m 6 #[.val (.ref a), .val (.int kx), .val (.double x), .second] [(.int xs.length.toInt32), (.int kx)])) (lenS X39 hx hZ e39 VS (n := xs.length.toInt32) rfl (g := (mkF m 5 #[.val (.ref a), .val (.int kx), .val (.double x), .second] [(.ref bs), (.int kx)])) rfl rfl (hb hby d3_5)) ?_
  by_cases hlt : kk < xs.length
  · refine Goes.by (T' := T39) (g' := (mkF m 33 #[.val (.ref a), .val (.int kx), .val (.double x), .second] [])) (fun _ k => XS.icmpYes X39.here hx rfl (pc0 := 6) (pc' := 33) rfl (hb hby d3_6) rfl (tlt (Int32.lt_iff_toInt_lt.mpr (by rw [hk, h32]; omega))).1 (by decide) (by decide) k) ?_
    exact tl bs xs _ _ _ (X39.wide (fun x hx _ => hx) (by decide) (by decide)) e39 N0 Z0 K0 EA FS FI FN VS VI hR hlt gs n1 n3 (Or.inl (by simp))
  · have h64 : xs.length = 64 := by omega
    refine Goes.by (T' := T39) (g' := (mkF m 9 #[.val (.ref a), .val (.int kx), .val (.double x), .second] [])) (fun _ k => XS.icmpNo X39.here hx rfl (hb hby d3_6) rfl (flt (fun q => by have q2 := Int32.lt_iff_toInt_lt.mp q; rw [hk, h32] at q2; omega)).1 k) ?_
    refine Goes.by (T' := T39) (g' := (mkF m 10 #[.val (.ref a), .val (.int kx), .val (.double x), .second] [(.ref a)])) (fun _ k => XS.aloadN X39.here hx rfl (hb hby d3_9) rfl rfl k) ?_
    refine Goes.by (T' := T39) (g' := (mkF m 11 #[.val (.ref a), .val (.int kx), .val (.double x), .second] [(.ref a), (.ref a)])) (fun _ k => XS.aloadN X39.here hx rfl (hb hby d3_10) rfl rfl k) ?_
    obtain ⟨T40, X40, e40, st40⟩ := getF X39 hx hZ hown (host := "") (Or.inl (hw _ (List.mem_of_getElem? (i := 10) rfl))) Via.refl e39 FS (g := (mkF m 11 #[.val (.ref a), .val (.int kx), .val (.double x), .second] [(.ref a), (.ref a)])) rfl rfl (hb hby d3_11)
    refine Goes.by (T' := T40) (g' := (mkF m 14 #[.val (.ref a), .val (.int kx), .val (.double x), .second] [(.ref bs), (.ref a)])) st40 ?_
    refine Goes.by (T' := T40) (g' := (mkF m 15 #[.val (.ref a), .val (.int kx), .val (.double x), .second] [(.int kx), (.ref bs), (.ref a)])) (fun _ k => XS.iloadN X40.here hx rfl (hb hby d3_14) rfl k) ?_
    refine Goes.by (T' := T40) (g' := (mkF m 16 #[.val (.ref a), .val (.int kx), .val (.double x), .second] [(.int (1 : Int32)), (.int kx), (.ref bs), (.ref a)])) (fun _ k => XS.iconst X40.here hx rfl (hb hby d3_15)  k) ?_
    refine Goes.by (T' := T40) (g' := (mkF m 17 #[.val (.ref a), .val (.int kx), .val (.double x), .second] [(.int (kx + (1 : Int32))), (.ref bs), (.ref a)])) (fun _ k => XS.iadd X40.here hx rfl (hb hby d3_16) rfl k) ?_
    refine Goes.by (T' := T40) (g' := (mkF m 18 #[.val (.ref a), .val (.int kx), .val (.double x), .second] [(.int (2 : Int32)), (.int (kx + (1 : Int32))), (.ref bs), (.ref a)])) (fun _ k => XS.iconst X40.here hx rfl (hb hby d3_17)  k) ?_
    refine Goes.by (T' := T40) (g' := (mkF m 19 #[.val (.ref a), .val (.int kx), .val (.double x), .second] [(.ref a), (.int (2 : Int32)), (.int (kx + (1 : Int32))), (.ref bs), (.ref a)])) (fun _ k => XS.aloadN X40.here hx rfl (hb hby d3_18) rfl rfl k) ?_
    obtain ⟨T41, X41, e41, st41⟩ := getF X40 hx hZ hown (host := "") (Or.inl (hw _ (List.mem_of_getElem? (i := 10) rfl))) Via.refl e40 FS (g := (mkF m 19 #[.val (.ref a), .val (.int kx), .val (.double x), .second] [(.ref a), (.int (2 : Int32)), (.int (kx + (1 : Int32))), (.ref bs), (.ref a)])) rfl rfl (hb hby d3_19)
    refine Goes.by (T' := T41) (g' := (mkF m 22 #[.val (.ref a), .val (.int kx), .val (.double x), .second] [(.ref bs), (.int (2 : Int32)), (.int (kx + (1 : Int32))), (.ref bs), (.ref a)])) st41 ?_
    refine Goes.by (T' := T41) (g' := (mkF m 23 #[.val (.ref a), .val (.int kx), .val (.double x), .second] [(.int (64 : Int32)), (.int (2 : Int32)), (.int (kx + (1 : Int32))), (.ref bs), (.ref a)])) (lenS X41 hx hZ e41 VS (n := (64 : Int32)) (by rw [h64]; rfl) (g := (mkF m 22 #[.val (.ref a), .val (.int kx), .val (.double x), .second] [(.ref bs), (.int (2 : Int32)), (.int (kx + (1 : Int32))), (.ref bs), (.ref a)])) rfl rfl (hb hby d3_22)) ?_
    refine Goes.by (T' := T41) (g' := (mkF m 24 #[.val (.ref a), .val (.int kx), .val (.double x), .second] [(.int (128 : Int32)), (.int (kx + (1 : Int32))), (.ref bs), (.ref a)])) (fun _ k => XS.imul X41.here hx rfl (hb hby d3_23) rfl k) ?_
    have hmx : kx + (1 : Int32) < (128 : Int32) := Int32.lt_iff_toInt_lt.mpr (by
      have t := c_iadd kx (1 : Int32)
      have t2 := rng32 (kx + (1 : Int32))
      rw [show (1 : Int32).toInt = 1 from by decide] at t
      rw [show (128 : Int32).toInt = 128 from by decide]
      omega)
    obtain ⟨v42, T42, L42, X42, hQ42, st42⟩ := callC X41 hx hZ (y := (⟨"java/lang/Math", "max", "(II)I"⟩ : MethodName)) hown (hw _ (List.mem_of_getElem? (i := 33) rfl)) (hw _ (List.mem_of_getElem? (i := 34) rfl)) (hw _ (List.mem_of_getElem? (i := 36) rfl)) (hw _ (List.mem_of_getElem? (i := 35) rfl)) (by decide) e41 (argsL := [(.int (kx + (1 : Int32))), (.int (128 : Int32))]) (rest := [(.ref bs), (.ref a)]) (W := 2) (rm_max l Z a0 hw (kx + (1 : Int32)) (128 : Int32) h0 n0 Z0 hmx) rfl (by decide) (by decide) (by decide) (by decide) (g := (mkF m 24 #[.val (.ref a), .val (.int kx), .val (.double x), .second] [(.int (128 : Int32)), (.int (kx + (1 : Int32))), (.ref bs), (.ref a)])) rfl (by rw [hml]; rfl) (lenOf pd0 rfl) rfl (by show 2 * 0 + _ ≤ _; exact Nat.le_of_eq rfl) (hb hby d3_24)
    obtain ⟨rfl, NL42, hk42⟩ := hQ42
    have N0 := Fr.app N0 NL42
    refine Goes.by (T' := T42) (g' := (mkF m 27 #[.val (.ref a), .val (.int kx), .val (.double x), .second] [(.int (128 : Int32)), (.ref bs), (.ref a)])) st42 ?_
    obtain ⟨v43, T43, L43, X43, hQ43, st43⟩ := callC X42 hx hZ (y := (⟨"java/util/Arrays", "copyOf", "([DI)[D"⟩ : MethodName)) hown (hw _ (List.mem_of_getElem? (i := 37) rfl)) (hw _ (List.mem_of_getElem? (i := 38) rfl)) (hw _ (List.mem_of_getElem? (i := 40) rfl)) (hw _ (List.mem_of_getElem? (i := 39) rfl)) (by decide) hk42 (argsL := [(.ref bs), (.int (128 : Int32))]) (rest := [(.ref a)]) (W := 1) (rm_copy l Z a0 hw bs xs h0 n0 Z0 VS h64 hR.fit) rfl (by decide) (by decide) (by decide) (by decide) (g := (mkF m 27 #[.val (.ref a), .val (.int kx), .val (.double x), .second] [(.int (128 : Int32)), (.ref bs), (.ref a)])) rfl (by rw [hml]; rfl) (lenOf pd1 rfl) rfl (by show 2 * 0 + _ ≤ _; exact Nat.le_of_eq rfl) (hb hby d3_27)
    obtain ⟨r, rfl, V_r, sz43, K43, NL43⟩ := hQ43
    have N0 := Fr.app N0 NL43
    have ne_a_r : a ≠ r := fun q => Nat.lt_irrefl _ (Nat.lt_of_lt_of_le EA.lt (Nat.le_trans sz43 (Nat.le_of_eq q.symm)))
    have ne_bs_r : bs ≠ r := fun q => Nat.lt_irrefl _ (Nat.lt_of_lt_of_le VS.lt (Nat.le_trans sz43 (Nat.le_of_eq q.symm)))
    have ne_bi_r : bi ≠ r := fun q => Nat.lt_irrefl _ (Nat.lt_of_lt_of_le VI.lt (Nat.le_trans sz43 (Nat.le_of_eq q.symm)))
    have ge_r : n0 ≤ r := Nat.le_trans Z0 sz43
    have sz_r : h0.size ≤ r := Nat.le_trans K0.1 sz43
    have e43 : T43.heap = T43.heap := rfl
    have EA := EA.keep K43
    have FS := FS.keep K43 nin0
    have FI := FI.keep K43 nin0
    have FN := FN.keep K43 nin0
    have VS := VS.keep K43 nin0
    have VI := VI.keep K43 nin0
    have Z0 := Nat.le_trans Z0 K43.1
    have K0 := K0.trans K43 all0
    refine Goes.by (T' := T43) (g' := (mkF m 30 #[.val (.ref a), .val (.int kx), .val (.double x), .second] [(.ref r), (.ref a)])) st43 ?_
    obtain ⟨T44, h44, X44, e44, W44, st44⟩ := putF X43 hx hZ hown (host := "") (Or.inl (hw _ (List.mem_of_getElem? (i := 10) rfl))) Via.refl e43 FS EA (Or.inl (hw _ (List.mem_of_getElem? (i := 11) rfl))) (hw _ (List.mem_of_getElem? (i := 1) rfl)) (ty := (.array .double)) (by decide) rfl rfl (g := (mkF m 30 #[.val (.ref a), .val (.int kx), .val (.double x), .second] [(.ref r), (.ref a)])) rfl rfl (hb hby d3_30)
    have N0 := Fr.snoc X44 N0 ga
    have EA := EA.wr W44
    have FS := FS.same W44
    have FI := FI.other W44 (Or.inr (slot_ne (t := (.array .int)) (t' := (.array .double)) (Or.inl (hw _ (List.mem_of_getElem? (i := 14) rfl))) (Or.inl (hw _ (List.mem_of_getElem? (i := 11) rfl))) (by decide) (by decide) (by decide)))
    have FN := FN.other W44 (Or.inr (slot_ne (t := .int) (t' := (.array .double)) (Or.inl (hw _ (List.mem_of_getElem? (i := 21) rfl))) (Or.inl (hw _ (List.mem_of_getElem? (i := 11) rfl))) (by decide) (by decide) (by decide)))
    have VS := VS.other W44 (Ne.symm n1)
    have VI := VI.other W44 (Ne.symm n2)
    have V_r := V_r.other W44 (Ne.symm ne_a_r)
    have Z0 := Nat.le_trans Z0 (Nat.le_of_eq W44.size.symm)
    have K0 := K0.wr W44 (Or.inl (by simp))
    refine Goes.by (T' := T44) (g' := (mkF m 33 #[.val (.ref a), .val (.int kx), .val (.double x), .second] [])) st44 ?_
    rw [show (List.replicate 128 (Value.double 0)).drop 64 = List.replicate 64 (Value.double 0) from by rw [List.drop_replicate]] at V_r
    exact tl r (xs ++ List.replicate 64 (.double 0)) _ _ _ (X44.wide (fun x hx _ => hx) (by decide) (by decide)) e44 N0 Z0 K0 EA FS FI FN V_r VI (hR.grow h64) (by simp; omega) ge_r ne_a_r (Ne.symm ne_bi_r) (Or.inr sz_r)
theorem d4_0 : decode prog_36_method_8_code 0 = .ok (.iconst 0, 1) := by decide +kernel
theorem d4_1 : decode prog_36_method_8_code 1 = .ok (.istore_n 1, 1) := by decide +kernel
theorem d4_2 : decode prog_36_method_8_code 2 = .ok (.iload_n 1, 1) := by decide +kernel
theorem d4_3 : decode prog_36_method_8_code 3 = .ok (.aload_n 0, 1) := by decide +kernel
theorem d4_4 : decode prog_36_method_8_code 4 = .ok (.getfield 29, 3) := by decide +kernel
theorem d4_7 : decode prog_36_method_8_code 7 = .ok (.if_icmp .ge 21, 3) := by decide +kernel
theorem d4_10 : decode prog_36_method_8_code 10 = .ok (.aload_n 0, 1) := by decide +kernel
theorem d4_11 : decode prog_36_method_8_code 11 = .ok (.getfield 7, 3) := by decide +kernel
theorem d4_14 : decode prog_36_method_8_code 14 = .ok (.aload_n 0, 1) := by decide +kernel
theorem d4_15 : decode prog_36_method_8_code 15 = .ok (.getfield 13, 3) := by decide +kernel
theorem d4_18 : decode prog_36_method_8_code 18 = .ok (.iload_n 1, 1) := by decide +kernel
theorem d4_19 : decode prog_36_method_8_code 19 = .ok (.iaload, 1) := by decide +kernel
theorem d4_20 : decode prog_36_method_8_code 20 = .ok (.dconst 0, 1) := by decide +kernel
theorem d4_21 : decode prog_36_method_8_code 21 = .ok (.dastore, 1) := by decide +kernel
theorem d4_22 : decode prog_36_method_8_code 22 = .ok (.iinc 1 1, 3) := by decide +kernel
theorem d4_25 : decode prog_36_method_8_code 25 = .ok (.goto (-23), 3) := by decide +kernel
theorem d4_28 : decode prog_36_method_8_code 28 = .ok (.aload_n 0, 1) := by decide +kernel
theorem d4_29 : decode prog_36_method_8_code 29 = .ok (.iconst 0, 1) := by decide +kernel
theorem d4_30 : decode prog_36_method_8_code 30 = .ok (.putfield 29, 3) := by decide +kernel
theorem d4_33 : decode prog_36_method_8_code 33 = .ok (.return_, 1) := by decide +kernel
theorem ef_rm_clear (m : MethodId) (x0 : Addr) : entryFrame m #[(.ref x0)] 2 = mkF m 0 #[.val (.ref x0), .unset] [] := by first | (simp [entryFrame, mkF, argsToLocals, Value.category, maxLocals]; done) | rfl
set_option maxRecDepth 65536 in
set_option maxHeartbeats 40000000 in
theorem rm_clear (l : Launch) (Z : State) (a0 : Array Value) (hw : ∀ d ∈ tables_1, d.before a0 Z = true) (a bs bi : Addr) (kk : Nat) (u : Int) (xs ys : List Value) (h0 : Heap) (n0 : Nat) (Z0 : n0 ≤ h0.size) (EA : Exa Z h0 a "com/example/gibbon/gibbon/analysis/SparseSum") (FS : Fld Z h0 a "com/example/gibbon/gibbon/analysis/SparseSum" "sums" "[D" (.ref bs)) (FI : Fld Z h0 a "com/example/gibbon/gibbon/analysis/SparseSum" "indices" "[I" (.ref bi)) (FN : Fld Z h0 a "com/example/gibbon/gibbon/analysis/SparseSum" "size" "I" (.int (1 : Int32))) (VS : Sar Z h0 bs .double xs) (VI : Sar Z h0 bi .int ys) (hR : OwnRep (own_upd (fun _ => 0) kk u) [kk] xs ys (1 : Int32)) (ga : n0 ≤ a) (gs : n0 ≤ bs) (gi : n0 ≤ bi) (n1 : a ≠ bs) (n2 : a ≠ bi) (n3 : bs ≠ bi) :
    Does l (⟨"com/example/gibbon/gibbon/analysis/SparseSum", "clear", "()V"⟩ : MethodName) prog_36_method_8_code 2 none [] ({ frames := 0, cells := 0, slots := 0, locals := 0 } : Room) Z #[(.ref a)] h0 (fun v h L => v = none ∧ Exa Z h a "com/example/gibbon/gibbon/analysis/SparseSum" ∧ Fld Z h a "com/example/gibbon/gibbon/analysis/SparseSum" "sums" "[D" (.ref bs) ∧ Fld Z h a "com/example/gibbon/gibbon/analysis/SparseSum" "indices" "[I" (.ref bi) ∧ Fld Z h a "com/example/gibbon/gibbon/analysis/SparseSum" "size" "I" (.int (0 : Int32)) ∧ Sar Z h bs .double (xs.set kk (.double 0)) ∧ Sar Z h bi .int ys ∧ OwnRep (fun _ => 0) [] (xs.set kk (.double 0)) ys 0 ∧ Keep h0 h [a, bs, bi] ∧ Fr n0 L) := by
  refine Does.of (plainFor_of_name pn1) ?_
  intro p e s m below meth c s₁ hx hby hml hret hlk hZ hown hnm X0 e0
  have N0 := Fr.nil n0
  refine Goes.cast (g' := mkF m 0 #[.val (.ref a), .unset] []) (ef_rm_clear m a) ?_
  have K0 := Keep.refl h0 [a, bs, bi]
  obtain ⟨hlt, wk, hy0, hwk⟩ := hR.2.2.2.2.2.2 0 kk rfl
  refine Goes.by (T' := s₁) (g' := (mkF m 1 #[.val (.ref a), .unset] [(.int (0 : Int32))])) (fun _ k => XS.iconst X0.here hx rfl (hb hby d4_0)  k) ?_
  refine Goes.by (T' := s₁) (g' := (mkF m 2 #[.val (.ref a), .val (.int (0 : Int32))] [])) (fun _ k => XS.istoreN X0.here hx rfl (hb hby d4_1) rfl (l' := #[.val (.ref a), .val (.int (0 : Int32))]) rfl k) ?_
  refine Goes.by (T' := s₁) (g' := (mkF m 3 #[.val (.ref a), .val (.int (0 : Int32))] [(.int (0 : Int32))])) (fun _ k => XS.iloadN X0.here hx rfl (hb hby d4_2) rfl k) ?_
  refine Goes.by (T' := s₁) (g' := (mkF m 4 #[.val (.ref a), .val (.int (0 : Int32))] [(.ref a), (.int (0 : Int32))])) (fun _ k => XS.aloadN X0.here hx rfl (hb hby d4_3) rfl rfl k) ?_
  obtain ⟨T45, X45, e45, st45⟩ := getF X0 hx hZ hown (host := "") (Or.inl (hw _ (List.mem_of_getElem? (i := 20) rfl))) Via.refl e0 FN (g := (mkF m 4 #[.val (.ref a), .val (.int (0 : Int32))] [(.ref a), (.int (0 : Int32))])) rfl rfl (hb hby d4_4)
  refine Goes.by (T' := T45) (g' := (mkF m 7 #[.val (.ref a), .val (.int (0 : Int32))] [(.int (1 : Int32)), (.int (0 : Int32))])) st45 ?_
  refine Goes.by (T' := T45) (g' := (mkF m 10 #[.val (.ref a), .val (.int (0 : Int32))] [])) (fun _ k => XS.icmpNo X45.here hx rfl (hb hby d4_7) rfl (by decide) k) ?_
  refine Goes.by (T' := T45) (g' := (mkF m 11 #[.val (.ref a), .val (.int (0 : Int32))] [(.ref a)])) (fun _ k => XS.aloadN X45.here hx rfl (hb hby d4_10) rfl rfl k) ?_
  obtain ⟨T46, X46, e46, st46⟩ := getF X45 hx hZ hown (host := "") (Or.inl (hw _ (List.mem_of_getElem? (i := 10) rfl))) Via.refl e45 FS (g := (mkF m 11 #[.val (.ref a), .val (.int (0 : Int32))] [(.ref a)])) rfl rfl (hb hby d4_11)
  refine Goes.by (T' := T46) (g' := (mkF m 14 #[.val (.ref a), .val (.int (0 : Int32))] [(.ref bs)])) st46 ?_
  refine Goes.by (T' := T46) (g' := (mkF m 15 #[.val (.ref a), .val (.int (0 : Int32))] [(.ref a), (.ref bs)])) (fun _ k => XS.aloadN X46.here hx rfl (hb hby d4_14) rfl rfl k) ?_
  obtain ⟨T47, X47, e47, st47⟩ := getF X46 hx hZ hown (host := "") (Or.inl (hw _ (List.mem_of_getElem? (i := 13) rfl))) Via.refl e46 FI (g := (mkF m 15 #[.val (.ref a), .val (.int (0 : Int32))] [(.ref a), (.ref bs)])) rfl rfl (hb hby d4_15)
  refine Goes.by (T' := T47) (g' := (mkF m 18 #[.val (.ref a), .val (.int (0 : Int32))] [(.ref bi), (.ref bs)])) st47 ?_
  refine Goes.by (T' := T47) (g' := (mkF m 19 #[.val (.ref a), .val (.int (0 : Int32))] [(.int (0 : Int32)), (.ref bi), (.ref bs)])) (fun _ k => XS.iloadN X47.here hx rfl (hb hby d4_18) rfl k) ?_
  refine Goes.by (T' := T47) (g' := (mkF m 20 #[.val (.ref a), .val (.int (0 : Int32))] [(.int wk), (.ref bs)])) (ldIS X47 hx hZ e47 VI (v := (.int wk)) (j := (0 : Int32)) 0 (by decide) hy0 (g := (mkF m 19 #[.val (.ref a), .val (.int (0 : Int32))] [(.int (0 : Int32)), (.ref bi), (.ref bs)])) rfl rfl (hb hby d4_19)) ?_
  refine Goes.by (T' := T47) (g' := (mkF m 21 #[.val (.ref a), .val (.int (0 : Int32))] [(.double (0 : UInt64)), (.int wk), (.ref bs)])) (fun _ k => XS.dconst0 X47.here hx rfl (hb hby d4_20) rfl k) ?_
  obtain ⟨T48, h48, X48, e48, W48, V48, st48⟩ := stDS X47 hx hZ e47 VS (j := wk) kk hwk hlt (g := (mkF m 21 #[.val (.ref a), .val (.int (0 : Int32))] [(.double (0 : UInt64)), (.int wk), (.ref bs)])) rfl rfl (hb hby d4_21)
  have N0 := Fr.snoc X48 N0 gs
  have EA := EA.wr W48
  have FS := FS.other W48 (Or.inl n1)
  have FI := FI.other W48 (Or.inl n1)
  have FN := FN.other W48 (Or.inl n1)
  have VI := VI.other W48 (Ne.symm n3)
  have Z0 := Nat.le_trans Z0 (Nat.le_of_eq W48.size.symm)
  have K0 := K0.wr W48 (Or.inl (by simp))
  have VS : Sar Z h48 bs .double (xs.set kk (.double 0)) := V48
  refine Goes.by (T' := T48) (g' := (mkF m 22 #[.val (.ref a), .val (.int (0 : Int32))] [])) st48 ?_
  refine Goes.by (T' := T48) (g' := (mkF m 25 #[.val (.ref a), .val (.int (1 : Int32))] [])) (fun _ k => XS.iinc X48.here hx rfl (hb hby d4_22) rfl (l' := #[.val (.ref a), .val (.int (1 : Int32))]) rfl k) ?_
  refine Goes.by (T' := T48) (g' := (mkF m 2 #[.val (.ref a), .val (.int (1 : Int32))] [])) (fun _ k => XS.goto X48.here hx rfl (pc0 := 25) (pc' := 2) rfl (hb hby d4_25) (by decide) (by decide) k) ?_
  refine Goes.by (T' := T48) (g' := (mkF m 3 #[.val (.ref a), .val (.int (1 : Int32))] [(.int (1 : Int32))])) (fun _ k => XS.iloadN X48.here hx rfl (hb hby d4_2) rfl k) ?_
  refine Goes.by (T' := T48) (g' := (mkF m 4 #[.val (.ref a), .val (.int (1 : Int32))] [(.ref a), (.int (1 : Int32))])) (fun _ k => XS.aloadN X48.here hx rfl (hb hby d4_3) rfl rfl k) ?_
  obtain ⟨T49, X49, e49, st49⟩ := getF X48 hx hZ hown (host := "") (Or.inl (hw _ (List.mem_of_getElem? (i := 20) rfl))) Via.refl e48 FN (g := (mkF m 4 #[.val (.ref a), .val (.int (1 : Int32))] [(.ref a), (.int (1 : Int32))])) rfl rfl (hb hby d4_4)
  refine Goes.by (T' := T49) (g' := (mkF m 7 #[.val (.ref a), .val (.int (1 : Int32))] [(.int (1 : Int32)), (.int (1 : Int32))])) st49 ?_
  refine Goes.by (T' := T49) (g' := (mkF m 28 #[.val (.ref a), .val (.int (1 : Int32))] [])) (fun _ k => XS.icmpYes X49.here hx rfl (pc0 := 7) (pc' := 28) rfl (hb hby d4_7) rfl (by decide) (by decide) (by decide) k) ?_
  refine Goes.by (T' := T49) (g' := (mkF m 29 #[.val (.ref a), .val (.int (1 : Int32))] [(.ref a)])) (fun _ k => XS.aloadN X49.here hx rfl (hb hby d4_28) rfl rfl k) ?_
  refine Goes.by (T' := T49) (g' := (mkF m 30 #[.val (.ref a), .val (.int (1 : Int32))] [(.int (0 : Int32)), (.ref a)])) (fun _ k => XS.iconst X49.here hx rfl (hb hby d4_29)  k) ?_
  obtain ⟨T50, h50, X50, e50, W50, st50⟩ := putF X49 hx hZ hown (host := "") (Or.inl (hw _ (List.mem_of_getElem? (i := 20) rfl))) Via.refl e49 FN EA (Or.inl (hw _ (List.mem_of_getElem? (i := 21) rfl))) (hw _ (List.mem_of_getElem? (i := 1) rfl)) (ty := .int) (by decide) rfl rfl (g := (mkF m 30 #[.val (.ref a), .val (.int (1 : Int32))] [(.int (0 : Int32)), (.ref a)])) rfl rfl (hb hby d4_30)
  have N0 := Fr.snoc X50 N0 ga
  have EA := EA.wr W50
  have FS := FS.other W50 (Or.inr (slot_ne (t := (.array .double)) (t' := .int) (Or.inl (hw _ (List.mem_of_getElem? (i := 11) rfl))) (Or.inl (hw _ (List.mem_of_getElem? (i := 21) rfl))) (by decide) (by decide) (by decide)))
  have FI := FI.other W50 (Or.inr (slot_ne (t := (.array .int)) (t' := .int) (Or.inl (hw _ (List.mem_of_getElem? (i := 14) rfl))) (Or.inl (hw _ (List.mem_of_getElem? (i := 21) rfl))) (by decide) (by decide) (by decide)))
  have FN := FN.same W50
  have VS := VS.other W50 (Ne.symm n1)
  have VI := VI.other W50 (Ne.symm n2)
  have Z0 := Nat.le_trans Z0 (Nat.le_of_eq W50.size.symm)
  have K0 := K0.wr W50 (Or.inl (by simp))
  refine Goes.by (T' := T50) (g' := (mkF m 33 #[.val (.ref a), .val (.int (1 : Int32))] [])) st50 ?_
  exact outV X50 hx hlk hret (hb hby d4_33) (by rw [e50]; exact ⟨rfl, EA, FS, FI, FN, VS, VI, hR.clear, K0, N0⟩) (by decide) (by decide)
theorem d5_0 : decode prog_36_method_7_code 0 = .ok (.aload_n 0, 1) := by decide +kernel
theorem d5_1 : decode prog_36_method_7_code 1 = .ok (.getfield 29, 3) := by decide +kernel
theorem d5_4 : decode prog_36_method_7_code 4 = .ok (.newarray .double, 2) := by decide +kernel
theorem d5_6 : decode prog_36_method_7_code 6 = .ok (.astore_n 1, 1) := by decide +kernel
theorem d5_7 : decode prog_36_method_7_code 7 = .ok (.iconst 0, 1) := by decide +kernel
theorem d5_8 : decode prog_36_method_7_code 8 = .ok (.istore_n 2, 1) := by decide +kernel
theorem d5_9 : decode prog_36_method_7_code 9 = .ok (.iload_n 2, 1) := by decide +kernel
theorem d5_10 : decode prog_36_method_7_code 10 = .ok (.aload_n 0, 1) := by decide +kernel
theorem d5_11 : decode prog_36_method_7_code 11 = .ok (.getfield 29, 3) := by decide +kernel
theorem d5_14 : decode prog_36_method_7_code 14 = .ok (.if_icmp .ge 23, 3) := by decide +kernel
theorem d5_17 : decode prog_36_method_7_code 17 = .ok (.aload_n 1, 1) := by decide +kernel
theorem d5_18 : decode prog_36_method_7_code 18 = .ok (.iload_n 2, 1) := by decide +kernel
theorem d5_19 : decode prog_36_method_7_code 19 = .ok (.aload_n 0, 1) := by decide +kernel
theorem d5_20 : decode prog_36_method_7_code 20 = .ok (.getfield 7, 3) := by decide +kernel
theorem d5_23 : decode prog_36_method_7_code 23 = .ok (.aload_n 0, 1) := by decide +kernel
theorem d5_24 : decode prog_36_method_7_code 24 = .ok (.getfield 13, 3) := by decide +kernel
theorem d5_27 : decode prog_36_method_7_code 27 = .ok (.iload_n 2, 1) := by decide +kernel
theorem d5_28 : decode prog_36_method_7_code 28 = .ok (.iaload, 1) := by decide +kernel
theorem d5_29 : decode prog_36_method_7_code 29 = .ok (.daload, 1) := by decide +kernel
theorem d5_30 : decode prog_36_method_7_code 30 = .ok (.dastore, 1) := by decide +kernel
theorem d5_31 : decode prog_36_method_7_code 31 = .ok (.iinc 2 1, 3) := by decide +kernel
theorem d5_34 : decode prog_36_method_7_code 34 = .ok (.goto (-25), 3) := by decide +kernel
theorem d5_37 : decode prog_36_method_7_code 37 = .ok (.aload_n 1, 1) := by decide +kernel
theorem d5_38 : decode prog_36_method_7_code 38 = .ok (.areturn, 1) := by decide +kernel
theorem pd4 : parseMethodDescriptor "()[D" = some ⟨[], some (.array .double)⟩ := by decide +kernel
theorem ef_rm_sums0 (m : MethodId) (x0 : Addr) : entryFrame m #[(.ref x0)] 3 = mkF m 0 #[.val (.ref x0), .unset, .unset] [] := by first | (simp [entryFrame, mkF, argsToLocals, Value.category, maxLocals]; done) | rfl
set_option maxRecDepth 65536 in
set_option maxHeartbeats 40000000 in
theorem rm_sums0 (l : Launch) (Z : State) (a0 : Array Value) (hw : ∀ d ∈ tables_1, d.before a0 Z = true) (a bs bi : Addr) (xs ys : List Value) (h0 : Heap) (n0 : Nat) (Z0 : n0 ≤ h0.size) (EA : Exa Z h0 a "com/example/gibbon/gibbon/analysis/SparseSum") (FS : Fld Z h0 a "com/example/gibbon/gibbon/analysis/SparseSum" "sums" "[D" (.ref bs)) (FI : Fld Z h0 a "com/example/gibbon/gibbon/analysis/SparseSum" "indices" "[I" (.ref bi)) (FN : Fld Z h0 a "com/example/gibbon/gibbon/analysis/SparseSum" "size" "I" (.int (0 : Int32))) (VS : Sar Z h0 bs .double xs) (VI : Sar Z h0 bi .int ys) (ga : n0 ≤ a) (gs : n0 ≤ bs) (gi : n0 ≤ bi) (n1 : a ≠ bs) (n2 : a ≠ bi) (n3 : bs ≠ bi) :
    Does l (⟨"com/example/gibbon/gibbon/analysis/SparseSum", "sums", "()[D"⟩ : MethodName) prog_36_method_7_code 3 (some (.array .double)) [] ({ frames := 0, cells := 1, slots := 0, locals := 0 } : Room) Z #[(.ref a)] h0 (fun v h L => ∃ r, v = some (.ref r) ∧ Sar Z h r .double [] ∧ h0.size ≤ r ∧ Keep h0 h [] ∧ Fr n0 L) := by
  refine Does.of (plainFor_of_name pn1) ?_
  intro p e s m below meth c s₁ hx hby hml hret hlk hZ hown hnm X0 e0
  have N0 := Fr.nil n0
  refine Goes.cast (g' := mkF m 0 #[.val (.ref a), .unset, .unset] []) (ef_rm_sums0 m a) ?_
  have K0 := Keep.refl h0 []
  refine Goes.by (T' := s₁) (g' := (mkF m 1 #[.val (.ref a), .unset, .unset] [(.ref a)])) (fun _ k => XS.aloadN X0.here hx rfl (hb hby d5_0) rfl rfl k) ?_
  obtain ⟨T51, X51, e51, st51⟩ := getF X0 hx hZ hown (host := "") (Or.inl (hw _ (List.mem_of_getElem? (i := 20) rfl))) Via.refl e0 FN (g := (mkF m 1 #[.val (.ref a), .unset, .unset] [(.ref a)])) rfl rfl (hb hby d5_1)
  refine Goes.by (T' := T51) (g' := (mkF m 4 #[.val (.ref a), .unset, .unset] [(.int (0 : Int32))])) st51 ?_
  obtain ⟨T52, h52, k52, X52, e52, E52, A52, st52⟩ := newP X51 hx hZ (hw _ (List.mem_of_getElem? (i := 9) rfl)) e51 (g := (mkF m 4 #[.val (.ref a), .unset, .unset] [(.int (0 : Int32))])) rfl (hb hby d5_4) rfl (by decide) (cap := 0) (by decide) (by decide) (by decide) (by decide)
  obtain ⟨r, g52⟩ : ∃ z, z = h0.size := ⟨_, rfl⟩
  rw [← g52] at A52 st52
  have ne_a_r : a ≠ r := fun q => Nat.lt_irrefl _ (Nat.lt_of_lt_of_eq EA.lt (g52.symm.trans q.symm))
  have ne_bs_r : bs ≠ r := fun q => Nat.lt_irrefl _ (Nat.lt_of_lt_of_eq VS.lt (g52.symm.trans q.symm))
  have ne_bi_r : bi ≠ r := fun q => Nat.lt_irrefl _ (Nat.lt_of_lt_of_eq VI.lt (g52.symm.trans q.symm))
  have ge_r : n0 ≤ r := Nat.le_trans Z0 (Nat.le_of_eq g52.symm)
  have sz_r : h0.size ≤ r := Nat.le_trans K0.1 (Nat.le_of_eq g52.symm)
  have EA := EA.ext E52
  have FS := FS.ext E52
  have FI := FI.ext E52
  have FN := FN.ext E52
  have VS := VS.ext E52
  have VI := VI.ext E52
  have Z0 := Nat.le_trans Z0 E52.1
  have K0 := K0.ext E52
  have V_r : Sar Z h52 r .double [] := Sar.new (n := 0) A52 (by decide)
  refine Goes.by (T' := T52) (g' := (mkF m 6 #[.val (.ref a), .unset, .unset] [(.ref r)])) st52 ?_
  refine Goes.by (T' := T52) (g' := (mkF m 7 #[.val (.ref a), .val (.ref r), .unset] [])) (fun _ k => XS.astoreN X52.here hx rfl (hb hby d5_6) rfl rfl (l' := #[.val (.ref a), .val (.ref r), .unset]) rfl k) ?_
  refine Goes.by (T' := T52) (g' := (mkF m 8 #[.val (.ref a), .val (.ref r), .unset] [(.int (0 : Int32))])) (fun _ k => XS.iconst X52.here hx rfl (hb hby d5_7)  k) ?_
  refine Goes.by (T' := T52) (g' := (mkF m 9 #[.val (.ref a), .val (.ref r), .val (.int (0 : Int32))] [])) (fun _ k => XS.istoreN X52.here hx rfl (hb hby d5_8) rfl (l' := #[.val (.ref a), .val (.ref r), .val (.int (0 : Int32))]) rfl k) ?_
  refine Goes.by (T' := T52) (g' := (mkF m 10 #[.val (.ref a), .val (.ref r), .val (.int (0 : Int32))] [(.int (0 : Int32))])) (fun _ k => XS.iloadN X52.here hx rfl (hb hby d5_9) rfl k) ?_
  refine Goes.by (T' := T52) (g' := (mkF m 11 #[.val (.ref a), .val (.ref r), .val (.int (0 : Int32))] [(.ref a), (.int (0 : Int32))])) (fun _ k => XS.aloadN X52.here hx rfl (hb hby d5_10) rfl rfl k) ?_
  obtain ⟨T53, X53, e53, st53⟩ := getF X52 hx hZ hown (host := "") (Or.inl (hw _ (List.mem_of_getElem? (i := 20) rfl))) Via.refl e52 FN (g := (mkF m 11 #[.val (.ref a), .val (.ref r), .val (.int (0 : Int32))] [(.ref a), (.int (0 : Int32))])) rfl rfl (hb hby d5_11)
  refine Goes.by (T' := T53) (g' := (mkF m 14 #[.val (.ref a), .val (.ref r), .val (.int (0 : Int32))] [(.int (0 : Int32)), (.int (0 : Int32))])) st53 ?_
  refine Goes.by (T' := T53) (g' := (mkF m 37 #[.val (.ref a), .val (.ref r), .val (.int (0 : Int32))] [])) (fun _ k => XS.icmpYes X53.here hx rfl (pc0 := 14) (pc' := 37) rfl (hb hby d5_14) rfl (by decide) (by decide) (by decide) k) ?_
  refine Goes.by (T' := T53) (g' := (mkF m 38 #[.val (.ref a), .val (.ref r), .val (.int (0 : Int32))] [(.ref r)])) (fun _ k => XS.aloadN X53.here hx rfl (hb hby d5_37) rfl rfl k) ?_
  exact outA X53 hx hlk hret rfl rfl rfl (hb hby d5_38) (by rw [e53]; exact ⟨r, rfl, V_r, sz_r, K0, N0⟩) (by decide) (by decide)
theorem ef_rm_sums1 (m : MethodId) (x0 : Addr) : entryFrame m #[(.ref x0)] 3 = mkF m 0 #[.val (.ref x0), .unset, .unset] [] := by first | (simp [entryFrame, mkF, argsToLocals, Value.category, maxLocals]; done) | rfl
set_option maxRecDepth 65536 in
set_option maxHeartbeats 40000000 in
theorem rm_sums1 (l : Launch) (Z : State) (a0 : Array Value) (hw : ∀ d ∈ tables_1, d.before a0 Z = true) (a bs bi : Addr) (xs ys : List Value) (w0 : Int32) (k0 : Nat) (d0 : UInt64) (h0 : Heap) (n0 : Nat) (Z0 : n0 ≤ h0.size) (EA : Exa Z h0 a "com/example/gibbon/gibbon/analysis/SparseSum") (FS : Fld Z h0 a "com/example/gibbon/gibbon/analysis/SparseSum" "sums" "[D" (.ref bs)) (FI : Fld Z h0 a "com/example/gibbon/gibbon/analysis/SparseSum" "indices" "[I" (.ref bi)) (FN : Fld Z h0 a "com/example/gibbon/gibbon/analysis/SparseSum" "size" "I" (.int (1 : Int32))) (VS : Sar Z h0 bs .double xs) (VI : Sar Z h0 bi .int ys) (ga : n0 ≤ a) (gs : n0 ≤ bs) (gi : n0 ≤ bi) (n1 : a ≠ bs) (n2 : a ≠ bi) (n3 : bs ≠ bi) (hy0 : ys[0]? = some (.int w0)) (hw0 : w0.toInt = k0) (hx0 : xs[k0]? = some (.double d0)) :
    Does l (⟨"com/example/gibbon/gibbon/analysis/SparseSum", "sums", "()[D"⟩ : MethodName) prog_36_method_7_code 3 (some (.array .double)) [] ({ frames := 0, cells := 1, slots := 1, locals := 0 } : Room) Z #[(.ref a)] h0 (fun v h L => ∃ r, v = some (.ref r) ∧ Sar Z h r .double [(.double d0)] ∧ h0.size ≤ r ∧ Keep h0 h [] ∧ Fr n0 L) := by
  refine Does.of (plainFor_of_name pn1) ?_
  intro p e s m below meth c s₁ hx hby hml hret hlk hZ hown hnm X0 e0
  have N0 := Fr.nil n0
  refine Goes.cast (g' := mkF m 0 #[.val (.ref a), .unset, .unset] []) (ef_rm_sums1 m a) ?_
  have K0 := Keep.refl h0 []
  refine Goes.by (T' := s₁) (g' := (mkF m 1 #[.val (.ref a), .unset, .unset] [(.ref a)])) (fun _ k => XS.aloadN X0.here hx rfl (hb hby d5_0) rfl rfl k) ?_
  obtain ⟨T54, X54, e54, st54⟩ := getF X0 hx hZ hown (host := "") (Or.inl (hw _ (List.mem_of_getElem? (i := 20) rfl))) Via.refl e0 FN (g := (mkF m 1 #[.val (.ref a), .unset, .unset] [(.ref a)])) rfl rfl (hb hby d5_1)
  refine Goes.by (T' := T54) (g' := (mkF m 4 #[.val (.ref a), .unset, .unset] [(.int (1 : Int32))])) st54 ?_
  obtain ⟨T55, h55, k55, X55, e55, E55, A55, st55⟩ := newP X54 hx hZ (hw _ (List.mem_of_getElem? (i := 9) rfl)) e54 (g := (mkF m 4 #[.val (.ref a), .unset, .unset] [(.int (1 : Int32))])) rfl (hb hby d5_4) rfl (by decide) (cap := 1) (by decide) (by decide) (by decide) (by decide)
  obtain ⟨r, g55⟩ : ∃ z, z = h0.size := ⟨_, rfl⟩
  rw [← g55] at A55 st55
  have ne_a_r : a ≠ r := fun q => Nat.lt_irrefl _ (Nat.lt_of_lt_of_eq EA.lt (g55.symm.trans q.symm))
  have ne_bs_r : bs ≠ r := fun q => Nat.lt_irrefl _ (Nat.lt_of_lt_of_eq VS.lt (g55.symm.trans q.symm))
  have ne_bi_r : bi ≠ r := fun q => Nat.lt_irrefl _ (Nat.lt_of_lt_of_eq VI.lt (g55.symm.trans q.symm))
  have ge_r : n0 ≤ r := Nat.le_trans Z0 (Nat.le_of_eq g55.symm)
  have sz_r : h0.size ≤ r := Nat.le_trans K0.1 (Nat.le_of_eq g55.symm)
  have EA := EA.ext E55
  have FS := FS.ext E55
  have FI := FI.ext E55
  have FN := FN.ext E55
  have VS := VS.ext E55
  have VI := VI.ext E55
  have Z0 := Nat.le_trans Z0 E55.1
  have K0 := K0.ext E55
  have V_r : Sar Z h55 r .double [(.double (0 : UInt64))] := Sar.new (n := 1) A55 (by decide)
  refine Goes.by (T' := T55) (g' := (mkF m 6 #[.val (.ref a), .unset, .unset] [(.ref r)])) st55 ?_
  refine Goes.by (T' := T55) (g' := (mkF m 7 #[.val (.ref a), .val (.ref r), .unset] [])) (fun _ k => XS.astoreN X55.here hx rfl (hb hby d5_6) rfl rfl (l' := #[.val (.ref a), .val (.ref r), .unset]) rfl k) ?_
  refine Goes.by (T' := T55) (g' := (mkF m 8 #[.val (.ref a), .val (.ref r), .unset] [(.int (0 : Int32))])) (fun _ k => XS.iconst X55.here hx rfl (hb hby d5_7)  k) ?_
  refine Goes.by (T' := T55) (g' := (mkF m 9 #[.val (.ref a), .val (.ref r), .val (.int (0 : Int32))] [])) (fun _ k => XS.istoreN X55.here hx rfl (hb hby d5_8) rfl (l' := #[.val (.ref a), .val (.ref r), .val (.int (0 : Int32))]) rfl k) ?_
  refine Goes.by (T' := T55) (g' := (mkF m 10 #[.val (.ref a), .val (.ref r), .val (.int (0 : Int32))] [(.int (0 : Int32))])) (fun _ k => XS.iloadN X55.here hx rfl (hb hby d5_9) rfl k) ?_
  refine Goes.by (T' := T55) (g' := (mkF m 11 #[.val (.ref a), .val (.ref r), .val (.int (0 : Int32))] [(.ref a), (.int (0 : Int32))])) (fun _ k => XS.aloadN X55.here hx rfl (hb hby d5_10) rfl rfl k) ?_
  obtain ⟨T56, X56, e56, st56⟩ := getF X55 hx hZ hown (host := "") (Or.inl (hw _ (List.mem_of_getElem? (i := 20) rfl))) Via.refl e55 FN (g := (mkF m 11 #[.val (.ref a), .val (.ref r), .val (.int (0 : Int32))] [(.ref a), (.int (0 : Int32))])) rfl rfl (hb hby d5_11)
  refine Goes.by (T' := T56) (g' := (mkF m 14 #[.val (.ref a), .val (.ref r), .val (.int (0 : Int32))] [(.int (1 : Int32)), (.int (0 : Int32))])) st56 ?_
  refine Goes.by (T' := T56) (g' := (mkF m 17 #[.val (.ref a), .val (.ref r), .val (.int (0 : Int32))] [])) (fun _ k => XS.icmpNo X56.here hx rfl (hb hby d5_14) rfl (by decide) k) ?_
  refine Goes.by (T' := T56) (g' := (mkF m 18 #[.val (.ref a), .val (.ref r), .val (.int (0 : Int32))] [(.ref r)])) (fun _ k => XS.aloadN X56.here hx rfl (hb hby d5_17) rfl rfl k) ?_
  refine Goes.by (T' := T56) (g' := (mkF m 19 #[.val (.ref a), .val (.ref r), .val (.int (0 : Int32))] [(.int (0 : Int32)), (.ref r)])) (fun _ k => XS.iloadN X56.here hx rfl (hb hby d5_18) rfl k) ?_
  refine Goes.by (T' := T56) (g' := (mkF m 20 #[.val (.ref a), .val (.ref r), .val (.int (0 : Int32))] [(.ref a), (.int (0 : Int32)), (.ref r)])) (fun _ k => XS.aloadN X56.here hx rfl (hb hby d5_19) rfl rfl k) ?_
  obtain ⟨T57, X57, e57, st57⟩ := getF X56 hx hZ hown (host := "") (Or.inl (hw _ (List.mem_of_getElem? (i := 10) rfl))) Via.refl e56 FS (g := (mkF m 20 #[.val (.ref a), .val (.ref r), .val (.int (0 : Int32))] [(.ref a), (.int (0 : Int32)), (.ref r)])) rfl rfl (hb hby d5_20)
  refine Goes.by (T' := T57) (g' := (mkF m 23 #[.val (.ref a), .val (.ref r), .val (.int (0 : Int32))] [(.ref bs), (.int (0 : Int32)), (.ref r)])) st57 ?_
  refine Goes.by (T' := T57) (g' := (mkF m 24 #[.val (.ref a), .val (.ref r), .val (.int (0 : Int32))] [(.ref a), (.ref bs), (.int (0 : Int32)), (.ref r)])) (fun _ k => XS.aloadN X57.here hx rfl (hb hby d5_23) rfl rfl k) ?_
  obtain ⟨T58, X58, e58, st58⟩ := getF X57 hx hZ hown (host := "") (Or.inl (hw _ (List.mem_of_getElem? (i := 13) rfl))) Via.refl e57 FI (g := (mkF m 24 #[.val (.ref a), .val (.ref r), .val (.int (0 : Int32))] [(.ref a), (.ref bs), (.int (0 : Int32)), (.ref r)])) rfl rfl (hb hby d5_24)
  refine Goes.by (T' := T58) (g' := (mkF m 27 #[.val (.ref a), .val (.ref r), .val (.int (0 : Int32))] [(.ref bi), (.ref bs), (.int (0 : Int32)), (.ref r)])) st58 ?_
  refine Goes.by (T' := T58) (g' := (mkF m 28 #[.val (.ref a), .val (.ref r), .val (.int (0 : Int32))] [(.int (0 : Int32)), (.ref bi), (.ref bs), (.int (0 : Int32)), (.ref r)])) (fun _ k => XS.iloadN X58.here hx rfl (hb hby d5_27) rfl k) ?_
  refine Goes.by (T' := T58) (g' := (mkF m 29 #[.val (.ref a), .val (.ref r), .val (.int (0 : Int32))] [(.int w0), (.ref bs), (.int (0 : Int32)), (.ref r)])) (ldIS X58 hx hZ e58 VI (v := (.int w0)) (j := (0 : Int32)) 0 (by decide) hy0 (g := (mkF m 28 #[.val (.ref a), .val (.ref r), .val (.int (0 : Int32))] [(.int (0 : Int32)), (.ref bi), (.ref bs), (.int (0 : Int32)), (.ref r)])) rfl rfl (hb hby d5_28)) ?_
  refine Goes.by (T' := T58) (g' := (mkF m 30 #[.val (.ref a), .val (.ref r), .val (.int (0 : Int32))] [(.double d0), (.int (0 : Int32)), (.ref r)])) (ldDS X58 hx hZ e58 VS (v := (.double d0)) (j := w0) k0 hw0 hx0 (g := (mkF m 29 #[.val (.ref a), .val (.ref r), .val (.int (0 : Int32))] [(.int w0), (.ref bs), (.int (0 : Int32)), (.ref r)])) rfl rfl (hb hby d5_29)) ?_
  obtain ⟨T59, h59, X59, e59, W59, V59, st59⟩ := stDS X58 hx hZ e58 V_r (j := (0 : Int32)) 0 (by decide) (by show 0 < 1; decide) (g := (mkF m 30 #[.val (.ref a), .val (.ref r), .val (.int (0 : Int32))] [(.double d0), (.int (0 : Int32)), (.ref r)])) rfl rfl (hb hby d5_30)
  have N0 := Fr.snoc X59 N0 ge_r
  have EA := EA.wr W59
  have FS := FS.other W59 (Or.inl ne_a_r)
  have FI := FI.other W59 (Or.inl ne_a_r)
  have FN := FN.other W59 (Or.inl ne_a_r)
  have VS := VS.other W59 ne_bs_r
  have VI := VI.other W59 ne_bi_r
  have Z0 := Nat.le_trans Z0 (Nat.le_of_eq W59.size.symm)
  have K0 := K0.wr W59 (Or.inr sz_r)
  have V_r : Sar Z h59 r .double [(.double d0)] := V59
  refine Goes.by (T' := T59) (g' := (mkF m 31 #[.val (.ref a), .val (.ref r), .val (.int (0 : Int32))] [])) st59 ?_
  refine Goes.by (T' := T59) (g' := (mkF m 34 #[.val (.ref a), .val (.ref r), .val (.int (1 : Int32))] [])) (fun _ k => XS.iinc X59.here hx rfl (hb hby d5_31) rfl (l' := #[.val (.ref a), .val (.ref r), .val (.int (1 : Int32))]) rfl k) ?_
  refine Goes.by (T' := T59) (g' := (mkF m 9 #[.val (.ref a), .val (.ref r), .val (.int (1 : Int32))] [])) (fun _ k => XS.goto X59.here hx rfl (pc0 := 34) (pc' := 9) rfl (hb hby d5_34) (by decide) (by decide) k) ?_
  refine Goes.by (T' := T59) (g' := (mkF m 10 #[.val (.ref a), .val (.ref r), .val (.int (1 : Int32))] [(.int (1 : Int32))])) (fun _ k => XS.iloadN X59.here hx rfl (hb hby d5_9) rfl k) ?_
  refine Goes.by (T' := T59) (g' := (mkF m 11 #[.val (.ref a), .val (.ref r), .val (.int (1 : Int32))] [(.ref a), (.int (1 : Int32))])) (fun _ k => XS.aloadN X59.here hx rfl (hb hby d5_10) rfl rfl k) ?_
  obtain ⟨T60, X60, e60, st60⟩ := getF X59 hx hZ hown (host := "") (Or.inl (hw _ (List.mem_of_getElem? (i := 20) rfl))) Via.refl e59 FN (g := (mkF m 11 #[.val (.ref a), .val (.ref r), .val (.int (1 : Int32))] [(.ref a), (.int (1 : Int32))])) rfl rfl (hb hby d5_11)
  refine Goes.by (T' := T60) (g' := (mkF m 14 #[.val (.ref a), .val (.ref r), .val (.int (1 : Int32))] [(.int (1 : Int32)), (.int (1 : Int32))])) st60 ?_
  refine Goes.by (T' := T60) (g' := (mkF m 37 #[.val (.ref a), .val (.ref r), .val (.int (1 : Int32))] [])) (fun _ k => XS.icmpYes X60.here hx rfl (pc0 := 14) (pc' := 37) rfl (hb hby d5_14) rfl (by decide) (by decide) (by decide) k) ?_
  refine Goes.by (T' := T60) (g' := (mkF m 38 #[.val (.ref a), .val (.ref r), .val (.int (1 : Int32))] [(.ref r)])) (fun _ k => XS.aloadN X60.here hx rfl (hb hby d5_37) rfl rfl k) ?_
  exact outA X60 hx hlk hret rfl rfl rfl (hb hby d5_38) (by rw [e60]; exact ⟨r, rfl, V_r, sz_r, K0, N0⟩) (by decide) (by decide)
theorem ef_rm_sums2 (m : MethodId) (x0 : Addr) : entryFrame m #[(.ref x0)] 3 = mkF m 0 #[.val (.ref x0), .unset, .unset] [] := by first | (simp [entryFrame, mkF, argsToLocals, Value.category, maxLocals]; done) | rfl
set_option maxRecDepth 65536 in
set_option maxHeartbeats 40000000 in
theorem rm_sums2 (l : Launch) (Z : State) (a0 : Array Value) (hw : ∀ d ∈ tables_1, d.before a0 Z = true) (a bs bi : Addr) (xs ys : List Value) (w0 : Int32) (k0 : Nat) (d0 : UInt64) (w1 : Int32) (k1 : Nat) (d1 : UInt64) (h0 : Heap) (n0 : Nat) (Z0 : n0 ≤ h0.size) (EA : Exa Z h0 a "com/example/gibbon/gibbon/analysis/SparseSum") (FS : Fld Z h0 a "com/example/gibbon/gibbon/analysis/SparseSum" "sums" "[D" (.ref bs)) (FI : Fld Z h0 a "com/example/gibbon/gibbon/analysis/SparseSum" "indices" "[I" (.ref bi)) (FN : Fld Z h0 a "com/example/gibbon/gibbon/analysis/SparseSum" "size" "I" (.int (2 : Int32))) (VS : Sar Z h0 bs .double xs) (VI : Sar Z h0 bi .int ys) (ga : n0 ≤ a) (gs : n0 ≤ bs) (gi : n0 ≤ bi) (n1 : a ≠ bs) (n2 : a ≠ bi) (n3 : bs ≠ bi) (hy0 : ys[0]? = some (.int w0)) (hw0 : w0.toInt = k0) (hx0 : xs[k0]? = some (.double d0)) (hy1 : ys[1]? = some (.int w1)) (hw1 : w1.toInt = k1) (hx1 : xs[k1]? = some (.double d1)) :
    Does l (⟨"com/example/gibbon/gibbon/analysis/SparseSum", "sums", "()[D"⟩ : MethodName) prog_36_method_7_code 3 (some (.array .double)) [] ({ frames := 0, cells := 1, slots := 2, locals := 0 } : Room) Z #[(.ref a)] h0 (fun v h L => ∃ r, v = some (.ref r) ∧ Sar Z h r .double [(.double d0), (.double d1)] ∧ h0.size ≤ r ∧ Keep h0 h [] ∧ Fr n0 L) := by
  refine Does.of (plainFor_of_name pn1) ?_
  intro p e s m below meth c s₁ hx hby hml hret hlk hZ hown hnm X0 e0
  have N0 := Fr.nil n0
  refine Goes.cast (g' := mkF m 0 #[.val (.ref a), .unset, .unset] []) (ef_rm_sums2 m a) ?_
  have K0 := Keep.refl h0 []
  refine Goes.by (T' := s₁) (g' := (mkF m 1 #[.val (.ref a), .unset, .unset] [(.ref a)])) (fun _ k => XS.aloadN X0.here hx rfl (hb hby d5_0) rfl rfl k) ?_
  obtain ⟨T61, X61, e61, st61⟩ := getF X0 hx hZ hown (host := "") (Or.inl (hw _ (List.mem_of_getElem? (i := 20) rfl))) Via.refl e0 FN (g := (mkF m 1 #[.val (.ref a), .unset, .unset] [(.ref a)])) rfl rfl (hb hby d5_1)
  refine Goes.by (T' := T61) (g' := (mkF m 4 #[.val (.ref a), .unset, .unset] [(.int (2 : Int32))])) st61 ?_
  obtain ⟨T62, h62, k62, X62, e62, E62, A62, st62⟩ := newP X61 hx hZ (hw _ (List.mem_of_getElem? (i := 9) rfl)) e61 (g := (mkF m 4 #[.val (.ref a), .unset, .unset] [(.int (2 : Int32))])) rfl (hb hby d5_4) rfl (by decide) (cap := 2) (by decide) (by decide) (by decide) (by decide)
  obtain ⟨r, g62⟩ : ∃ z, z = h0.size := ⟨_, rfl⟩
  rw [← g62] at A62 st62
  have ne_a_r : a ≠ r := fun q => Nat.lt_irrefl _ (Nat.lt_of_lt_of_eq EA.lt (g62.symm.trans q.symm))
  have ne_bs_r : bs ≠ r := fun q => Nat.lt_irrefl _ (Nat.lt_of_lt_of_eq VS.lt (g62.symm.trans q.symm))
  have ne_bi_r : bi ≠ r := fun q => Nat.lt_irrefl _ (Nat.lt_of_lt_of_eq VI.lt (g62.symm.trans q.symm))
  have ge_r : n0 ≤ r := Nat.le_trans Z0 (Nat.le_of_eq g62.symm)
  have sz_r : h0.size ≤ r := Nat.le_trans K0.1 (Nat.le_of_eq g62.symm)
  have EA := EA.ext E62
  have FS := FS.ext E62
  have FI := FI.ext E62
  have FN := FN.ext E62
  have VS := VS.ext E62
  have VI := VI.ext E62
  have Z0 := Nat.le_trans Z0 E62.1
  have K0 := K0.ext E62
  have V_r : Sar Z h62 r .double [(.double (0 : UInt64)), (.double (0 : UInt64))] := Sar.new (n := 2) A62 (by decide)
  refine Goes.by (T' := T62) (g' := (mkF m 6 #[.val (.ref a), .unset, .unset] [(.ref r)])) st62 ?_
  refine Goes.by (T' := T62) (g' := (mkF m 7 #[.val (.ref a), .val (.ref r), .unset] [])) (fun _ k => XS.astoreN X62.here hx rfl (hb hby d5_6) rfl rfl (l' := #[.val (.ref a), .val (.ref r), .unset]) rfl k) ?_
  refine Goes.by (T' := T62) (g' := (mkF m 8 #[.val (.ref a), .val (.ref r), .unset] [(.int (0 : Int32))])) (fun _ k => XS.iconst X62.here hx rfl (hb hby d5_7)  k) ?_
  refine Goes.by (T' := T62) (g' := (mkF m 9 #[.val (.ref a), .val (.ref r), .val (.int (0 : Int32))] [])) (fun _ k => XS.istoreN X62.here hx rfl (hb hby d5_8) rfl (l' := #[.val (.ref a), .val (.ref r), .val (.int (0 : Int32))]) rfl k) ?_
  refine Goes.by (T' := T62) (g' := (mkF m 10 #[.val (.ref a), .val (.ref r), .val (.int (0 : Int32))] [(.int (0 : Int32))])) (fun _ k => XS.iloadN X62.here hx rfl (hb hby d5_9) rfl k) ?_
  refine Goes.by (T' := T62) (g' := (mkF m 11 #[.val (.ref a), .val (.ref r), .val (.int (0 : Int32))] [(.ref a), (.int (0 : Int32))])) (fun _ k => XS.aloadN X62.here hx rfl (hb hby d5_10) rfl rfl k) ?_
  obtain ⟨T63, X63, e63, st63⟩ := getF X62 hx hZ hown (host := "") (Or.inl (hw _ (List.mem_of_getElem? (i := 20) rfl))) Via.refl e62 FN (g := (mkF m 11 #[.val (.ref a), .val (.ref r), .val (.int (0 : Int32))] [(.ref a), (.int (0 : Int32))])) rfl rfl (hb hby d5_11)
  refine Goes.by (T' := T63) (g' := (mkF m 14 #[.val (.ref a), .val (.ref r), .val (.int (0 : Int32))] [(.int (2 : Int32)), (.int (0 : Int32))])) st63 ?_
  refine Goes.by (T' := T63) (g' := (mkF m 17 #[.val (.ref a), .val (.ref r), .val (.int (0 : Int32))] [])) (fun _ k => XS.icmpNo X63.here hx rfl (hb hby d5_14) rfl (by decide) k) ?_
  refine Goes.by (T' := T63) (g' := (mkF m 18 #[.val (.ref a), .val (.ref r), .val (.int (0 : Int32))] [(.ref r)])) (fun _ k => XS.aloadN X63.here hx rfl (hb hby d5_17) rfl rfl k) ?_
  refine Goes.by (T' := T63) (g' := (mkF m 19 #[.val (.ref a), .val (.ref r), .val (.int (0 : Int32))] [(.int (0 : Int32)), (.ref r)])) (fun _ k => XS.iloadN X63.here hx rfl (hb hby d5_18) rfl k) ?_
  refine Goes.by (T' := T63) (g' := (mkF m 20 #[.val (.ref a), .val (.ref r), .val (.int (0 : Int32))] [(.ref a), (.int (0 : Int32)), (.ref r)])) (fun _ k => XS.aloadN X63.here hx rfl (hb hby d5_19) rfl rfl k) ?_
  obtain ⟨T64, X64, e64, st64⟩ := getF X63 hx hZ hown (host := "") (Or.inl (hw _ (List.mem_of_getElem? (i := 10) rfl))) Via.refl e63 FS (g := (mkF m 20 #[.val (.ref a), .val (.ref r), .val (.int (0 : Int32))] [(.ref a), (.int (0 : Int32)), (.ref r)])) rfl rfl (hb hby d5_20)
  refine Goes.by (T' := T64) (g' := (mkF m 23 #[.val (.ref a), .val (.ref r), .val (.int (0 : Int32))] [(.ref bs), (.int (0 : Int32)), (.ref r)])) st64 ?_
  refine Goes.by (T' := T64) (g' := (mkF m 24 #[.val (.ref a), .val (.ref r), .val (.int (0 : Int32))] [(.ref a), (.ref bs), (.int (0 : Int32)), (.ref r)])) (fun _ k => XS.aloadN X64.here hx rfl (hb hby d5_23) rfl rfl k) ?_
  obtain ⟨T65, X65, e65, st65⟩ := getF X64 hx hZ hown (host := "") (Or.inl (hw _ (List.mem_of_getElem? (i := 13) rfl))) Via.refl e64 FI (g := (mkF m 24 #[.val (.ref a), .val (.ref r), .val (.int (0 : Int32))] [(.ref a), (.ref bs), (.int (0 : Int32)), (.ref r)])) rfl rfl (hb hby d5_24)
  refine Goes.by (T' := T65) (g' := (mkF m 27 #[.val (.ref a), .val (.ref r), .val (.int (0 : Int32))] [(.ref bi), (.ref bs), (.int (0 : Int32)), (.ref r)])) st65 ?_
  refine Goes.by (T' := T65) (g' := (mkF m 28 #[.val (.ref a), .val (.ref r), .val (.int (0 : Int32))] [(.int (0 : Int32)), (.ref bi), (.ref bs), (.int (0 : Int32)), (.ref r)])) (fun _ k => XS.iloadN X65.here hx rfl (hb hby d5_27) rfl k) ?_
  refine Goes.by (T' := T65) (g' := (mkF m 29 #[.val (.ref a), .val (.ref r), .val (.int (0 : Int32))] [(.int w0), (.ref bs), (.int (0 : Int32)), (.ref r)])) (ldIS X65 hx hZ e65 VI (v := (.int w0)) (j := (0 : Int32)) 0 (by decide) hy0 (g := (mkF m 28 #[.val (.ref a), .val (.ref r), .val (.int (0 : Int32))] [(.int (0 : Int32)), (.ref bi), (.ref bs), (.int (0 : Int32)), (.ref r)])) rfl rfl (hb hby d5_28)) ?_
  refine Goes.by (T' := T65) (g' := (mkF m 30 #[.val (.ref a), .val (.ref r), .val (.int (0 : Int32))] [(.double d0), (.int (0 : Int32)), (.ref r)])) (ldDS X65 hx hZ e65 VS (v := (.double d0)) (j := w0) k0 hw0 hx0 (g := (mkF m 29 #[.val (.ref a), .val (.ref r), .val (.int (0 : Int32))] [(.int w0), (.ref bs), (.int (0 : Int32)), (.ref r)])) rfl rfl (hb hby d5_29)) ?_
  obtain ⟨T66, h66, X66, e66, W66, V66, st66⟩ := stDS X65 hx hZ e65 V_r (j := (0 : Int32)) 0 (by decide) (by show 0 < 2; decide) (g := (mkF m 30 #[.val (.ref a), .val (.ref r), .val (.int (0 : Int32))] [(.double d0), (.int (0 : Int32)), (.ref r)])) rfl rfl (hb hby d5_30)
  have N0 := Fr.snoc X66 N0 ge_r
  have EA := EA.wr W66
  have FS := FS.other W66 (Or.inl ne_a_r)
  have FI := FI.other W66 (Or.inl ne_a_r)
  have FN := FN.other W66 (Or.inl ne_a_r)
  have VS := VS.other W66 ne_bs_r
  have VI := VI.other W66 ne_bi_r
  have Z0 := Nat.le_trans Z0 (Nat.le_of_eq W66.size.symm)
  have K0 := K0.wr W66 (Or.inr sz_r)
  have V_r : Sar Z h66 r .double [(.double d0), (.double (0 : UInt64))] := V66
  refine Goes.by (T' := T66) (g' := (mkF m 31 #[.val (.ref a), .val (.ref r), .val (.int (0 : Int32))] [])) st66 ?_
  refine Goes.by (T' := T66) (g' := (mkF m 34 #[.val (.ref a), .val (.ref r), .val (.int (1 : Int32))] [])) (fun _ k => XS.iinc X66.here hx rfl (hb hby d5_31) rfl (l' := #[.val (.ref a), .val (.ref r), .val (.int (1 : Int32))]) rfl k) ?_
  refine Goes.by (T' := T66) (g' := (mkF m 9 #[.val (.ref a), .val (.ref r), .val (.int (1 : Int32))] [])) (fun _ k => XS.goto X66.here hx rfl (pc0 := 34) (pc' := 9) rfl (hb hby d5_34) (by decide) (by decide) k) ?_
  refine Goes.by (T' := T66) (g' := (mkF m 10 #[.val (.ref a), .val (.ref r), .val (.int (1 : Int32))] [(.int (1 : Int32))])) (fun _ k => XS.iloadN X66.here hx rfl (hb hby d5_9) rfl k) ?_
  refine Goes.by (T' := T66) (g' := (mkF m 11 #[.val (.ref a), .val (.ref r), .val (.int (1 : Int32))] [(.ref a), (.int (1 : Int32))])) (fun _ k => XS.aloadN X66.here hx rfl (hb hby d5_10) rfl rfl k) ?_
  obtain ⟨T67, X67, e67, st67⟩ := getF X66 hx hZ hown (host := "") (Or.inl (hw _ (List.mem_of_getElem? (i := 20) rfl))) Via.refl e66 FN (g := (mkF m 11 #[.val (.ref a), .val (.ref r), .val (.int (1 : Int32))] [(.ref a), (.int (1 : Int32))])) rfl rfl (hb hby d5_11)
  refine Goes.by (T' := T67) (g' := (mkF m 14 #[.val (.ref a), .val (.ref r), .val (.int (1 : Int32))] [(.int (2 : Int32)), (.int (1 : Int32))])) st67 ?_
  refine Goes.by (T' := T67) (g' := (mkF m 17 #[.val (.ref a), .val (.ref r), .val (.int (1 : Int32))] [])) (fun _ k => XS.icmpNo X67.here hx rfl (hb hby d5_14) rfl (by decide) k) ?_
  refine Goes.by (T' := T67) (g' := (mkF m 18 #[.val (.ref a), .val (.ref r), .val (.int (1 : Int32))] [(.ref r)])) (fun _ k => XS.aloadN X67.here hx rfl (hb hby d5_17) rfl rfl k) ?_
  refine Goes.by (T' := T67) (g' := (mkF m 19 #[.val (.ref a), .val (.ref r), .val (.int (1 : Int32))] [(.int (1 : Int32)), (.ref r)])) (fun _ k => XS.iloadN X67.here hx rfl (hb hby d5_18) rfl k) ?_
  refine Goes.by (T' := T67) (g' := (mkF m 20 #[.val (.ref a), .val (.ref r), .val (.int (1 : Int32))] [(.ref a), (.int (1 : Int32)), (.ref r)])) (fun _ k => XS.aloadN X67.here hx rfl (hb hby d5_19) rfl rfl k) ?_
  obtain ⟨T68, X68, e68, st68⟩ := getF X67 hx hZ hown (host := "") (Or.inl (hw _ (List.mem_of_getElem? (i := 10) rfl))) Via.refl e67 FS (g := (mkF m 20 #[.val (.ref a), .val (.ref r), .val (.int (1 : Int32))] [(.ref a), (.int (1 : Int32)), (.ref r)])) rfl rfl (hb hby d5_20)
  refine Goes.by (T' := T68) (g' := (mkF m 23 #[.val (.ref a), .val (.ref r), .val (.int (1 : Int32))] [(.ref bs), (.int (1 : Int32)), (.ref r)])) st68 ?_
  refine Goes.by (T' := T68) (g' := (mkF m 24 #[.val (.ref a), .val (.ref r), .val (.int (1 : Int32))] [(.ref a), (.ref bs), (.int (1 : Int32)), (.ref r)])) (fun _ k => XS.aloadN X68.here hx rfl (hb hby d5_23) rfl rfl k) ?_
  obtain ⟨T69, X69, e69, st69⟩ := getF X68 hx hZ hown (host := "") (Or.inl (hw _ (List.mem_of_getElem? (i := 13) rfl))) Via.refl e68 FI (g := (mkF m 24 #[.val (.ref a), .val (.ref r), .val (.int (1 : Int32))] [(.ref a), (.ref bs), (.int (1 : Int32)), (.ref r)])) rfl rfl (hb hby d5_24)
  refine Goes.by (T' := T69) (g' := (mkF m 27 #[.val (.ref a), .val (.ref r), .val (.int (1 : Int32))] [(.ref bi), (.ref bs), (.int (1 : Int32)), (.ref r)])) st69 ?_
  refine Goes.by (T' := T69) (g' := (mkF m 28 #[.val (.ref a), .val (.ref r), .val (.int (1 : Int32))] [(.int (1 : Int32)), (.ref bi), (.ref bs), (.int (1 : Int32)), (.ref r)])) (fun _ k => XS.iloadN X69.here hx rfl (hb hby d5_27) rfl k) ?_
  refine Goes.by (T' := T69) (g' := (mkF m 29 #[.val (.ref a), .val (.ref r), .val (.int (1 : Int32))] [(.int w1), (.ref bs), (.int (1 : Int32)), (.ref r)])) (ldIS X69 hx hZ e69 VI (v := (.int w1)) (j := (1 : Int32)) 1 (by decide) hy1 (g := (mkF m 28 #[.val (.ref a), .val (.ref r), .val (.int (1 : Int32))] [(.int (1 : Int32)), (.ref bi), (.ref bs), (.int (1 : Int32)), (.ref r)])) rfl rfl (hb hby d5_28)) ?_
  refine Goes.by (T' := T69) (g' := (mkF m 30 #[.val (.ref a), .val (.ref r), .val (.int (1 : Int32))] [(.double d1), (.int (1 : Int32)), (.ref r)])) (ldDS X69 hx hZ e69 VS (v := (.double d1)) (j := w1) k1 hw1 hx1 (g := (mkF m 29 #[.val (.ref a), .val (.ref r), .val (.int (1 : Int32))] [(.int w1), (.ref bs), (.int (1 : Int32)), (.ref r)])) rfl rfl (hb hby d5_29)) ?_
  obtain ⟨T70, h70, X70, e70, W70, V70, st70⟩ := stDS X69 hx hZ e69 V_r (j := (1 : Int32)) 1 (by decide) (by show 1 < 2; decide) (g := (mkF m 30 #[.val (.ref a), .val (.ref r), .val (.int (1 : Int32))] [(.double d1), (.int (1 : Int32)), (.ref r)])) rfl rfl (hb hby d5_30)
  have N0 := Fr.snoc X70 N0 ge_r
  have EA := EA.wr W70
  have FS := FS.other W70 (Or.inl ne_a_r)
  have FI := FI.other W70 (Or.inl ne_a_r)
  have FN := FN.other W70 (Or.inl ne_a_r)
  have VS := VS.other W70 ne_bs_r
  have VI := VI.other W70 ne_bi_r
  have Z0 := Nat.le_trans Z0 (Nat.le_of_eq W70.size.symm)
  have K0 := K0.wr W70 (Or.inr sz_r)
  have V_r : Sar Z h70 r .double [(.double d0), (.double d1)] := V70
  refine Goes.by (T' := T70) (g' := (mkF m 31 #[.val (.ref a), .val (.ref r), .val (.int (1 : Int32))] [])) st70 ?_
  refine Goes.by (T' := T70) (g' := (mkF m 34 #[.val (.ref a), .val (.ref r), .val (.int (2 : Int32))] [])) (fun _ k => XS.iinc X70.here hx rfl (hb hby d5_31) rfl (l' := #[.val (.ref a), .val (.ref r), .val (.int (2 : Int32))]) rfl k) ?_
  refine Goes.by (T' := T70) (g' := (mkF m 9 #[.val (.ref a), .val (.ref r), .val (.int (2 : Int32))] [])) (fun _ k => XS.goto X70.here hx rfl (pc0 := 34) (pc' := 9) rfl (hb hby d5_34) (by decide) (by decide) k) ?_
  refine Goes.by (T' := T70) (g' := (mkF m 10 #[.val (.ref a), .val (.ref r), .val (.int (2 : Int32))] [(.int (2 : Int32))])) (fun _ k => XS.iloadN X70.here hx rfl (hb hby d5_9) rfl k) ?_
  refine Goes.by (T' := T70) (g' := (mkF m 11 #[.val (.ref a), .val (.ref r), .val (.int (2 : Int32))] [(.ref a), (.int (2 : Int32))])) (fun _ k => XS.aloadN X70.here hx rfl (hb hby d5_10) rfl rfl k) ?_
  obtain ⟨T71, X71, e71, st71⟩ := getF X70 hx hZ hown (host := "") (Or.inl (hw _ (List.mem_of_getElem? (i := 20) rfl))) Via.refl e70 FN (g := (mkF m 11 #[.val (.ref a), .val (.ref r), .val (.int (2 : Int32))] [(.ref a), (.int (2 : Int32))])) rfl rfl (hb hby d5_11)
  refine Goes.by (T' := T71) (g' := (mkF m 14 #[.val (.ref a), .val (.ref r), .val (.int (2 : Int32))] [(.int (2 : Int32)), (.int (2 : Int32))])) st71 ?_
  refine Goes.by (T' := T71) (g' := (mkF m 37 #[.val (.ref a), .val (.ref r), .val (.int (2 : Int32))] [])) (fun _ k => XS.icmpYes X71.here hx rfl (pc0 := 14) (pc' := 37) rfl (hb hby d5_14) rfl (by decide) (by decide) (by decide) k) ?_
  refine Goes.by (T' := T71) (g' := (mkF m 38 #[.val (.ref a), .val (.ref r), .val (.int (2 : Int32))] [(.ref r)])) (fun _ k => XS.aloadN X71.here hx rfl (hb hby d5_37) rfl rfl k) ?_
  exact outA X71 hx hlk hret rfl rfl rfl (hb hby d5_38) (by rw [e71]; exact ⟨r, rfl, V_r, sz_r, K0, N0⟩) (by decide) (by decide)
theorem ef_rm_sums3 (m : MethodId) (x0 : Addr) : entryFrame m #[(.ref x0)] 3 = mkF m 0 #[.val (.ref x0), .unset, .unset] [] := by first | (simp [entryFrame, mkF, argsToLocals, Value.category, maxLocals]; done) | rfl
set_option maxRecDepth 65536 in
set_option maxHeartbeats 40000000 in
theorem rm_sums3 (l : Launch) (Z : State) (a0 : Array Value) (hw : ∀ d ∈ tables_1, d.before a0 Z = true) (a bs bi : Addr) (xs ys : List Value) (w0 : Int32) (k0 : Nat) (d0 : UInt64) (w1 : Int32) (k1 : Nat) (d1 : UInt64) (w2 : Int32) (k2 : Nat) (d2 : UInt64) (h0 : Heap) (n0 : Nat) (Z0 : n0 ≤ h0.size) (EA : Exa Z h0 a "com/example/gibbon/gibbon/analysis/SparseSum") (FS : Fld Z h0 a "com/example/gibbon/gibbon/analysis/SparseSum" "sums" "[D" (.ref bs)) (FI : Fld Z h0 a "com/example/gibbon/gibbon/analysis/SparseSum" "indices" "[I" (.ref bi)) (FN : Fld Z h0 a "com/example/gibbon/gibbon/analysis/SparseSum" "size" "I" (.int (3 : Int32))) (VS : Sar Z h0 bs .double xs) (VI : Sar Z h0 bi .int ys) (ga : n0 ≤ a) (gs : n0 ≤ bs) (gi : n0 ≤ bi) (n1 : a ≠ bs) (n2 : a ≠ bi) (n3 : bs ≠ bi) (hy0 : ys[0]? = some (.int w0)) (hw0 : w0.toInt = k0) (hx0 : xs[k0]? = some (.double d0)) (hy1 : ys[1]? = some (.int w1)) (hw1 : w1.toInt = k1) (hx1 : xs[k1]? = some (.double d1)) (hy2 : ys[2]? = some (.int w2)) (hw2 : w2.toInt = k2) (hx2 : xs[k2]? = some (.double d2)) :
    Does l (⟨"com/example/gibbon/gibbon/analysis/SparseSum", "sums", "()[D"⟩ : MethodName) prog_36_method_7_code 3 (some (.array .double)) [] ({ frames := 0, cells := 1, slots := 3, locals := 0 } : Room) Z #[(.ref a)] h0 (fun v h L => ∃ r, v = some (.ref r) ∧ Sar Z h r .double [(.double d0), (.double d1), (.double d2)] ∧ h0.size ≤ r ∧ Keep h0 h [] ∧ Fr n0 L) := by
  refine Does.of (plainFor_of_name pn1) ?_
  intro p e s m below meth c s₁ hx hby hml hret hlk hZ hown hnm X0 e0
  have N0 := Fr.nil n0
  refine Goes.cast (g' := mkF m 0 #[.val (.ref a), .unset, .unset] []) (ef_rm_sums3 m a) ?_
  have K0 := Keep.refl h0 []
  refine Goes.by (T' := s₁) (g' := (mkF m 1 #[.val (.ref a), .unset, .unset] [(.ref a)])) (fun _ k => XS.aloadN X0.here hx rfl (hb hby d5_0) rfl rfl k) ?_
  obtain ⟨T72, X72, e72, st72⟩ := getF X0 hx hZ hown (host := "") (Or.inl (hw _ (List.mem_of_getElem? (i := 20) rfl))) Via.refl e0 FN (g := (mkF m 1 #[.val (.ref a), .unset, .unset] [(.ref a)])) rfl rfl (hb hby d5_1)
  refine Goes.by (T' := T72) (g' := (mkF m 4 #[.val (.ref a), .unset, .unset] [(.int (3 : Int32))])) st72 ?_
  obtain ⟨T73, h73, k73, X73, e73, E73, A73, st73⟩ := newP X72 hx hZ (hw _ (List.mem_of_getElem? (i := 9) rfl)) e72 (g := (mkF m 4 #[.val (.ref a), .unset, .unset] [(.int (3 : Int32))])) rfl (hb hby d5_4) rfl (by decide) (cap := 3) (by decide) (by decide) (by decide) (by decide)
  obtain ⟨r, g73⟩ : ∃ z, z = h0.size := ⟨_, rfl⟩
  rw [← g73] at A73 st73
  have ne_a_r : a ≠ r := fun q => Nat.lt_irrefl _ (Nat.lt_of_lt_of_eq EA.lt (g73.symm.trans q.symm))
  have ne_bs_r : bs ≠ r := fun q => Nat.lt_irrefl _ (Nat.lt_of_lt_of_eq VS.lt (g73.symm.trans q.symm))
  have ne_bi_r : bi ≠ r := fun q => Nat.lt_irrefl _ (Nat.lt_of_lt_of_eq VI.lt (g73.symm.trans q.symm))
  have ge_r : n0 ≤ r := Nat.le_trans Z0 (Nat.le_of_eq g73.symm)
  have sz_r : h0.size ≤ r := Nat.le_trans K0.1 (Nat.le_of_eq g73.symm)
  have EA := EA.ext E73
  have FS := FS.ext E73
  have FI := FI.ext E73
  have FN := FN.ext E73
  have VS := VS.ext E73
  have VI := VI.ext E73
  have Z0 := Nat.le_trans Z0 E73.1
  have K0 := K0.ext E73
  have V_r : Sar Z h73 r .double [(.double (0 : UInt64)), (.double (0 : UInt64)), (.double (0 : UInt64))] := Sar.new (n := 3) A73 (by decide)
  refine Goes.by (T' := T73) (g' := (mkF m 6 #[.val (.ref a), .unset, .unset] [(.ref r)])) st73 ?_
  refine Goes.by (T' := T73) (g' := (mkF m 7 #[.val (.ref a), .val (.ref r), .unset] [])) (fun _ k => XS.astoreN X73.here hx rfl (hb hby d5_6) rfl rfl (l' := #[.val (.ref a), .val (.ref r), .unset]) rfl k) ?_
  refine Goes.by (T' := T73) (g' := (mkF m 8 #[.val (.ref a), .val (.ref r), .unset] [(.int (0 : Int32))])) (fun _ k => XS.iconst X73.here hx rfl (hb hby d5_7)  k) ?_
  refine Goes.by (T' := T73) (g' := (mkF m 9 #[.val (.ref a), .val (.ref r), .val (.int (0 : Int32))] [])) (fun _ k => XS.istoreN X73.here hx rfl (hb hby d5_8) rfl (l' := #[.val (.ref a), .val (.ref r), .val (.int (0 : Int32))]) rfl k) ?_
  refine Goes.by (T' := T73) (g' := (mkF m 10 #[.val (.ref a), .val (.ref r), .val (.int (0 : Int32))] [(.int (0 : Int32))])) (fun _ k => XS.iloadN X73.here hx rfl (hb hby d5_9) rfl k) ?_
  refine Goes.by (T' := T73) (g' := (mkF m 11 #[.val (.ref a), .val (.ref r), .val (.int (0 : Int32))] [(.ref a), (.int (0 : Int32))])) (fun _ k => XS.aloadN X73.here hx rfl (hb hby d5_10) rfl rfl k) ?_
  obtain ⟨T74, X74, e74, st74⟩ := getF X73 hx hZ hown (host := "") (Or.inl (hw _ (List.mem_of_getElem? (i := 20) rfl))) Via.refl e73 FN (g := (mkF m 11 #[.val (.ref a), .val (.ref r), .val (.int (0 : Int32))] [(.ref a), (.int (0 : Int32))])) rfl rfl (hb hby d5_11)
  refine Goes.by (T' := T74) (g' := (mkF m 14 #[.val (.ref a), .val (.ref r), .val (.int (0 : Int32))] [(.int (3 : Int32)), (.int (0 : Int32))])) st74 ?_
  refine Goes.by (T' := T74) (g' := (mkF m 17 #[.val (.ref a), .val (.ref r), .val (.int (0 : Int32))] [])) (fun _ k => XS.icmpNo X74.here hx rfl (hb hby d5_14) rfl (by decide) k) ?_
  refine Goes.by (T' := T74) (g' := (mkF m 18 #[.val (.ref a), .val (.ref r), .val (.int (0 : Int32))] [(.ref r)])) (fun _ k => XS.aloadN X74.here hx rfl (hb hby d5_17) rfl rfl k) ?_
  refine Goes.by (T' := T74) (g' := (mkF m 19 #[.val (.ref a), .val (.ref r), .val (.int (0 : Int32))] [(.int (0 : Int32)), (.ref r)])) (fun _ k => XS.iloadN X74.here hx rfl (hb hby d5_18) rfl k) ?_
  refine Goes.by (T' := T74) (g' := (mkF m 20 #[.val (.ref a), .val (.ref r), .val (.int (0 : Int32))] [(.ref a), (.int (0 : Int32)), (.ref r)])) (fun _ k => XS.aloadN X74.here hx rfl (hb hby d5_19) rfl rfl k) ?_
  obtain ⟨T75, X75, e75, st75⟩ := getF X74 hx hZ hown (host := "") (Or.inl (hw _ (List.mem_of_getElem? (i := 10) rfl))) Via.refl e74 FS (g := (mkF m 20 #[.val (.ref a), .val (.ref r), .val (.int (0 : Int32))] [(.ref a), (.int (0 : Int32)), (.ref r)])) rfl rfl (hb hby d5_20)
  refine Goes.by (T' := T75) (g' := (mkF m 23 #[.val (.ref a), .val (.ref r), .val (.int (0 : Int32))] [(.ref bs), (.int (0 : Int32)), (.ref r)])) st75 ?_
  refine Goes.by (T' := T75) (g' := (mkF m 24 #[.val (.ref a), .val (.ref r), .val (.int (0 : Int32))] [(.ref a), (.ref bs), (.int (0 : Int32)), (.ref r)])) (fun _ k => XS.aloadN X75.here hx rfl (hb hby d5_23) rfl rfl k) ?_
  obtain ⟨T76, X76, e76, st76⟩ := getF X75 hx hZ hown (host := "") (Or.inl (hw _ (List.mem_of_getElem? (i := 13) rfl))) Via.refl e75 FI (g := (mkF m 24 #[.val (.ref a), .val (.ref r), .val (.int (0 : Int32))] [(.ref a), (.ref bs), (.int (0 : Int32)), (.ref r)])) rfl rfl (hb hby d5_24)
  refine Goes.by (T' := T76) (g' := (mkF m 27 #[.val (.ref a), .val (.ref r), .val (.int (0 : Int32))] [(.ref bi), (.ref bs), (.int (0 : Int32)), (.ref r)])) st76 ?_
  refine Goes.by (T' := T76) (g' := (mkF m 28 #[.val (.ref a), .val (.ref r), .val (.int (0 : Int32))] [(.int (0 : Int32)), (.ref bi), (.ref bs), (.int (0 : Int32)), (.ref r)])) (fun _ k => XS.iloadN X76.here hx rfl (hb hby d5_27) rfl k) ?_
  refine Goes.by (T' := T76) (g' := (mkF m 29 #[.val (.ref a), .val (.ref r), .val (.int (0 : Int32))] [(.int w0), (.ref bs), (.int (0 : Int32)), (.ref r)])) (ldIS X76 hx hZ e76 VI (v := (.int w0)) (j := (0 : Int32)) 0 (by decide) hy0 (g := (mkF m 28 #[.val (.ref a), .val (.ref r), .val (.int (0 : Int32))] [(.int (0 : Int32)), (.ref bi), (.ref bs), (.int (0 : Int32)), (.ref r)])) rfl rfl (hb hby d5_28)) ?_
  refine Goes.by (T' := T76) (g' := (mkF m 30 #[.val (.ref a), .val (.ref r), .val (.int (0 : Int32))] [(.double d0), (.int (0 : Int32)), (.ref r)])) (ldDS X76 hx hZ e76 VS (v := (.double d0)) (j := w0) k0 hw0 hx0 (g := (mkF m 29 #[.val (.ref a), .val (.ref r), .val (.int (0 : Int32))] [(.int w0), (.ref bs), (.int (0 : Int32)), (.ref r)])) rfl rfl (hb hby d5_29)) ?_
  obtain ⟨T77, h77, X77, e77, W77, V77, st77⟩ := stDS X76 hx hZ e76 V_r (j := (0 : Int32)) 0 (by decide) (by show 0 < 3; decide) (g := (mkF m 30 #[.val (.ref a), .val (.ref r), .val (.int (0 : Int32))] [(.double d0), (.int (0 : Int32)), (.ref r)])) rfl rfl (hb hby d5_30)
  have N0 := Fr.snoc X77 N0 ge_r
  have EA := EA.wr W77
  have FS := FS.other W77 (Or.inl ne_a_r)
  have FI := FI.other W77 (Or.inl ne_a_r)
  have FN := FN.other W77 (Or.inl ne_a_r)
  have VS := VS.other W77 ne_bs_r
  have VI := VI.other W77 ne_bi_r
  have Z0 := Nat.le_trans Z0 (Nat.le_of_eq W77.size.symm)
  have K0 := K0.wr W77 (Or.inr sz_r)
  have V_r : Sar Z h77 r .double [(.double d0), (.double (0 : UInt64)), (.double (0 : UInt64))] := V77
  refine Goes.by (T' := T77) (g' := (mkF m 31 #[.val (.ref a), .val (.ref r), .val (.int (0 : Int32))] [])) st77 ?_
  refine Goes.by (T' := T77) (g' := (mkF m 34 #[.val (.ref a), .val (.ref r), .val (.int (1 : Int32))] [])) (fun _ k => XS.iinc X77.here hx rfl (hb hby d5_31) rfl (l' := #[.val (.ref a), .val (.ref r), .val (.int (1 : Int32))]) rfl k) ?_
  refine Goes.by (T' := T77) (g' := (mkF m 9 #[.val (.ref a), .val (.ref r), .val (.int (1 : Int32))] [])) (fun _ k => XS.goto X77.here hx rfl (pc0 := 34) (pc' := 9) rfl (hb hby d5_34) (by decide) (by decide) k) ?_
  refine Goes.by (T' := T77) (g' := (mkF m 10 #[.val (.ref a), .val (.ref r), .val (.int (1 : Int32))] [(.int (1 : Int32))])) (fun _ k => XS.iloadN X77.here hx rfl (hb hby d5_9) rfl k) ?_
  refine Goes.by (T' := T77) (g' := (mkF m 11 #[.val (.ref a), .val (.ref r), .val (.int (1 : Int32))] [(.ref a), (.int (1 : Int32))])) (fun _ k => XS.aloadN X77.here hx rfl (hb hby d5_10) rfl rfl k) ?_
  obtain ⟨T78, X78, e78, st78⟩ := getF X77 hx hZ hown (host := "") (Or.inl (hw _ (List.mem_of_getElem? (i := 20) rfl))) Via.refl e77 FN (g := (mkF m 11 #[.val (.ref a), .val (.ref r), .val (.int (1 : Int32))] [(.ref a), (.int (1 : Int32))])) rfl rfl (hb hby d5_11)
  refine Goes.by (T' := T78) (g' := (mkF m 14 #[.val (.ref a), .val (.ref r), .val (.int (1 : Int32))] [(.int (3 : Int32)), (.int (1 : Int32))])) st78 ?_
  refine Goes.by (T' := T78) (g' := (mkF m 17 #[.val (.ref a), .val (.ref r), .val (.int (1 : Int32))] [])) (fun _ k => XS.icmpNo X78.here hx rfl (hb hby d5_14) rfl (by decide) k) ?_
  refine Goes.by (T' := T78) (g' := (mkF m 18 #[.val (.ref a), .val (.ref r), .val (.int (1 : Int32))] [(.ref r)])) (fun _ k => XS.aloadN X78.here hx rfl (hb hby d5_17) rfl rfl k) ?_
  refine Goes.by (T' := T78) (g' := (mkF m 19 #[.val (.ref a), .val (.ref r), .val (.int (1 : Int32))] [(.int (1 : Int32)), (.ref r)])) (fun _ k => XS.iloadN X78.here hx rfl (hb hby d5_18) rfl k) ?_
  refine Goes.by (T' := T78) (g' := (mkF m 20 #[.val (.ref a), .val (.ref r), .val (.int (1 : Int32))] [(.ref a), (.int (1 : Int32)), (.ref r)])) (fun _ k => XS.aloadN X78.here hx rfl (hb hby d5_19) rfl rfl k) ?_
  obtain ⟨T79, X79, e79, st79⟩ := getF X78 hx hZ hown (host := "") (Or.inl (hw _ (List.mem_of_getElem? (i := 10) rfl))) Via.refl e78 FS (g := (mkF m 20 #[.val (.ref a), .val (.ref r), .val (.int (1 : Int32))] [(.ref a), (.int (1 : Int32)), (.ref r)])) rfl rfl (hb hby d5_20)
  refine Goes.by (T' := T79) (g' := (mkF m 23 #[.val (.ref a), .val (.ref r), .val (.int (1 : Int32))] [(.ref bs), (.int (1 : Int32)), (.ref r)])) st79 ?_
  refine Goes.by (T' := T79) (g' := (mkF m 24 #[.val (.ref a), .val (.ref r), .val (.int (1 : Int32))] [(.ref a), (.ref bs), (.int (1 : Int32)), (.ref r)])) (fun _ k => XS.aloadN X79.here hx rfl (hb hby d5_23) rfl rfl k) ?_
  obtain ⟨T80, X80, e80, st80⟩ := getF X79 hx hZ hown (host := "") (Or.inl (hw _ (List.mem_of_getElem? (i := 13) rfl))) Via.refl e79 FI (g := (mkF m 24 #[.val (.ref a), .val (.ref r), .val (.int (1 : Int32))] [(.ref a), (.ref bs), (.int (1 : Int32)), (.ref r)])) rfl rfl (hb hby d5_24)
  refine Goes.by (T' := T80) (g' := (mkF m 27 #[.val (.ref a), .val (.ref r), .val (.int (1 : Int32))] [(.ref bi), (.ref bs), (.int (1 : Int32)), (.ref r)])) st80 ?_
  refine Goes.by (T' := T80) (g' := (mkF m 28 #[.val (.ref a), .val (.ref r), .val (.int (1 : Int32))] [(.int (1 : Int32)), (.ref bi), (.ref bs), (.int (1 : Int32)), (.ref r)])) (fun _ k => XS.iloadN X80.here hx rfl (hb hby d5_27) rfl k) ?_
  refine Goes.by (T' := T80) (g' := (mkF m 29 #[.val (.ref a), .val (.ref r), .val (.int (1 : Int32))] [(.int w1), (.ref bs), (.int (1 : Int32)), (.ref r)])) (ldIS X80 hx hZ e80 VI (v := (.int w1)) (j := (1 : Int32)) 1 (by decide) hy1 (g := (mkF m 28 #[.val (.ref a), .val (.ref r), .val (.int (1 : Int32))] [(.int (1 : Int32)), (.ref bi), (.ref bs), (.int (1 : Int32)), (.ref r)])) rfl rfl (hb hby d5_28)) ?_
  refine Goes.by (T' := T80) (g' := (mkF m 30 #[.val (.ref a), .val (.ref r), .val (.int (1 : Int32))] [(.double d1), (.int (1 : Int32)), (.ref r)])) (ldDS X80 hx hZ e80 VS (v := (.double d1)) (j := w1) k1 hw1 hx1 (g := (mkF m 29 #[.val (.ref a), .val (.ref r), .val (.int (1 : Int32))] [(.int w1), (.ref bs), (.int (1 : Int32)), (.ref r)])) rfl rfl (hb hby d5_29)) ?_
  obtain ⟨T81, h81, X81, e81, W81, V81, st81⟩ := stDS X80 hx hZ e80 V_r (j := (1 : Int32)) 1 (by decide) (by show 1 < 3; decide) (g := (mkF m 30 #[.val (.ref a), .val (.ref r), .val (.int (1 : Int32))] [(.double d1), (.int (1 : Int32)), (.ref r)])) rfl rfl (hb hby d5_30)
  have N0 := Fr.snoc X81 N0 ge_r
  have EA := EA.wr W81
  have FS := FS.other W81 (Or.inl ne_a_r)
  have FI := FI.other W81 (Or.inl ne_a_r)
  have FN := FN.other W81 (Or.inl ne_a_r)
  have VS := VS.other W81 ne_bs_r
  have VI := VI.other W81 ne_bi_r
  have Z0 := Nat.le_trans Z0 (Nat.le_of_eq W81.size.symm)
  have K0 := K0.wr W81 (Or.inr sz_r)
  have V_r : Sar Z h81 r .double [(.double d0), (.double d1), (.double (0 : UInt64))] := V81
  refine Goes.by (T' := T81) (g' := (mkF m 31 #[.val (.ref a), .val (.ref r), .val (.int (1 : Int32))] [])) st81 ?_
  refine Goes.by (T' := T81) (g' := (mkF m 34 #[.val (.ref a), .val (.ref r), .val (.int (2 : Int32))] [])) (fun _ k => XS.iinc X81.here hx rfl (hb hby d5_31) rfl (l' := #[.val (.ref a), .val (.ref r), .val (.int (2 : Int32))]) rfl k) ?_
  refine Goes.by (T' := T81) (g' := (mkF m 9 #[.val (.ref a), .val (.ref r), .val (.int (2 : Int32))] [])) (fun _ k => XS.goto X81.here hx rfl (pc0 := 34) (pc' := 9) rfl (hb hby d5_34) (by decide) (by decide) k) ?_
  refine Goes.by (T' := T81) (g' := (mkF m 10 #[.val (.ref a), .val (.ref r), .val (.int (2 : Int32))] [(.int (2 : Int32))])) (fun _ k => XS.iloadN X81.here hx rfl (hb hby d5_9) rfl k) ?_
  refine Goes.by (T' := T81) (g' := (mkF m 11 #[.val (.ref a), .val (.ref r), .val (.int (2 : Int32))] [(.ref a), (.int (2 : Int32))])) (fun _ k => XS.aloadN X81.here hx rfl (hb hby d5_10) rfl rfl k) ?_
  obtain ⟨T82, X82, e82, st82⟩ := getF X81 hx hZ hown (host := "") (Or.inl (hw _ (List.mem_of_getElem? (i := 20) rfl))) Via.refl e81 FN (g := (mkF m 11 #[.val (.ref a), .val (.ref r), .val (.int (2 : Int32))] [(.ref a), (.int (2 : Int32))])) rfl rfl (hb hby d5_11)
  refine Goes.by (T' := T82) (g' := (mkF m 14 #[.val (.ref a), .val (.ref r), .val (.int (2 : Int32))] [(.int (3 : Int32)), (.int (2 : Int32))])) st82 ?_
  refine Goes.by (T' := T82) (g' := (mkF m 17 #[.val (.ref a), .val (.ref r), .val (.int (2 : Int32))] [])) (fun _ k => XS.icmpNo X82.here hx rfl (hb hby d5_14) rfl (by decide) k) ?_
  refine Goes.by (T' := T82) (g' := (mkF m 18 #[.val (.ref a), .val (.ref r), .val (.int (2 : Int32))] [(.ref r)])) (fun _ k => XS.aloadN X82.here hx rfl (hb hby d5_17) rfl rfl k) ?_
  refine Goes.by (T' := T82) (g' := (mkF m 19 #[.val (.ref a), .val (.ref r), .val (.int (2 : Int32))] [(.int (2 : Int32)), (.ref r)])) (fun _ k => XS.iloadN X82.here hx rfl (hb hby d5_18) rfl k) ?_
  refine Goes.by (T' := T82) (g' := (mkF m 20 #[.val (.ref a), .val (.ref r), .val (.int (2 : Int32))] [(.ref a), (.int (2 : Int32)), (.ref r)])) (fun _ k => XS.aloadN X82.here hx rfl (hb hby d5_19) rfl rfl k) ?_
  obtain ⟨T83, X83, e83, st83⟩ := getF X82 hx hZ hown (host := "") (Or.inl (hw _ (List.mem_of_getElem? (i := 10) rfl))) Via.refl e82 FS (g := (mkF m 20 #[.val (.ref a), .val (.ref r), .val (.int (2 : Int32))] [(.ref a), (.int (2 : Int32)), (.ref r)])) rfl rfl (hb hby d5_20)
  refine Goes.by (T' := T83) (g' := (mkF m 23 #[.val (.ref a), .val (.ref r), .val (.int (2 : Int32))] [(.ref bs), (.int (2 : Int32)), (.ref r)])) st83 ?_
  refine Goes.by (T' := T83) (g' := (mkF m 24 #[.val (.ref a), .val (.ref r), .val (.int (2 : Int32))] [(.ref a), (.ref bs), (.int (2 : Int32)), (.ref r)])) (fun _ k => XS.aloadN X83.here hx rfl (hb hby d5_23) rfl rfl k) ?_
  obtain ⟨T84, X84, e84, st84⟩ := getF X83 hx hZ hown (host := "") (Or.inl (hw _ (List.mem_of_getElem? (i := 13) rfl))) Via.refl e83 FI (g := (mkF m 24 #[.val (.ref a), .val (.ref r), .val (.int (2 : Int32))] [(.ref a), (.ref bs), (.int (2 : Int32)), (.ref r)])) rfl rfl (hb hby d5_24)
  refine Goes.by (T' := T84) (g' := (mkF m 27 #[.val (.ref a), .val (.ref r), .val (.int (2 : Int32))] [(.ref bi), (.ref bs), (.int (2 : Int32)), (.ref r)])) st84 ?_
  refine Goes.by (T' := T84) (g' := (mkF m 28 #[.val (.ref a), .val (.ref r), .val (.int (2 : Int32))] [(.int (2 : Int32)), (.ref bi), (.ref bs), (.int (2 : Int32)), (.ref r)])) (fun _ k => XS.iloadN X84.here hx rfl (hb hby d5_27) rfl k) ?_
  refine Goes.by (T' := T84) (g' := (mkF m 29 #[.val (.ref a), .val (.ref r), .val (.int (2 : Int32))] [(.int w2), (.ref bs), (.int (2 : Int32)), (.ref r)])) (ldIS X84 hx hZ e84 VI (v := (.int w2)) (j := (2 : Int32)) 2 (by decide) hy2 (g := (mkF m 28 #[.val (.ref a), .val (.ref r), .val (.int (2 : Int32))] [(.int (2 : Int32)), (.ref bi), (.ref bs), (.int (2 : Int32)), (.ref r)])) rfl rfl (hb hby d5_28)) ?_
  refine Goes.by (T' := T84) (g' := (mkF m 30 #[.val (.ref a), .val (.ref r), .val (.int (2 : Int32))] [(.double d2), (.int (2 : Int32)), (.ref r)])) (ldDS X84 hx hZ e84 VS (v := (.double d2)) (j := w2) k2 hw2 hx2 (g := (mkF m 29 #[.val (.ref a), .val (.ref r), .val (.int (2 : Int32))] [(.int w2), (.ref bs), (.int (2 : Int32)), (.ref r)])) rfl rfl (hb hby d5_29)) ?_
  obtain ⟨T85, h85, X85, e85, W85, V85, st85⟩ := stDS X84 hx hZ e84 V_r (j := (2 : Int32)) 2 (by decide) (by show 2 < 3; decide) (g := (mkF m 30 #[.val (.ref a), .val (.ref r), .val (.int (2 : Int32))] [(.double d2), (.int (2 : Int32)), (.ref r)])) rfl rfl (hb hby d5_30)
  have N0 := Fr.snoc X85 N0 ge_r
  have EA := EA.wr W85
  have FS := FS.other W85 (Or.inl ne_a_r)
  have FI := FI.other W85 (Or.inl ne_a_r)
  have FN := FN.other W85 (Or.inl ne_a_r)
  have VS := VS.other W85 ne_bs_r
  have VI := VI.other W85 ne_bi_r
  have Z0 := Nat.le_trans Z0 (Nat.le_of_eq W85.size.symm)
  have K0 := K0.wr W85 (Or.inr sz_r)
  have V_r : Sar Z h85 r .double [(.double d0), (.double d1), (.double d2)] := V85
  refine Goes.by (T' := T85) (g' := (mkF m 31 #[.val (.ref a), .val (.ref r), .val (.int (2 : Int32))] [])) st85 ?_
  refine Goes.by (T' := T85) (g' := (mkF m 34 #[.val (.ref a), .val (.ref r), .val (.int (3 : Int32))] [])) (fun _ k => XS.iinc X85.here hx rfl (hb hby d5_31) rfl (l' := #[.val (.ref a), .val (.ref r), .val (.int (3 : Int32))]) rfl k) ?_
  refine Goes.by (T' := T85) (g' := (mkF m 9 #[.val (.ref a), .val (.ref r), .val (.int (3 : Int32))] [])) (fun _ k => XS.goto X85.here hx rfl (pc0 := 34) (pc' := 9) rfl (hb hby d5_34) (by decide) (by decide) k) ?_
  refine Goes.by (T' := T85) (g' := (mkF m 10 #[.val (.ref a), .val (.ref r), .val (.int (3 : Int32))] [(.int (3 : Int32))])) (fun _ k => XS.iloadN X85.here hx rfl (hb hby d5_9) rfl k) ?_
  refine Goes.by (T' := T85) (g' := (mkF m 11 #[.val (.ref a), .val (.ref r), .val (.int (3 : Int32))] [(.ref a), (.int (3 : Int32))])) (fun _ k => XS.aloadN X85.here hx rfl (hb hby d5_10) rfl rfl k) ?_
  obtain ⟨T86, X86, e86, st86⟩ := getF X85 hx hZ hown (host := "") (Or.inl (hw _ (List.mem_of_getElem? (i := 20) rfl))) Via.refl e85 FN (g := (mkF m 11 #[.val (.ref a), .val (.ref r), .val (.int (3 : Int32))] [(.ref a), (.int (3 : Int32))])) rfl rfl (hb hby d5_11)
  refine Goes.by (T' := T86) (g' := (mkF m 14 #[.val (.ref a), .val (.ref r), .val (.int (3 : Int32))] [(.int (3 : Int32)), (.int (3 : Int32))])) st86 ?_
  refine Goes.by (T' := T86) (g' := (mkF m 37 #[.val (.ref a), .val (.ref r), .val (.int (3 : Int32))] [])) (fun _ k => XS.icmpYes X86.here hx rfl (pc0 := 14) (pc' := 37) rfl (hb hby d5_14) rfl (by decide) (by decide) (by decide) k) ?_
  refine Goes.by (T' := T86) (g' := (mkF m 38 #[.val (.ref a), .val (.ref r), .val (.int (3 : Int32))] [(.ref r)])) (fun _ k => XS.aloadN X86.here hx rfl (hb hby d5_37) rfl rfl k) ?_
  exact outA X86 hx hlk hret rfl rfl rfl (hb hby d5_38) (by rw [e86]; exact ⟨r, rfl, V_r, sz_r, K0, N0⟩) (by decide) (by decide)
theorem pn2 : plainName "com/example/gibbon/gibbon/analysis/SparseSumSumsPinLaw" = true := by first | (simp [plainName, overriddenIn]; done) | decide +kernel
theorem ef_rm_law (m : MethodId) (x0 : Int32) (x1 : Int32) (x2 : Int32) (x3 : Int32) (x4 : Int32) (x5 : Int32) : entryFrame m #[(.int x0), (.int x1), (.int x2), (.int x3), (.int x4), (.int x5)] maxLocals = mkF m 0 #[SI x0, SI x1, SI x2, SI x3, SI x4, SI x5, SU, SU, SU, SU, SU, SU, SU, SU, SU, SU, SU, SU, SU, SU, SU, SU, SU, SU, SU, SU, SU, SU] [] := by first | (simp [entryFrame, mkF, argsToLocals, Value.category, maxLocals]; done) | rfl
set_option maxRecDepth 65536 in
set_option maxHeartbeats 40000000 in
theorem rm_law (l : Launch) (Z : State) (a0 : Array Value) (hw : ∀ d ∈ tables_1, d.before a0 Z = true) (y0 y1 y2 y3 y4 y5 : Int32) (h0 : Heap) (n0 : Nat) (Z0 : n0 ≤ h0.size)  :
    Does l x code maxLocals ret tables_1 room_1 Z #[(.int y0), (.int y1), (.int y2), (.int y3), (.int y4), (.int y5)] h0 (fun v h L => v = some (.int 1) ∧ Fr n0 L) := by
  refine Does.of (plainFor_of_name pn2) ?_
  intro p e s m below meth c s₁ hx hby hml hret hlk hZ hown hnm X0 e0
  have N0 := Fr.nil n0
  refine Goes.cast (g' := mkF m 0 #[SI y0, SI y1, SI y2, SI y3, SI y4, SI y5, SU, SU, SU, SU, SU, SU, SU, SU, SU, SU, SU, SU, SU, SU, SU, SU, SU, SU, SU, SU, SU, SU] []) (ef_rm_law m y0 y1 y2 y3 y4 y5) ?_
  have cmp0 : ∀ (a bq bi ea : Addr) (xq yq : List Value) (ev0 ev1 ev2 : UInt64) (l0 l1 l2 l3 l4 l5 l6 l7 l8 l9 l10 l11 l12 l13 l14 l15 l16 l17 l18 l19 l20 l21 l22 : Slot)  (Tj87 : State) (hj87 : Heap) (Lj87 : List Loc), Stand p l e room_1 s m #[(.int y0), (.int y1), (.int y2), (.int y3), (.int y4), (.int y5)] below meth c Tj87 Lj87 8 518 → Tj87.heap = hj87 → Fr n0 Lj87 → n0 ≤ hj87.size → Exa Z hj87 a "com/example/gibbon/gibbon/analysis/SparseSum" → Fld Z hj87 a "com/example/gibbon/gibbon/analysis/SparseSum" "sums" "[D" (.ref bq) → Fld Z hj87 a "com/example/gibbon/gibbon/analysis/SparseSum" "indices" "[I" (.ref bi) → Fld Z hj87 a "com/example/gibbon/gibbon/analysis/SparseSum" "size" "I" (.int (0 : Int32)) → Sar Z hj87 bq .double xq → Sar Z hj87 bi .int yq → Sar Z hj87 ea .double [(.double ev0), (.double ev1), (.double ev2)] → n0 ≤ a → n0 ≤ bq → n0 ≤ bi → n0 ≤ ea → a ≠ bq → bq ≠ bi → a ≠ bi → a ≠ ea → bq ≠ ea → bi ≠ ea → Goes p e below (Fin1 below s room_1 (fun v h L => v = some (.int 1) ∧ Fr n0 L)) Tj87 (mkF m 359 #[l0, l1, l2, l3, l4, l5, l6, l7, l8, l9, l10, l11, l12, l13, l14, l15, l16, l17, l18, l19, l20, l21, l22, SA a, SA ea, SI 0, SU, SU] [(.ref a)]) := by
    intro a bq bi ea xq yq ev0 ev1 ev2 l0 l1 l2 l3 l4 l5 l6 l7 l8 l9 l10 l11 l12 l13 l14 l15 l16 l17 l18 l19 l20 l21 l22 Tj87 hj87 Lj87 Xj87 ej87 N0 Z0 EA FS FI FN VS VI V_ea ge_a gq gi ge_ea n4 n5 n2 n6 n7 n8
    obtain ⟨v88, T88, L88, X88, hQ88, st88⟩ := callV Xj87 hx hZ (y := (⟨"com/example/gibbon/gibbon/analysis/SparseSum", "sums", "()[D"⟩ : MethodName)) hown (hw _ (List.mem_of_getElem? (i := 27) rfl)) (hw _ (List.mem_of_getElem? (i := 28) rfl)) (hw _ (List.mem_of_getElem? (i := 30) rfl)) (hw _ (List.mem_of_getElem? (i := 29) rfl)) (hw _ (List.mem_of_getElem? (i := 31) rfl)) (hw _ (List.mem_of_getElem? (i := 2) rfl)) (by decide) ej87 EA (argsL := []) (rest := []) (W := 0) (rm_sums0 l Z a0 hw a bq bi xq yq hj87 n0 Z0 EA FS FI FN VS VI ge_a gq gi n4 n2 n5) rfl (by decide) (by decide) (by decide) (by decide) (g := (mkF m 359 #[l0, l1, l2, l3, l4, l5, l6, l7, l8, l9, l10, l11, l12, l13, l14, l15, l16, l17, l18, l19, l20, l21, l22, SA a, SA ea, SI 0, SU, SU] [(.ref a)])) rfl (by rw [hml]; rfl) (lenOf pd4 rfl) rfl (by show 2 * 0 + _ ≤ _; exact Nat.le_of_eq rfl) (hb hby at_359)
    obtain ⟨row, rfl, V_row, sz88, K88, NL88⟩ := hQ88
    have N0 := Fr.app N0 NL88
    have ne_a_row : a ≠ row := fun q => Nat.lt_irrefl _ (Nat.lt_of_lt_of_le EA.lt (Nat.le_trans sz88 (Nat.le_of_eq q.symm)))
    have ne_bq_row : bq ≠ row := fun q => Nat.lt_irrefl _ (Nat.lt_of_lt_of_le VS.lt (Nat.le_trans sz88 (Nat.le_of_eq q.symm)))
    have ne_bi_row : bi ≠ row := fun q => Nat.lt_irrefl _ (Nat.lt_of_lt_of_le VI.lt (Nat.le_trans sz88 (Nat.le_of_eq q.symm)))
    have ne_ea_row : ea ≠ row := fun q => Nat.lt_irrefl _ (Nat.lt_of_lt_of_le V_ea.lt (Nat.le_trans sz88 (Nat.le_of_eq q.symm)))
    have ge_row : n0 ≤ row := Nat.le_trans Z0 sz88
    have e88 : T88.heap = T88.heap := rfl
    have EA := EA.keep K88
    have FS := FS.keep K88 nin0
    have FI := FI.keep K88 nin0
    have FN := FN.keep K88 nin0
    have VS := VS.keep K88 nin0
    have VI := VI.keep K88 nin0
    have V_ea := V_ea.keep K88 nin0
    have Z0 := Nat.le_trans Z0 K88.1
    refine Goes.by (T' := T88) (g' := (mkF m 362 #[l0, l1, l2, l3, l4, l5, l6, l7, l8, l9, l10, l11, l12, l13, l14, l15, l16, l17, l18, l19, l20, l21, l22, SA a, SA ea, SI 0, SU, SU] [(.ref row)])) st88 ?_
    refine Goes.by (T' := T88) (g' := (mkF m 364 #[l0, l1, l2, l3, l4, l5, l6, l7, l8, l9, l10, l11, l12, l13, l14, l15, l16, l17, l18, l19, l20, l21, l22, SA a, SA ea, SI 0, SA row, SU] [])) (fun _ k => XS.astore X88.here hx rfl (hb hby at_362) rfl rfl (l' := #[l0, l1, l2, l3, l4, l5, l6, l7, l8, l9, l10, l11, l12, l13, l14, l15, l16, l17, l18, l19, l20, l21, l22, SA a, SA ea, SI 0, SA row, SU]) rfl k) ?_
    refine Goes.by (T' := T88) (g' := (mkF m 366 #[l0, l1, l2, l3, l4, l5, l6, l7, l8, l9, l10, l11, l12, l13, l14, l15, l16, l17, l18, l19, l20, l21, l22, SA a, SA ea, SI 0, SA row, SU] [(.ref row)])) (fun _ k => XS.aload X88.here hx rfl (hb hby at_364) rfl rfl k) ?_
    refine Goes.by (T' := T88) (g' := (mkF m 367 #[l0, l1, l2, l3, l4, l5, l6, l7, l8, l9, l10, l11, l12, l13, l14, l15, l16, l17, l18, l19, l20, l21, l22, SA a, SA ea, SI 0, SA row, SU] [(.int (0 : Int32))])) (lenS X88 hx hZ e88 V_row (n := (0 : Int32)) rfl (g := (mkF m 366 #[l0, l1, l2, l3, l4, l5, l6, l7, l8, l9, l10, l11, l12, l13, l14, l15, l16, l17, l18, l19, l20, l21, l22, SA a, SA ea, SI 0, SA row, SU] [(.ref row)])) rfl rfl (hb hby at_366)) ?_
    refine Goes.by (T' := T88) (g' := (mkF m 369 #[l0, l1, l2, l3, l4, l5, l6, l7, l8, l9, l10, l11, l12, l13, l14, l15, l16, l17, l18, l19, l20, l21, l22, SA a, SA ea, SI 0, SA row, SU] [(.int (0 : Int32)), (.int (0 : Int32))])) (fun _ k => XS.iload X88.here hx rfl (hb hby at_367) rfl k) ?_
    refine Goes.by (T' := T88) (g' := (mkF m 374 #[l0, l1, l2, l3, l4, l5, l6, l7, l8, l9, l10, l11, l12, l13, l14, l15, l16, l17, l18, l19, l20, l21, l22, SA a, SA ea, SI 0, SA row, SU] [])) (fun _ k => XS.icmpYes X88.here hx rfl (pc0 := 369) (pc' := 374) rfl (hb hby at_369) rfl (by decide) (by decide) (by decide) k) ?_
    refine Goes.by (T' := T88) (g' := (mkF m 376 #[l0, l1, l2, l3, l4, l5, l6, l7, l8, l9, l10, l11, l12, l13, l14, l15, l16, l17, l18, l19, l20, l21, l22, SA a, SA ea, SI 0, SA row, SU] [(.int (0 : Int32))])) (fun _ k => XS.iload X88.here hx rfl (hb hby at_374) rfl k) ?_
    refine Goes.by (T' := T88) (g' := (mkF m 393 #[l0, l1, l2, l3, l4, l5, l6, l7, l8, l9, l10, l11, l12, l13, l14, l15, l16, l17, l18, l19, l20, l21, l22, SA a, SA ea, SI 0, SA row, SU] [])) (fun _ k => XS.ifYes X88.here hx rfl (pc0 := 376) (pc' := 393) rfl (hb hby at_376) rfl (by decide) (by decide) (by decide) k) ?_
    refine Goes.by (T' := T88) (g' := (mkF m 395 #[l0, l1, l2, l3, l4, l5, l6, l7, l8, l9, l10, l11, l12, l13, l14, l15, l16, l17, l18, l19, l20, l21, l22, SA a, SA ea, SI 0, SA row, SU] [(.int (0 : Int32))])) (fun _ k => XS.iload X88.here hx rfl (hb hby at_393) rfl k) ?_
    refine Goes.by (T' := T88) (g' := (mkF m 396 #[l0, l1, l2, l3, l4, l5, l6, l7, l8, l9, l10, l11, l12, l13, l14, l15, l16, l17, l18, l19, l20, l21, l22, SA a, SA ea, SI 0, SA row, SU] [(.int (1 : Int32)), (.int (0 : Int32))])) (fun _ k => XS.iconst X88.here hx rfl (hb hby at_395)  k) ?_
    refine Goes.by (T' := T88) (g' := (mkF m 413 #[l0, l1, l2, l3, l4, l5, l6, l7, l8, l9, l10, l11, l12, l13, l14, l15, l16, l17, l18, l19, l20, l21, l22, SA a, SA ea, SI 0, SA row, SU] [])) (fun _ k => XS.icmpYes X88.here hx rfl (pc0 := 396) (pc' := 413) rfl (hb hby at_396) rfl (by decide) (by decide) (by decide) k) ?_
    refine Goes.by (T' := T88) (g' := (mkF m 415 #[l0, l1, l2, l3, l4, l5, l6, l7, l8, l9, l10, l11, l12, l13, l14, l15, l16, l17, l18, l19, l20, l21, l22, SA a, SA ea, SI 0, SA row, SU] [(.int (0 : Int32))])) (fun _ k => XS.iload X88.here hx rfl (hb hby at_413) rfl k) ?_
    refine Goes.by (T' := T88) (g' := (mkF m 416 #[l0, l1, l2, l3, l4, l5, l6, l7, l8, l9, l10, l11, l12, l13, l14, l15, l16, l17, l18, l19, l20, l21, l22, SA a, SA ea, SI 0, SA row, SU] [(.int (2 : Int32)), (.int (0 : Int32))])) (fun _ k => XS.iconst X88.here hx rfl (hb hby at_415)  k) ?_
    refine Goes.by (T' := T88) (g' := (mkF m 433 #[l0, l1, l2, l3, l4, l5, l6, l7, l8, l9, l10, l11, l12, l13, l14, l15, l16, l17, l18, l19, l20, l21, l22, SA a, SA ea, SI 0, SA row, SU] [])) (fun _ k => XS.icmpYes X88.here hx rfl (pc0 := 416) (pc' := 433) rfl (hb hby at_416) rfl (by decide) (by decide) (by decide) k) ?_
    refine Goes.by (T' := T88) (g' := (mkF m 435 #[l0, l1, l2, l3, l4, l5, l6, l7, l8, l9, l10, l11, l12, l13, l14, l15, l16, l17, l18, l19, l20, l21, l22, SA a, SA ea, SI 0, SA row, SU] [(.int (0 : Int32))])) (fun _ k => XS.iload X88.here hx rfl (hb hby at_433) rfl k) ?_
    refine Goes.by (T' := T88) (g' := (mkF m 474 #[l0, l1, l2, l3, l4, l5, l6, l7, l8, l9, l10, l11, l12, l13, l14, l15, l16, l17, l18, l19, l20, l21, l22, SA a, SA ea, SI 0, SA row, SU] [])) (fun _ k => XS.ifYes X88.here hx rfl (pc0 := 435) (pc' := 474) rfl (hb hby at_435) rfl (by decide) (by decide) (by decide) k) ?_
    refine Goes.by (T' := T88) (g' := (mkF m 475 #[l0, l1, l2, l3, l4, l5, l6, l7, l8, l9, l10, l11, l12, l13, l14, l15, l16, l17, l18, l19, l20, l21, l22, SA a, SA ea, SI 0, SA row, SU] [(.int (1 : Int32))])) (fun _ k => XS.iconst X88.here hx rfl (hb hby at_474)  k) ?_
    exact outZ X88 hx hlk hret (hb hby at_475) (by exact ⟨rfl, N0⟩) (by decide) (by decide)
  have cmp1 : ∀ (a bq bi ea : Addr) (xq yq : List Value) (ev0 ev1 ev2 : UInt64) (v0 : Int32) (k0 : Nat) (d0 : UInt64) (j0 : Int) (l0 l1 l2 l3 l4 l5 l6 l7 l8 l9 l10 l11 l12 l13 l14 l15 l16 l17 l18 l19 l20 l21 l22 : Slot) (tq : UInt64) (Tj89 : State) (hj89 : Heap) (Lj89 : List Loc), Stand p l e room_1 s m #[(.int y0), (.int y1), (.int y2), (.int y3), (.int y4), (.int y5)] below meth c Tj89 Lj89 8 518 → Tj89.heap = hj89 → Fr n0 Lj89 → n0 ≤ hj89.size → Exa Z hj89 a "com/example/gibbon/gibbon/analysis/SparseSum" → Fld Z hj89 a "com/example/gibbon/gibbon/analysis/SparseSum" "sums" "[D" (.ref bq) → Fld Z hj89 a "com/example/gibbon/gibbon/analysis/SparseSum" "indices" "[I" (.ref bi) → Fld Z hj89 a "com/example/gibbon/gibbon/analysis/SparseSum" "size" "I" (.int (1 : Int32)) → Sar Z hj89 bq .double xq → Sar Z hj89 bi .int yq → Sar Z hj89 ea .double [(.double ev0), (.double ev1), (.double ev2)] → n0 ≤ a → n0 ≤ bq → n0 ≤ bi → n0 ≤ ea → a ≠ bq → bq ≠ bi → a ≠ bi → a ≠ ea → bq ≠ ea → bi ≠ ea → yq[0]? = some (Value.int v0) → v0.toInt = k0 → xq[k0]? = some (Value.double d0) → Core.DInt j0 d0 → Core.DInt j0 ev0 → Goes p e below (Fin1 below s room_1 (fun v h L => v = some (.int 1) ∧ Fr n0 L)) Tj89 (mkF m 359 #[l0, l1, l2, l3, l4, l5, l6, l7, l8, l9, l10, l11, l12, l13, l14, l15, l16, l17, l18, l19, l20, l21, l22, SA a, SA ea, SI 1, SD tq, S2] [(.ref a)]) := by
    intro a bq bi ea xq yq ev0 ev1 ev2 v0 k0 d0 j0 l0 l1 l2 l3 l4 l5 l6 l7 l8 l9 l10 l11 l12 l13 l14 l15 l16 l17 l18 l19 l20 l21 l22 tq Tj89 hj89 Lj89 Xj89 ej89 N0 Z0 EA FS FI FN VS VI V_ea ge_a gq gi ge_ea n4 n5 n2 n6 n7 n8 hy0 hv0 hx0 Dd0 De0
    obtain ⟨v90, T90, L90, X90, hQ90, st90⟩ := callV Xj89 hx hZ (y := (⟨"com/example/gibbon/gibbon/analysis/SparseSum", "sums", "()[D"⟩ : MethodName)) hown (hw _ (List.mem_of_getElem? (i := 27) rfl)) (hw _ (List.mem_of_getElem? (i := 28) rfl)) (hw _ (List.mem_of_getElem? (i := 30) rfl)) (hw _ (List.mem_of_getElem? (i := 29) rfl)) (hw _ (List.mem_of_getElem? (i := 31) rfl)) (hw _ (List.mem_of_getElem? (i := 2) rfl)) (by decide) ej89 EA (argsL := []) (rest := []) (W := 0) (rm_sums1 l Z a0 hw a bq bi xq yq v0 k0 d0 hj89 n0 Z0 EA FS FI FN VS VI ge_a gq gi n4 n2 n5 hy0 hv0 hx0) rfl (by decide) (by decide) (by decide) (by decide) (g := (mkF m 359 #[l0, l1, l2, l3, l4, l5, l6, l7, l8, l9, l10, l11, l12, l13, l14, l15, l16, l17, l18, l19, l20, l21, l22, SA a, SA ea, SI 1, SD tq, S2] [(.ref a)])) rfl (by rw [hml]; rfl) (lenOf pd4 rfl) rfl (by show 2 * 0 + _ ≤ _; exact Nat.le_of_eq rfl) (hb hby at_359)
    obtain ⟨row, rfl, V_row, sz90, K90, NL90⟩ := hQ90
    have N0 := Fr.app N0 NL90
    have ne_a_row : a ≠ row := fun q => Nat.lt_irrefl _ (Nat.lt_of_lt_of_le EA.lt (Nat.le_trans sz90 (Nat.le_of_eq q.symm)))
    have ne_bq_row : bq ≠ row := fun q => Nat.lt_irrefl _ (Nat.lt_of_lt_of_le VS.lt (Nat.le_trans sz90 (Nat.le_of_eq q.symm)))
    have ne_bi_row : bi ≠ row := fun q => Nat.lt_irrefl _ (Nat.lt_of_lt_of_le VI.lt (Nat.le_trans sz90 (Nat.le_of_eq q.symm)))
    have ne_ea_row : ea ≠ row := fun q => Nat.lt_irrefl _ (Nat.lt_of_lt_of_le V_ea.lt (Nat.le_trans sz90 (Nat.le_of_eq q.symm)))
    have ge_row : n0 ≤ row := Nat.le_trans Z0 sz90
    have e90 : T90.heap = T90.heap := rfl
    have EA := EA.keep K90
    have FS := FS.keep K90 nin0
    have FI := FI.keep K90 nin0
    have FN := FN.keep K90 nin0
    have VS := VS.keep K90 nin0
    have VI := VI.keep K90 nin0
    have V_ea := V_ea.keep K90 nin0
    have Z0 := Nat.le_trans Z0 K90.1
    refine Goes.by (T' := T90) (g' := (mkF m 362 #[l0, l1, l2, l3, l4, l5, l6, l7, l8, l9, l10, l11, l12, l13, l14, l15, l16, l17, l18, l19, l20, l21, l22, SA a, SA ea, SI 1, SD tq, S2] [(.ref row)])) st90 ?_
    refine Goes.by (T' := T90) (g' := (mkF m 364 #[l0, l1, l2, l3, l4, l5, l6, l7, l8, l9, l10, l11, l12, l13, l14, l15, l16, l17, l18, l19, l20, l21, l22, SA a, SA ea, SI 1, SA row, SU] [])) (fun _ k => XS.astore X90.here hx rfl (hb hby at_362) rfl rfl (l' := #[l0, l1, l2, l3, l4, l5, l6, l7, l8, l9, l10, l11, l12, l13, l14, l15, l16, l17, l18, l19, l20, l21, l22, SA a, SA ea, SI 1, SA row, SU]) rfl k) ?_
    refine Goes.by (T' := T90) (g' := (mkF m 366 #[l0, l1, l2, l3, l4, l5, l6, l7, l8, l9, l10, l11, l12, l13, l14, l15, l16, l17, l18, l19, l20, l21, l22, SA a, SA ea, SI 1, SA row, SU] [(.ref row)])) (fun _ k => XS.aload X90.here hx rfl (hb hby at_364) rfl rfl k) ?_
    refine Goes.by (T' := T90) (g' := (mkF m 367 #[l0, l1, l2, l3, l4, l5, l6, l7, l8, l9, l10, l11, l12, l13, l14, l15, l16, l17, l18, l19, l20, l21, l22, SA a, SA ea, SI 1, SA row, SU] [(.int (1 : Int32))])) (lenS X90 hx hZ e90 V_row (n := (1 : Int32)) rfl (g := (mkF m 366 #[l0, l1, l2, l3, l4, l5, l6, l7, l8, l9, l10, l11, l12, l13, l14, l15, l16, l17, l18, l19, l20, l21, l22, SA a, SA ea, SI 1, SA row, SU] [(.ref row)])) rfl rfl (hb hby at_366)) ?_
    refine Goes.by (T' := T90) (g' := (mkF m 369 #[l0, l1, l2, l3, l4, l5, l6, l7, l8, l9, l10, l11, l12, l13, l14, l15, l16, l17, l18, l19, l20, l21, l22, SA a, SA ea, SI 1, SA row, SU] [(.int (1 : Int32)), (.int (1 : Int32))])) (fun _ k => XS.iload X90.here hx rfl (hb hby at_367) rfl k) ?_
    refine Goes.by (T' := T90) (g' := (mkF m 374 #[l0, l1, l2, l3, l4, l5, l6, l7, l8, l9, l10, l11, l12, l13, l14, l15, l16, l17, l18, l19, l20, l21, l22, SA a, SA ea, SI 1, SA row, SU] [])) (fun _ k => XS.icmpYes X90.here hx rfl (pc0 := 369) (pc' := 374) rfl (hb hby at_369) rfl (by decide) (by decide) (by decide) k) ?_
    refine Goes.by (T' := T90) (g' := (mkF m 376 #[l0, l1, l2, l3, l4, l5, l6, l7, l8, l9, l10, l11, l12, l13, l14, l15, l16, l17, l18, l19, l20, l21, l22, SA a, SA ea, SI 1, SA row, SU] [(.int (1 : Int32))])) (fun _ k => XS.iload X90.here hx rfl (hb hby at_374) rfl k) ?_
    refine Goes.by (T' := T90) (g' := (mkF m 379 #[l0, l1, l2, l3, l4, l5, l6, l7, l8, l9, l10, l11, l12, l13, l14, l15, l16, l17, l18, l19, l20, l21, l22, SA a, SA ea, SI 1, SA row, SU] [])) (fun _ k => XS.ifNo X90.here hx rfl (hb hby at_376) rfl (by decide) k) ?_
    refine Goes.by (T' := T90) (g' := (mkF m 381 #[l0, l1, l2, l3, l4, l5, l6, l7, l8, l9, l10, l11, l12, l13, l14, l15, l16, l17, l18, l19, l20, l21, l22, SA a, SA ea, SI 1, SA row, SU] [(.ref row)])) (fun _ k => XS.aload X90.here hx rfl (hb hby at_379) rfl rfl k) ?_
    refine Goes.by (T' := T90) (g' := (mkF m 382 #[l0, l1, l2, l3, l4, l5, l6, l7, l8, l9, l10, l11, l12, l13, l14, l15, l16, l17, l18, l19, l20, l21, l22, SA a, SA ea, SI 1, SA row, SU] [(.int (0 : Int32)), (.ref row)])) (fun _ k => XS.iconst X90.here hx rfl (hb hby at_381)  k) ?_
    refine Goes.by (T' := T90) (g' := (mkF m 383 #[l0, l1, l2, l3, l4, l5, l6, l7, l8, l9, l10, l11, l12, l13, l14, l15, l16, l17, l18, l19, l20, l21, l22, SA a, SA ea, SI 1, SA row, SU] [(.double d0)])) (ldDS X90 hx hZ e90 V_row (v := (.double d0)) (j := (0 : Int32)) 0 (by decide) rfl (g := (mkF m 382 #[l0, l1, l2, l3, l4, l5, l6, l7, l8, l9, l10, l11, l12, l13, l14, l15, l16, l17, l18, l19, l20, l21, l22, SA a, SA ea, SI 1, SA row, SU] [(.int (0 : Int32)), (.ref row)])) rfl rfl (hb hby at_382)) ?_
    refine Goes.by (T' := T90) (g' := (mkF m 385 #[l0, l1, l2, l3, l4, l5, l6, l7, l8, l9, l10, l11, l12, l13, l14, l15, l16, l17, l18, l19, l20, l21, l22, SA a, SA ea, SI 1, SA row, SU] [(.ref ea), (.double d0)])) (fun _ k => XS.aload X90.here hx rfl (hb hby at_383) rfl rfl k) ?_
    refine Goes.by (T' := T90) (g' := (mkF m 386 #[l0, l1, l2, l3, l4, l5, l6, l7, l8, l9, l10, l11, l12, l13, l14, l15, l16, l17, l18, l19, l20, l21, l22, SA a, SA ea, SI 1, SA row, SU] [(.int (0 : Int32)), (.ref ea), (.double d0)])) (fun _ k => XS.iconst X90.here hx rfl (hb hby at_385)  k) ?_
    refine Goes.by (T' := T90) (g' := (mkF m 387 #[l0, l1, l2, l3, l4, l5, l6, l7, l8, l9, l10, l11, l12, l13, l14, l15, l16, l17, l18, l19, l20, l21, l22, SA a, SA ea, SI 1, SA row, SU] [(.double ev0), (.double d0)])) (ldDS X90 hx hZ e90 V_ea (v := (.double ev0)) (j := (0 : Int32)) 0 (by decide) rfl (g := (mkF m 386 #[l0, l1, l2, l3, l4, l5, l6, l7, l8, l9, l10, l11, l12, l13, l14, l15, l16, l17, l18, l19, l20, l21, l22, SA a, SA ea, SI 1, SA row, SU] [(.int (0 : Int32)), (.ref ea), (.double d0)])) rfl rfl (hb hby at_386)) ?_
    refine Goes.by (T' := T90) (g' := (mkF m 388 #[l0, l1, l2, l3, l4, l5, l6, l7, l8, l9, l10, l11, l12, l13, l14, l15, l16, l17, l18, l19, l20, l21, l22, SA a, SA ea, SI 1, SA row, SU] [(.int (0 : Int32))])) (fun _ k => XS.dcmpS X90.here hx rfl (hb hby at_387) rfl (cmpD_eq Dd0 De0 rfl _) k) ?_
    refine Goes.by (T' := T90) (g' := (mkF m 393 #[l0, l1, l2, l3, l4, l5, l6, l7, l8, l9, l10, l11, l12, l13, l14, l15, l16, l17, l18, l19, l20, l21, l22, SA a, SA ea, SI 1, SA row, SU] [])) (fun _ k => XS.ifYes X90.here hx rfl (pc0 := 388) (pc' := 393) rfl (hb hby at_388) rfl (by decide) (by decide) (by decide) k) ?_
    refine Goes.by (T' := T90) (g' := (mkF m 395 #[l0, l1, l2, l3, l4, l5, l6, l7, l8, l9, l10, l11, l12, l13, l14, l15, l16, l17, l18, l19, l20, l21, l22, SA a, SA ea, SI 1, SA row, SU] [(.int (1 : Int32))])) (fun _ k => XS.iload X90.here hx rfl (hb hby at_393) rfl k) ?_
    refine Goes.by (T' := T90) (g' := (mkF m 396 #[l0, l1, l2, l3, l4, l5, l6, l7, l8, l9, l10, l11, l12, l13, l14, l15, l16, l17, l18, l19, l20, l21, l22, SA a, SA ea, SI 1, SA row, SU] [(.int (1 : Int32)), (.int (1 : Int32))])) (fun _ k => XS.iconst X90.here hx rfl (hb hby at_395)  k) ?_
    refine Goes.by (T' := T90) (g' := (mkF m 413 #[l0, l1, l2, l3, l4, l5, l6, l7, l8, l9, l10, l11, l12, l13, l14, l15, l16, l17, l18, l19, l20, l21, l22, SA a, SA ea, SI 1, SA row, SU] [])) (fun _ k => XS.icmpYes X90.here hx rfl (pc0 := 396) (pc' := 413) rfl (hb hby at_396) rfl (by decide) (by decide) (by decide) k) ?_
    refine Goes.by (T' := T90) (g' := (mkF m 415 #[l0, l1, l2, l3, l4, l5, l6, l7, l8, l9, l10, l11, l12, l13, l14, l15, l16, l17, l18, l19, l20, l21, l22, SA a, SA ea, SI 1, SA row, SU] [(.int (1 : Int32))])) (fun _ k => XS.iload X90.here hx rfl (hb hby at_413) rfl k) ?_
    refine Goes.by (T' := T90) (g' := (mkF m 416 #[l0, l1, l2, l3, l4, l5, l6, l7, l8, l9, l10, l11, l12, l13, l14, l15, l16, l17, l18, l19, l20, l21, l22, SA a, SA ea, SI 1, SA row, SU] [(.int (2 : Int32)), (.int (1 : Int32))])) (fun _ k => XS.iconst X90.here hx rfl (hb hby at_415)  k) ?_
    refine Goes.by (T' := T90) (g' := (mkF m 433 #[l0, l1, l2, l3, l4, l5, l6, l7, l8, l9, l10, l11, l12, l13, l14, l15, l16, l17, l18, l19, l20, l21, l22, SA a, SA ea, SI 1, SA row, SU] [])) (fun _ k => XS.icmpYes X90.here hx rfl (pc0 := 416) (pc' := 433) rfl (hb hby at_416) rfl (by decide) (by decide) (by decide) k) ?_
    refine Goes.by (T' := T90) (g' := (mkF m 435 #[l0, l1, l2, l3, l4, l5, l6, l7, l8, l9, l10, l11, l12, l13, l14, l15, l16, l17, l18, l19, l20, l21, l22, SA a, SA ea, SI 1, SA row, SU] [(.int (1 : Int32))])) (fun _ k => XS.iload X90.here hx rfl (hb hby at_433) rfl k) ?_
    refine Goes.by (T' := T90) (g' := (mkF m 438 #[l0, l1, l2, l3, l4, l5, l6, l7, l8, l9, l10, l11, l12, l13, l14, l15, l16, l17, l18, l19, l20, l21, l22, SA a, SA ea, SI 1, SA row, SU] [])) (fun _ k => XS.ifNo X90.here hx rfl (hb hby at_435) rfl (by decide) k) ?_
    refine Goes.by (T' := T90) (g' := (mkF m 440 #[l0, l1, l2, l3, l4, l5, l6, l7, l8, l9, l10, l11, l12, l13, l14, l15, l16, l17, l18, l19, l20, l21, l22, SA a, SA ea, SI 1, SA row, SU] [(.ref row)])) (fun _ k => XS.aload X90.here hx rfl (hb hby at_438) rfl rfl k) ?_
    refine Goes.by (T' := T90) (g' := (mkF m 441 #[l0, l1, l2, l3, l4, l5, l6, l7, l8, l9, l10, l11, l12, l13, l14, l15, l16, l17, l18, l19, l20, l21, l22, SA a, SA ea, SI 1, SA row, SU] [(.int (0 : Int32)), (.ref row)])) (fun _ k => XS.iconst X90.here hx rfl (hb hby at_440)  k) ?_
    refine Goes.by (T' := T90) (g' := (mkF m 444 #[l0, l1, l2, l3, l4, l5, l6, l7, l8, l9, l10, l11, l12, l13, l14, l15, l16, l17, l18, l19, l20, l21, l22, SA a, SA ea, SI 1, SA row, SU] [(.double (13830554455654793216 : UInt64)), (.int (0 : Int32)), (.ref row)])) (X90.ldc2DoubleC hx hown (mvT hZ (hw _ (List.mem_of_getElem? (i := 32) rfl))) (g := (mkF m 441 #[l0, l1, l2, l3, l4, l5, l6, l7, l8, l9, l10, l11, l12, l13, l14, l15, l16, l17, l18, l19, l20, l21, l22, SA a, SA ea, SI 1, SA row, SU] [(.int (0 : Int32)), (.ref row)])) rfl (hb hby at_441)) ?_
    obtain ⟨T91, h91, X91, e91, W91, V91, st91⟩ := stDS X90 hx hZ e90 V_row (j := (0 : Int32)) 0 (by decide) (by show 0 < 1; decide) (g := (mkF m 444 #[l0, l1, l2, l3, l4, l5, l6, l7, l8, l9, l10, l11, l12, l13, l14, l15, l16, l17, l18, l19, l20, l21, l22, SA a, SA ea, SI 1, SA row, SU] [(.double (13830554455654793216 : UInt64)), (.int (0 : Int32)), (.ref row)])) rfl rfl (hb hby at_444)
    have N0 := Fr.snoc X91 N0 ge_row
    have EA := EA.wr W91
    have FS := FS.other W91 (Or.inl ne_a_row)
    have FI := FI.other W91 (Or.inl ne_a_row)
    have FN := FN.other W91 (Or.inl ne_a_row)
    have VS := VS.other W91 ne_bq_row
    have VI := VI.other W91 ne_bi_row
    have V_ea := V_ea.other W91 ne_ea_row
    have Z0 := Nat.le_trans Z0 (Nat.le_of_eq W91.size.symm)
    have V_row : Sar Z h91 row .double [(.double (13830554455654793216 : UInt64))] := V91
    refine Goes.by (T' := T91) (g' := (mkF m 445 #[l0, l1, l2, l3, l4, l5, l6, l7, l8, l9, l10, l11, l12, l13, l14, l15, l16, l17, l18, l19, l20, l21, l22, SA a, SA ea, SI 1, SA row, SU] [])) st91 ?_
    refine Goes.by (T' := T91) (g' := (mkF m 447 #[l0, l1, l2, l3, l4, l5, l6, l7, l8, l9, l10, l11, l12, l13, l14, l15, l16, l17, l18, l19, l20, l21, l22, SA a, SA ea, SI 1, SA row, SU] [(.ref a)])) (fun _ k => XS.aload X91.here hx rfl (hb hby at_445) rfl rfl k) ?_
    obtain ⟨v92, T92, L92, X92, hQ92, st92⟩ := callV X91 hx hZ (y := (⟨"com/example/gibbon/gibbon/analysis/SparseSum", "sums", "()[D"⟩ : MethodName)) hown (hw _ (List.mem_of_getElem? (i := 27) rfl)) (hw _ (List.mem_of_getElem? (i := 28) rfl)) (hw _ (List.mem_of_getElem? (i := 30) rfl)) (hw _ (List.mem_of_getElem? (i := 29) rfl)) (hw _ (List.mem_of_getElem? (i := 31) rfl)) (hw _ (List.mem_of_getElem? (i := 2) rfl)) (by decide) e91 EA (argsL := []) (rest := []) (W := 0) (rm_sums1 l Z a0 hw a bq bi xq yq v0 k0 d0 h91 n0 Z0 EA FS FI FN VS VI ge_a gq gi n4 n2 n5 hy0 hv0 hx0) rfl (by decide) (by decide) (by decide) (by decide) (g := (mkF m 447 #[l0, l1, l2, l3, l4, l5, l6, l7, l8, l9, l10, l11, l12, l13, l14, l15, l16, l17, l18, l19, l20, l21, l22, SA a, SA ea, SI 1, SA row, SU] [(.ref a)])) rfl (by rw [hml]; rfl) (lenOf pd4 rfl) rfl (by show 2 * 0 + _ ≤ _; exact Nat.le_of_eq rfl) (hb hby at_447)
    obtain ⟨again, rfl, V_again, sz92, K92, NL92⟩ := hQ92
    have N0 := Fr.app N0 NL92
    have ne_a_again : a ≠ again := fun q => Nat.lt_irrefl _ (Nat.lt_of_lt_of_le EA.lt (Nat.le_trans sz92 (Nat.le_of_eq q.symm)))
    have ne_bq_again : bq ≠ again := fun q => Nat.lt_irrefl _ (Nat.lt_of_lt_of_le VS.lt (Nat.le_trans sz92 (Nat.le_of_eq q.symm)))
    have ne_bi_again : bi ≠ again := fun q => Nat.lt_irrefl _ (Nat.lt_of_lt_of_le VI.lt (Nat.le_trans sz92 (Nat.le_of_eq q.symm)))
    have ne_ea_again : ea ≠ again := fun q => Nat.lt_irrefl _ (Nat.lt_of_lt_of_le V_ea.lt (Nat.le_trans sz92 (Nat.le_of_eq q.symm)))
    have ne_row_again : row ≠ again := fun q => Nat.lt_irrefl _ (Nat.lt_of_lt_of_le V_row.lt (Nat.le_trans sz92 (Nat.le_of_eq q.symm)))
    have ge_again : n0 ≤ again := Nat.le_trans Z0 sz92
    have e92 : T92.heap = T92.heap := rfl
    have EA := EA.keep K92
    have FS := FS.keep K92 nin0
    have FI := FI.keep K92 nin0
    have FN := FN.keep K92 nin0
    have VS := VS.keep K92 nin0
    have VI := VI.keep K92 nin0
    have V_ea := V_ea.keep K92 nin0
    have V_row := V_row.keep K92 nin0
    have Z0 := Nat.le_trans Z0 K92.1
    refine Goes.by (T' := T92) (g' := (mkF m 450 #[l0, l1, l2, l3, l4, l5, l6, l7, l8, l9, l10, l11, l12, l13, l14, l15, l16, l17, l18, l19, l20, l21, l22, SA a, SA ea, SI 1, SA row, SU] [(.ref again)])) st92 ?_
    refine Goes.by (T' := T92) (g' := (mkF m 452 #[l0, l1, l2, l3, l4, l5, l6, l7, l8, l9, l10, l11, l12, l13, l14, l15, l16, l17, l18, l19, l20, l21, l22, SA a, SA ea, SI 1, SA row, SA again] [])) (fun _ k => XS.astore X92.here hx rfl (hb hby at_450) rfl rfl (l' := #[l0, l1, l2, l3, l4, l5, l6, l7, l8, l9, l10, l11, l12, l13, l14, l15, l16, l17, l18, l19, l20, l21, l22, SA a, SA ea, SI 1, SA row, SA again]) rfl k) ?_
    refine Goes.by (T' := T92) (g' := (mkF m 454 #[l0, l1, l2, l3, l4, l5, l6, l7, l8, l9, l10, l11, l12, l13, l14, l15, l16, l17, l18, l19, l20, l21, l22, SA a, SA ea, SI 1, SA row, SA again] [(.ref again)])) (fun _ k => XS.aload X92.here hx rfl (hb hby at_452) rfl rfl k) ?_
    refine Goes.by (T' := T92) (g' := (mkF m 455 #[l0, l1, l2, l3, l4, l5, l6, l7, l8, l9, l10, l11, l12, l13, l14, l15, l16, l17, l18, l19, l20, l21, l22, SA a, SA ea, SI 1, SA row, SA again] [(.int (1 : Int32))])) (lenS X92 hx hZ e92 V_again (n := (1 : Int32)) rfl (g := (mkF m 454 #[l0, l1, l2, l3, l4, l5, l6, l7, l8, l9, l10, l11, l12, l13, l14, l15, l16, l17, l18, l19, l20, l21, l22, SA a, SA ea, SI 1, SA row, SA again] [(.ref again)])) rfl rfl (hb hby at_454)) ?_
    refine Goes.by (T' := T92) (g' := (mkF m 457 #[l0, l1, l2, l3, l4, l5, l6, l7, l8, l9, l10, l11, l12, l13, l14, l15, l16, l17, l18, l19, l20, l21, l22, SA a, SA ea, SI 1, SA row, SA again] [(.int (1 : Int32)), (.int (1 : Int32))])) (fun _ k => XS.iload X92.here hx rfl (hb hby at_455) rfl k) ?_
    refine Goes.by (T' := T92) (g' := (mkF m 460 #[l0, l1, l2, l3, l4, l5, l6, l7, l8, l9, l10, l11, l12, l13, l14, l15, l16, l17, l18, l19, l20, l21, l22, SA a, SA ea, SI 1, SA row, SA again] [])) (fun _ k => XS.icmpNo X92.here hx rfl (hb hby at_457) rfl (by decide) k) ?_
    refine Goes.by (T' := T92) (g' := (mkF m 462 #[l0, l1, l2, l3, l4, l5, l6, l7, l8, l9, l10, l11, l12, l13, l14, l15, l16, l17, l18, l19, l20, l21, l22, SA a, SA ea, SI 1, SA row, SA again] [(.ref again)])) (fun _ k => XS.aload X92.here hx rfl (hb hby at_460) rfl rfl k) ?_
    refine Goes.by (T' := T92) (g' := (mkF m 463 #[l0, l1, l2, l3, l4, l5, l6, l7, l8, l9, l10, l11, l12, l13, l14, l15, l16, l17, l18, l19, l20, l21, l22, SA a, SA ea, SI 1, SA row, SA again] [(.int (0 : Int32)), (.ref again)])) (fun _ k => XS.iconst X92.here hx rfl (hb hby at_462)  k) ?_
    refine Goes.by (T' := T92) (g' := (mkF m 464 #[l0, l1, l2, l3, l4, l5, l6, l7, l8, l9, l10, l11, l12, l13, l14, l15, l16, l17, l18, l19, l20, l21, l22, SA a, SA ea, SI 1, SA row, SA again] [(.double d0)])) (ldDS X92 hx hZ e92 V_again (v := (.double d0)) (j := (0 : Int32)) 0 (by decide) rfl (g := (mkF m 463 #[l0, l1, l2, l3, l4, l5, l6, l7, l8, l9, l10, l11, l12, l13, l14, l15, l16, l17, l18, l19, l20, l21, l22, SA a, SA ea, SI 1, SA row, SA again] [(.int (0 : Int32)), (.ref again)])) rfl rfl (hb hby at_463)) ?_
    refine Goes.by (T' := T92) (g' := (mkF m 466 #[l0, l1, l2, l3, l4, l5, l6, l7, l8, l9, l10, l11, l12, l13, l14, l15, l16, l17, l18, l19, l20, l21, l22, SA a, SA ea, SI 1, SA row, SA again] [(.ref ea), (.double d0)])) (fun _ k => XS.aload X92.here hx rfl (hb hby at_464) rfl rfl k) ?_
    refine Goes.by (T' := T92) (g' := (mkF m 467 #[l0, l1, l2, l3, l4, l5, l6, l7, l8, l9, l10, l11, l12, l13, l14, l15, l16, l17, l18, l19, l20, l21, l22, SA a, SA ea, SI 1, SA row, SA again] [(.int (0 : Int32)), (.ref ea), (.double d0)])) (fun _ k => XS.iconst X92.here hx rfl (hb hby at_466)  k) ?_
    refine Goes.by (T' := T92) (g' := (mkF m 468 #[l0, l1, l2, l3, l4, l5, l6, l7, l8, l9, l10, l11, l12, l13, l14, l15, l16, l17, l18, l19, l20, l21, l22, SA a, SA ea, SI 1, SA row, SA again] [(.double ev0), (.double d0)])) (ldDS X92 hx hZ e92 V_ea (v := (.double ev0)) (j := (0 : Int32)) 0 (by decide) rfl (g := (mkF m 467 #[l0, l1, l2, l3, l4, l5, l6, l7, l8, l9, l10, l11, l12, l13, l14, l15, l16, l17, l18, l19, l20, l21, l22, SA a, SA ea, SI 1, SA row, SA again] [(.int (0 : Int32)), (.ref ea), (.double d0)])) rfl rfl (hb hby at_467)) ?_
    refine Goes.by (T' := T92) (g' := (mkF m 469 #[l0, l1, l2, l3, l4, l5, l6, l7, l8, l9, l10, l11, l12, l13, l14, l15, l16, l17, l18, l19, l20, l21, l22, SA a, SA ea, SI 1, SA row, SA again] [(.int (0 : Int32))])) (fun _ k => XS.dcmpS X92.here hx rfl (hb hby at_468) rfl (cmpD_eq Dd0 De0 rfl _) k) ?_
    refine Goes.by (T' := T92) (g' := (mkF m 474 #[l0, l1, l2, l3, l4, l5, l6, l7, l8, l9, l10, l11, l12, l13, l14, l15, l16, l17, l18, l19, l20, l21, l22, SA a, SA ea, SI 1, SA row, SA again] [])) (fun _ k => XS.ifYes X92.here hx rfl (pc0 := 469) (pc' := 474) rfl (hb hby at_469) rfl (by decide) (by decide) (by decide) k) ?_
    refine Goes.by (T' := T92) (g' := (mkF m 475 #[l0, l1, l2, l3, l4, l5, l6, l7, l8, l9, l10, l11, l12, l13, l14, l15, l16, l17, l18, l19, l20, l21, l22, SA a, SA ea, SI 1, SA row, SA again] [(.int (1 : Int32))])) (fun _ k => XS.iconst X92.here hx rfl (hb hby at_474)  k) ?_
    exact outZ X92 hx hlk hret (hb hby at_475) (by exact ⟨rfl, N0⟩) (by decide) (by decide)
  have cmp2 : ∀ (a bq bi ea : Addr) (xq yq : List Value) (ev0 ev1 ev2 : UInt64) (v0 : Int32) (k0 : Nat) (d0 : UInt64) (j0 : Int) (v1 : Int32) (k1 : Nat) (d1 : UInt64) (j1 : Int) (l0 l1 l2 l3 l4 l5 l6 l7 l8 l9 l10 l11 l12 l13 l14 l15 l16 l17 l18 l19 l20 l21 l22 : Slot) (tq : UInt64) (Tj93 : State) (hj93 : Heap) (Lj93 : List Loc), Stand p l e room_1 s m #[(.int y0), (.int y1), (.int y2), (.int y3), (.int y4), (.int y5)] below meth c Tj93 Lj93 8 518 → Tj93.heap = hj93 → Fr n0 Lj93 → n0 ≤ hj93.size → Exa Z hj93 a "com/example/gibbon/gibbon/analysis/SparseSum" → Fld Z hj93 a "com/example/gibbon/gibbon/analysis/SparseSum" "sums" "[D" (.ref bq) → Fld Z hj93 a "com/example/gibbon/gibbon/analysis/SparseSum" "indices" "[I" (.ref bi) → Fld Z hj93 a "com/example/gibbon/gibbon/analysis/SparseSum" "size" "I" (.int (2 : Int32)) → Sar Z hj93 bq .double xq → Sar Z hj93 bi .int yq → Sar Z hj93 ea .double [(.double ev0), (.double ev1), (.double ev2)] → n0 ≤ a → n0 ≤ bq → n0 ≤ bi → n0 ≤ ea → a ≠ bq → bq ≠ bi → a ≠ bi → a ≠ ea → bq ≠ ea → bi ≠ ea → yq[0]? = some (Value.int v0) → v0.toInt = k0 → xq[k0]? = some (Value.double d0) → Core.DInt j0 d0 → Core.DInt j0 ev0 → yq[1]? = some (Value.int v1) → v1.toInt = k1 → xq[k1]? = some (Value.double d1) → Core.DInt j1 d1 → Core.DInt j1 ev1 → Goes p e below (Fin1 below s room_1 (fun v h L => v = some (.int 1) ∧ Fr n0 L)) Tj93 (mkF m 359 #[l0, l1, l2, l3, l4, l5, l6, l7, l8, l9, l10, l11, l12, l13, l14, l15, l16, l17, l18, l19, l20, l21, l22, SA a, SA ea, SI 2, SD tq, S2] [(.ref a)]) := by
    intro a bq bi ea xq yq ev0 ev1 ev2 v0 k0 d0 j0 v1 k1 d1 j1 l0 l1 l2 l3 l4 l5 l6 l7 l8 l9 l10 l11 l12 l13 l14 l15 l16 l17 l18 l19 l20 l21 l22 tq Tj93 hj93 Lj93 Xj93 ej93 N0 Z0 EA FS FI FN VS VI V_ea ge_a gq gi ge_ea n4 n5 n2 n6 n7 n8 hy0 hv0 hx0 Dd0 De0 hy1 hv1 hx1 Dd1 De1
    obtain ⟨v94, T94, L94, X94, hQ94, st94⟩ := callV Xj93 hx hZ (y := (⟨"com/example/gibbon/gibbon/analysis/SparseSum", "sums", "()[D"⟩ : MethodName)) hown (hw _ (List.mem_of_getElem? (i := 27) rfl)) (hw _ (List.mem_of_getElem? (i := 28) rfl)) (hw _ (List.mem_of_getElem? (i := 30) rfl)) (hw _ (List.mem_of_getElem? (i := 29) rfl)) (hw _ (List.mem_of_getElem? (i := 31) rfl)) (hw _ (List.mem_of_getElem? (i := 2) rfl)) (by decide) ej93 EA (argsL := []) (rest := []) (W := 0) (rm_sums2 l Z a0 hw a bq bi xq yq v0 k0 d0 v1 k1 d1 hj93 n0 Z0 EA FS FI FN VS VI ge_a gq gi n4 n2 n5 hy0 hv0 hx0 hy1 hv1 hx1) rfl (by decide) (by decide) (by decide) (by decide) (g := (mkF m 359 #[l0, l1, l2, l3, l4, l5, l6, l7, l8, l9, l10, l11, l12, l13, l14, l15, l16, l17, l18, l19, l20, l21, l22, SA a, SA ea, SI 2, SD tq, S2] [(.ref a)])) rfl (by rw [hml]; rfl) (lenOf pd4 rfl) rfl (by show 2 * 0 + _ ≤ _; exact Nat.le_of_eq rfl) (hb hby at_359)
    obtain ⟨row, rfl, V_row, sz94, K94, NL94⟩ := hQ94
    have N0 := Fr.app N0 NL94
    have ne_a_row : a ≠ row := fun q => Nat.lt_irrefl _ (Nat.lt_of_lt_of_le EA.lt (Nat.le_trans sz94 (Nat.le_of_eq q.symm)))
    have ne_bq_row : bq ≠ row := fun q => Nat.lt_irrefl _ (Nat.lt_of_lt_of_le VS.lt (Nat.le_trans sz94 (Nat.le_of_eq q.symm)))
    have ne_bi_row : bi ≠ row := fun q => Nat.lt_irrefl _ (Nat.lt_of_lt_of_le VI.lt (Nat.le_trans sz94 (Nat.le_of_eq q.symm)))
    have ne_ea_row : ea ≠ row := fun q => Nat.lt_irrefl _ (Nat.lt_of_lt_of_le V_ea.lt (Nat.le_trans sz94 (Nat.le_of_eq q.symm)))
    have ge_row : n0 ≤ row := Nat.le_trans Z0 sz94
    have e94 : T94.heap = T94.heap := rfl
    have EA := EA.keep K94
    have FS := FS.keep K94 nin0
    have FI := FI.keep K94 nin0
    have FN := FN.keep K94 nin0
    have VS := VS.keep K94 nin0
    have VI := VI.keep K94 nin0
    have V_ea := V_ea.keep K94 nin0
    have Z0 := Nat.le_trans Z0 K94.1
    refine Goes.by (T' := T94) (g' := (mkF m 362 #[l0, l1, l2, l3, l4, l5, l6, l7, l8, l9, l10, l11, l12, l13, l14, l15, l16, l17, l18, l19, l20, l21, l22, SA a, SA ea, SI 2, SD tq, S2] [(.ref row)])) st94 ?_
    refine Goes.by (T' := T94) (g' := (mkF m 364 #[l0, l1, l2, l3, l4, l5, l6, l7, l8, l9, l10, l11, l12, l13, l14, l15, l16, l17, l18, l19, l20, l21, l22, SA a, SA ea, SI 2, SA row, SU] [])) (fun _ k => XS.astore X94.here hx rfl (hb hby at_362) rfl rfl (l' := #[l0, l1, l2, l3, l4, l5, l6, l7, l8, l9, l10, l11, l12, l13, l14, l15, l16, l17, l18, l19, l20, l21, l22, SA a, SA ea, SI 2, SA row, SU]) rfl k) ?_
    refine Goes.by (T' := T94) (g' := (mkF m 366 #[l0, l1, l2, l3, l4, l5, l6, l7, l8, l9, l10, l11, l12, l13, l14, l15, l16, l17, l18, l19, l20, l21, l22, SA a, SA ea, SI 2, SA row, SU] [(.ref row)])) (fun _ k => XS.aload X94.here hx rfl (hb hby at_364) rfl rfl k) ?_
    refine Goes.by (T' := T94) (g' := (mkF m 367 #[l0, l1, l2, l3, l4, l5, l6, l7, l8, l9, l10, l11, l12, l13, l14, l15, l16, l17, l18, l19, l20, l21, l22, SA a, SA ea, SI 2, SA row, SU] [(.int (2 : Int32))])) (lenS X94 hx hZ e94 V_row (n := (2 : Int32)) rfl (g := (mkF m 366 #[l0, l1, l2, l3, l4, l5, l6, l7, l8, l9, l10, l11, l12, l13, l14, l15, l16, l17, l18, l19, l20, l21, l22, SA a, SA ea, SI 2, SA row, SU] [(.ref row)])) rfl rfl (hb hby at_366)) ?_
    refine Goes.by (T' := T94) (g' := (mkF m 369 #[l0, l1, l2, l3, l4, l5, l6, l7, l8, l9, l10, l11, l12, l13, l14, l15, l16, l17, l18, l19, l20, l21, l22, SA a, SA ea, SI 2, SA row, SU] [(.int (2 : Int32)), (.int (2 : Int32))])) (fun _ k => XS.iload X94.here hx rfl (hb hby at_367) rfl k) ?_
    refine Goes.by (T' := T94) (g' := (mkF m 374 #[l0, l1, l2, l3, l4, l5, l6, l7, l8, l9, l10, l11, l12, l13, l14, l15, l16, l17, l18, l19, l20, l21, l22, SA a, SA ea, SI 2, SA row, SU] [])) (fun _ k => XS.icmpYes X94.here hx rfl (pc0 := 369) (pc' := 374) rfl (hb hby at_369) rfl (by decide) (by decide) (by decide) k) ?_
    refine Goes.by (T' := T94) (g' := (mkF m 376 #[l0, l1, l2, l3, l4, l5, l6, l7, l8, l9, l10, l11, l12, l13, l14, l15, l16, l17, l18, l19, l20, l21, l22, SA a, SA ea, SI 2, SA row, SU] [(.int (2 : Int32))])) (fun _ k => XS.iload X94.here hx rfl (hb hby at_374) rfl k) ?_
    refine Goes.by (T' := T94) (g' := (mkF m 379 #[l0, l1, l2, l3, l4, l5, l6, l7, l8, l9, l10, l11, l12, l13, l14, l15, l16, l17, l18, l19, l20, l21, l22, SA a, SA ea, SI 2, SA row, SU] [])) (fun _ k => XS.ifNo X94.here hx rfl (hb hby at_376) rfl (by decide) k) ?_
    refine Goes.by (T' := T94) (g' := (mkF m 381 #[l0, l1, l2, l3, l4, l5, l6, l7, l8, l9, l10, l11, l12, l13, l14, l15, l16, l17, l18, l19, l20, l21, l22, SA a, SA ea, SI 2, SA row, SU] [(.ref row)])) (fun _ k => XS.aload X94.here hx rfl (hb hby at_379) rfl rfl k) ?_
    refine Goes.by (T' := T94) (g' := (mkF m 382 #[l0, l1, l2, l3, l4, l5, l6, l7, l8, l9, l10, l11, l12, l13, l14, l15, l16, l17, l18, l19, l20, l21, l22, SA a, SA ea, SI 2, SA row, SU] [(.int (0 : Int32)), (.ref row)])) (fun _ k => XS.iconst X94.here hx rfl (hb hby at_381)  k) ?_
    refine Goes.by (T' := T94) (g' := (mkF m 383 #[l0, l1, l2, l3, l4, l5, l6, l7, l8, l9, l10, l11, l12, l13, l14, l15, l16, l17, l18, l19, l20, l21, l22, SA a, SA ea, SI 2, SA row, SU] [(.double d0)])) (ldDS X94 hx hZ e94 V_row (v := (.double d0)) (j := (0 : Int32)) 0 (by decide) rfl (g := (mkF m 382 #[l0, l1, l2, l3, l4, l5, l6, l7, l8, l9, l10, l11, l12, l13, l14, l15, l16, l17, l18, l19, l20, l21, l22, SA a, SA ea, SI 2, SA row, SU] [(.int (0 : Int32)), (.ref row)])) rfl rfl (hb hby at_382)) ?_
    refine Goes.by (T' := T94) (g' := (mkF m 385 #[l0, l1, l2, l3, l4, l5, l6, l7, l8, l9, l10, l11, l12, l13, l14, l15, l16, l17, l18, l19, l20, l21, l22, SA a, SA ea, SI 2, SA row, SU] [(.ref ea), (.double d0)])) (fun _ k => XS.aload X94.here hx rfl (hb hby at_383) rfl rfl k) ?_
    refine Goes.by (T' := T94) (g' := (mkF m 386 #[l0, l1, l2, l3, l4, l5, l6, l7, l8, l9, l10, l11, l12, l13, l14, l15, l16, l17, l18, l19, l20, l21, l22, SA a, SA ea, SI 2, SA row, SU] [(.int (0 : Int32)), (.ref ea), (.double d0)])) (fun _ k => XS.iconst X94.here hx rfl (hb hby at_385)  k) ?_
    refine Goes.by (T' := T94) (g' := (mkF m 387 #[l0, l1, l2, l3, l4, l5, l6, l7, l8, l9, l10, l11, l12, l13, l14, l15, l16, l17, l18, l19, l20, l21, l22, SA a, SA ea, SI 2, SA row, SU] [(.double ev0), (.double d0)])) (ldDS X94 hx hZ e94 V_ea (v := (.double ev0)) (j := (0 : Int32)) 0 (by decide) rfl (g := (mkF m 386 #[l0, l1, l2, l3, l4, l5, l6, l7, l8, l9, l10, l11, l12, l13, l14, l15, l16, l17, l18, l19, l20, l21, l22, SA a, SA ea, SI 2, SA row, SU] [(.int (0 : Int32)), (.ref ea), (.double d0)])) rfl rfl (hb hby at_386)) ?_
    refine Goes.by (T' := T94) (g' := (mkF m 388 #[l0, l1, l2, l3, l4, l5, l6, l7, l8, l9, l10, l11, l12, l13, l14, l15, l16, l17, l18, l19, l20, l21, l22, SA a, SA ea, SI 2, SA row, SU] [(.int (0 : Int32))])) (fun _ k => XS.dcmpS X94.here hx rfl (hb hby at_387) rfl (cmpD_eq Dd0 De0 rfl _) k) ?_
    refine Goes.by (T' := T94) (g' := (mkF m 393 #[l0, l1, l2, l3, l4, l5, l6, l7, l8, l9, l10, l11, l12, l13, l14, l15, l16, l17, l18, l19, l20, l21, l22, SA a, SA ea, SI 2, SA row, SU] [])) (fun _ k => XS.ifYes X94.here hx rfl (pc0 := 388) (pc' := 393) rfl (hb hby at_388) rfl (by decide) (by decide) (by decide) k) ?_
    refine Goes.by (T' := T94) (g' := (mkF m 395 #[l0, l1, l2, l3, l4, l5, l6, l7, l8, l9, l10, l11, l12, l13, l14, l15, l16, l17, l18, l19, l20, l21, l22, SA a, SA ea, SI 2, SA row, SU] [(.int (2 : Int32))])) (fun _ k => XS.iload X94.here hx rfl (hb hby at_393) rfl k) ?_
    refine Goes.by (T' := T94) (g' := (mkF m 396 #[l0, l1, l2, l3, l4, l5, l6, l7, l8, l9, l10, l11, l12, l13, l14, l15, l16, l17, l18, l19, l20, l21, l22, SA a, SA ea, SI 2, SA row, SU] [(.int (1 : Int32)), (.int (2 : Int32))])) (fun _ k => XS.iconst X94.here hx rfl (hb hby at_395)  k) ?_
    refine Goes.by (T' := T94) (g' := (mkF m 399 #[l0, l1, l2, l3, l4, l5, l6, l7, l8, l9, l10, l11, l12, l13, l14, l15, l16, l17, l18, l19, l20, l21, l22, SA a, SA ea, SI 2, SA row, SU] [])) (fun _ k => XS.icmpNo X94.here hx rfl (hb hby at_396) rfl (by decide) k) ?_
    refine Goes.by (T' := T94) (g' := (mkF m 401 #[l0, l1, l2, l3, l4, l5, l6, l7, l8, l9, l10, l11, l12, l13, l14, l15, l16, l17, l18, l19, l20, l21, l22, SA a, SA ea, SI 2, SA row, SU] [(.ref row)])) (fun _ k => XS.aload X94.here hx rfl (hb hby at_399) rfl rfl k) ?_
    refine Goes.by (T' := T94) (g' := (mkF m 402 #[l0, l1, l2, l3, l4, l5, l6, l7, l8, l9, l10, l11, l12, l13, l14, l15, l16, l17, l18, l19, l20, l21, l22, SA a, SA ea, SI 2, SA row, SU] [(.int (1 : Int32)), (.ref row)])) (fun _ k => XS.iconst X94.here hx rfl (hb hby at_401)  k) ?_
    refine Goes.by (T' := T94) (g' := (mkF m 403 #[l0, l1, l2, l3, l4, l5, l6, l7, l8, l9, l10, l11, l12, l13, l14, l15, l16, l17, l18, l19, l20, l21, l22, SA a, SA ea, SI 2, SA row, SU] [(.double d1)])) (ldDS X94 hx hZ e94 V_row (v := (.double d1)) (j := (1 : Int32)) 1 (by decide) rfl (g := (mkF m 402 #[l0, l1, l2, l3, l4, l5, l6, l7, l8, l9, l10, l11, l12, l13, l14, l15, l16, l17, l18, l19, l20, l21, l22, SA a, SA ea, SI 2, SA row, SU] [(.int (1 : Int32)), (.ref row)])) rfl rfl (hb hby at_402)) ?_
    refine Goes.by (T' := T94) (g' := (mkF m 405 #[l0, l1, l2, l3, l4, l5, l6, l7, l8, l9, l10, l11, l12, l13, l14, l15, l16, l17, l18, l19, l20, l21, l22, SA a, SA ea, SI 2, SA row, SU] [(.ref ea), (.double d1)])) (fun _ k => XS.aload X94.here hx rfl (hb hby at_403) rfl rfl k) ?_
    refine Goes.by (T' := T94) (g' := (mkF m 406 #[l0, l1, l2, l3, l4, l5, l6, l7, l8, l9, l10, l11, l12, l13, l14, l15, l16, l17, l18, l19, l20, l21, l22, SA a, SA ea, SI 2, SA row, SU] [(.int (1 : Int32)), (.ref ea), (.double d1)])) (fun _ k => XS.iconst X94.here hx rfl (hb hby at_405)  k) ?_
    refine Goes.by (T' := T94) (g' := (mkF m 407 #[l0, l1, l2, l3, l4, l5, l6, l7, l8, l9, l10, l11, l12, l13, l14, l15, l16, l17, l18, l19, l20, l21, l22, SA a, SA ea, SI 2, SA row, SU] [(.double ev1), (.double d1)])) (ldDS X94 hx hZ e94 V_ea (v := (.double ev1)) (j := (1 : Int32)) 1 (by decide) rfl (g := (mkF m 406 #[l0, l1, l2, l3, l4, l5, l6, l7, l8, l9, l10, l11, l12, l13, l14, l15, l16, l17, l18, l19, l20, l21, l22, SA a, SA ea, SI 2, SA row, SU] [(.int (1 : Int32)), (.ref ea), (.double d1)])) rfl rfl (hb hby at_406)) ?_
    refine Goes.by (T' := T94) (g' := (mkF m 408 #[l0, l1, l2, l3, l4, l5, l6, l7, l8, l9, l10, l11, l12, l13, l14, l15, l16, l17, l18, l19, l20, l21, l22, SA a, SA ea, SI 2, SA row, SU] [(.int (0 : Int32))])) (fun _ k => XS.dcmpS X94.here hx rfl (hb hby at_407) rfl (cmpD_eq Dd1 De1 rfl _) k) ?_
    refine Goes.by (T' := T94) (g' := (mkF m 413 #[l0, l1, l2, l3, l4, l5, l6, l7, l8, l9, l10, l11, l12, l13, l14, l15, l16, l17, l18, l19, l20, l21, l22, SA a, SA ea, SI 2, SA row, SU] [])) (fun _ k => XS.ifYes X94.here hx rfl (pc0 := 408) (pc' := 413) rfl (hb hby at_408) rfl (by decide) (by decide) (by decide) k) ?_
    refine Goes.by (T' := T94) (g' := (mkF m 415 #[l0, l1, l2, l3, l4, l5, l6, l7, l8, l9, l10, l11, l12, l13, l14, l15, l16, l17, l18, l19, l20, l21, l22, SA a, SA ea, SI 2, SA row, SU] [(.int (2 : Int32))])) (fun _ k => XS.iload X94.here hx rfl (hb hby at_413) rfl k) ?_
    refine Goes.by (T' := T94) (g' := (mkF m 416 #[l0, l1, l2, l3, l4, l5, l6, l7, l8, l9, l10, l11, l12, l13, l14, l15, l16, l17, l18, l19, l20, l21, l22, SA a, SA ea, SI 2, SA row, SU] [(.int (2 : Int32)), (.int (2 : Int32))])) (fun _ k => XS.iconst X94.here hx rfl (hb hby at_415)  k) ?_
    refine Goes.by (T' := T94) (g' := (mkF m 433 #[l0, l1, l2, l3, l4, l5, l6, l7, l8, l9, l10, l11, l12, l13, l14, l15, l16, l17, l18, l19, l20, l21, l22, SA a, SA ea, SI 2, SA row, SU] [])) (fun _ k => XS.icmpYes X94.here hx rfl (pc0 := 416) (pc' := 433) rfl (hb hby at_416) rfl (by decide) (by decide) (by decide) k) ?_
    refine Goes.by (T' := T94) (g' := (mkF m 435 #[l0, l1, l2, l3, l4, l5, l6, l7, l8, l9, l10, l11, l12, l13, l14, l15, l16, l17, l18, l19, l20, l21, l22, SA a, SA ea, SI 2, SA row, SU] [(.int (2 : Int32))])) (fun _ k => XS.iload X94.here hx rfl (hb hby at_433) rfl k) ?_
    refine Goes.by (T' := T94) (g' := (mkF m 438 #[l0, l1, l2, l3, l4, l5, l6, l7, l8, l9, l10, l11, l12, l13, l14, l15, l16, l17, l18, l19, l20, l21, l22, SA a, SA ea, SI 2, SA row, SU] [])) (fun _ k => XS.ifNo X94.here hx rfl (hb hby at_435) rfl (by decide) k) ?_
    refine Goes.by (T' := T94) (g' := (mkF m 440 #[l0, l1, l2, l3, l4, l5, l6, l7, l8, l9, l10, l11, l12, l13, l14, l15, l16, l17, l18, l19, l20, l21, l22, SA a, SA ea, SI 2, SA row, SU] [(.ref row)])) (fun _ k => XS.aload X94.here hx rfl (hb hby at_438) rfl rfl k) ?_
    refine Goes.by (T' := T94) (g' := (mkF m 441 #[l0, l1, l2, l3, l4, l5, l6, l7, l8, l9, l10, l11, l12, l13, l14, l15, l16, l17, l18, l19, l20, l21, l22, SA a, SA ea, SI 2, SA row, SU] [(.int (0 : Int32)), (.ref row)])) (fun _ k => XS.iconst X94.here hx rfl (hb hby at_440)  k) ?_
    refine Goes.by (T' := T94) (g' := (mkF m 444 #[l0, l1, l2, l3, l4, l5, l6, l7, l8, l9, l10, l11, l12, l13, l14, l15, l16, l17, l18, l19, l20, l21, l22, SA a, SA ea, SI 2, SA row, SU] [(.double (13830554455654793216 : UInt64)), (.int (0 : Int32)), (.ref row)])) (X94.ldc2DoubleC hx hown (mvT hZ (hw _ (List.mem_of_getElem? (i := 32) rfl))) (g := (mkF m 441 #[l0, l1, l2, l3, l4, l5, l6, l7, l8, l9, l10, l11, l12, l13, l14, l15, l16, l17, l18, l19, l20, l21, l22, SA a, SA ea, SI 2, SA row, SU] [(.int (0 : Int32)), (.ref row)])) rfl (hb hby at_441)) ?_
    obtain ⟨T95, h95, X95, e95, W95, V95, st95⟩ := stDS X94 hx hZ e94 V_row (j := (0 : Int32)) 0 (by decide) (by show 0 < 2; decide) (g := (mkF m 444 #[l0, l1, l2, l3, l4, l5, l6, l7, l8, l9, l10, l11, l12, l13, l14, l15, l16, l17, l18, l19, l20, l21, l22, SA a, SA ea, SI 2, SA row, SU] [(.double (13830554455654793216 : UInt64)), (.int (0 : Int32)), (.ref row)])) rfl rfl (hb hby at_444)
    have N0 := Fr.snoc X95 N0 ge_row
    have EA := EA.wr W95
    have FS := FS.other W95 (Or.inl ne_a_row)
    have FI := FI.other W95 (Or.inl ne_a_row)
    have FN := FN.other W95 (Or.inl ne_a_row)
    have VS := VS.other W95 ne_bq_row
    have VI := VI.other W95 ne_bi_row
    have V_ea := V_ea.other W95 ne_ea_row
    have Z0 := Nat.le_trans Z0 (Nat.le_of_eq W95.size.symm)
    have V_row : Sar Z h95 row .double [(.double (13830554455654793216 : UInt64)), (.double d1)] := V95
    refine Goes.by (T' := T95) (g' := (mkF m 445 #[l0, l1, l2, l3, l4, l5, l6, l7, l8, l9, l10, l11, l12, l13, l14, l15, l16, l17, l18, l19, l20, l21, l22, SA a, SA ea, SI 2, SA row, SU] [])) st95 ?_
    refine Goes.by (T' := T95) (g' := (mkF m 447 #[l0, l1, l2, l3, l4, l5, l6, l7, l8, l9, l10, l11, l12, l13, l14, l15, l16, l17, l18, l19, l20, l21, l22, SA a, SA ea, SI 2, SA row, SU] [(.ref a)])) (fun _ k => XS.aload X95.here hx rfl (hb hby at_445) rfl rfl k) ?_
    obtain ⟨v96, T96, L96, X96, hQ96, st96⟩ := callV X95 hx hZ (y := (⟨"com/example/gibbon/gibbon/analysis/SparseSum", "sums", "()[D"⟩ : MethodName)) hown (hw _ (List.mem_of_getElem? (i := 27) rfl)) (hw _ (List.mem_of_getElem? (i := 28) rfl)) (hw _ (List.mem_of_getElem? (i := 30) rfl)) (hw _ (List.mem_of_getElem? (i := 29) rfl)) (hw _ (List.mem_of_getElem? (i := 31) rfl)) (hw _ (List.mem_of_getElem? (i := 2) rfl)) (by decide) e95 EA (argsL := []) (rest := []) (W := 0) (rm_sums2 l Z a0 hw a bq bi xq yq v0 k0 d0 v1 k1 d1 h95 n0 Z0 EA FS FI FN VS VI ge_a gq gi n4 n2 n5 hy0 hv0 hx0 hy1 hv1 hx1) rfl (by decide) (by decide) (by decide) (by decide) (g := (mkF m 447 #[l0, l1, l2, l3, l4, l5, l6, l7, l8, l9, l10, l11, l12, l13, l14, l15, l16, l17, l18, l19, l20, l21, l22, SA a, SA ea, SI 2, SA row, SU] [(.ref a)])) rfl (by rw [hml]; rfl) (lenOf pd4 rfl) rfl (by show 2 * 0 + _ ≤ _; exact Nat.le_of_eq rfl) (hb hby at_447)
    obtain ⟨again, rfl, V_again, sz96, K96, NL96⟩ := hQ96
    have N0 := Fr.app N0 NL96
    have ne_a_again : a ≠ again := fun q => Nat.lt_irrefl _ (Nat.lt_of_lt_of_le EA.lt (Nat.le_trans sz96 (Nat.le_of_eq q.symm)))
    have ne_bq_again : bq ≠ again := fun q => Nat.lt_irrefl _ (Nat.lt_of_lt_of_le VS.lt (Nat.le_trans sz96 (Nat.le_of_eq q.symm)))
    have ne_bi_again : bi ≠ again := fun q => Nat.lt_irrefl _ (Nat.lt_of_lt_of_le VI.lt (Nat.le_trans sz96 (Nat.le_of_eq q.symm)))
    have ne_ea_again : ea ≠ again := fun q => Nat.lt_irrefl _ (Nat.lt_of_lt_of_le V_ea.lt (Nat.le_trans sz96 (Nat.le_of_eq q.symm)))
    have ne_row_again : row ≠ again := fun q => Nat.lt_irrefl _ (Nat.lt_of_lt_of_le V_row.lt (Nat.le_trans sz96 (Nat.le_of_eq q.symm)))
    have ge_again : n0 ≤ again := Nat.le_trans Z0 sz96
    have e96 : T96.heap = T96.heap := rfl
    have EA := EA.keep K96
    have FS := FS.keep K96 nin0
    have FI := FI.keep K96 nin0
    have FN := FN.keep K96 nin0
    have VS := VS.keep K96 nin0
    have VI := VI.keep K96 nin0
    have V_ea := V_ea.keep K96 nin0
    have V_row := V_row.keep K96 nin0
    have Z0 := Nat.le_trans Z0 K96.1
    refine Goes.by (T' := T96) (g' := (mkF m 450 #[l0, l1, l2, l3, l4, l5, l6, l7, l8, l9, l10, l11, l12, l13, l14, l15, l16, l17, l18, l19, l20, l21, l22, SA a, SA ea, SI 2, SA row, SU] [(.ref again)])) st96 ?_
    refine Goes.by (T' := T96) (g' := (mkF m 452 #[l0, l1, l2, l3, l4, l5, l6, l7, l8, l9, l10, l11, l12, l13, l14, l15, l16, l17, l18, l19, l20, l21, l22, SA a, SA ea, SI 2, SA row, SA again] [])) (fun _ k => XS.astore X96.here hx rfl (hb hby at_450) rfl rfl (l' := #[l0, l1, l2, l3, l4, l5, l6, l7, l8, l9, l10, l11, l12, l13, l14, l15, l16, l17, l18, l19, l20, l21, l22, SA a, SA ea, SI 2, SA row, SA again]) rfl k) ?_
    refine Goes.by (T' := T96) (g' := (mkF m 454 #[l0, l1, l2, l3, l4, l5, l6, l7, l8, l9, l10, l11, l12, l13, l14, l15, l16, l17, l18, l19, l20, l21, l22, SA a, SA ea, SI 2, SA row, SA again] [(.ref again)])) (fun _ k => XS.aload X96.here hx rfl (hb hby at_452) rfl rfl k) ?_
    refine Goes.by (T' := T96) (g' := (mkF m 455 #[l0, l1, l2, l3, l4, l5, l6, l7, l8, l9, l10, l11, l12, l13, l14, l15, l16, l17, l18, l19, l20, l21, l22, SA a, SA ea, SI 2, SA row, SA again] [(.int (2 : Int32))])) (lenS X96 hx hZ e96 V_again (n := (2 : Int32)) rfl (g := (mkF m 454 #[l0, l1, l2, l3, l4, l5, l6, l7, l8, l9, l10, l11, l12, l13, l14, l15, l16, l17, l18, l19, l20, l21, l22, SA a, SA ea, SI 2, SA row, SA again] [(.ref again)])) rfl rfl (hb hby at_454)) ?_
    refine Goes.by (T' := T96) (g' := (mkF m 457 #[l0, l1, l2, l3, l4, l5, l6, l7, l8, l9, l10, l11, l12, l13, l14, l15, l16, l17, l18, l19, l20, l21, l22, SA a, SA ea, SI 2, SA row, SA again] [(.int (2 : Int32)), (.int (2 : Int32))])) (fun _ k => XS.iload X96.here hx rfl (hb hby at_455) rfl k) ?_
    refine Goes.by (T' := T96) (g' := (mkF m 460 #[l0, l1, l2, l3, l4, l5, l6, l7, l8, l9, l10, l11, l12, l13, l14, l15, l16, l17, l18, l19, l20, l21, l22, SA a, SA ea, SI 2, SA row, SA again] [])) (fun _ k => XS.icmpNo X96.here hx rfl (hb hby at_457) rfl (by decide) k) ?_
    refine Goes.by (T' := T96) (g' := (mkF m 462 #[l0, l1, l2, l3, l4, l5, l6, l7, l8, l9, l10, l11, l12, l13, l14, l15, l16, l17, l18, l19, l20, l21, l22, SA a, SA ea, SI 2, SA row, SA again] [(.ref again)])) (fun _ k => XS.aload X96.here hx rfl (hb hby at_460) rfl rfl k) ?_
    refine Goes.by (T' := T96) (g' := (mkF m 463 #[l0, l1, l2, l3, l4, l5, l6, l7, l8, l9, l10, l11, l12, l13, l14, l15, l16, l17, l18, l19, l20, l21, l22, SA a, SA ea, SI 2, SA row, SA again] [(.int (0 : Int32)), (.ref again)])) (fun _ k => XS.iconst X96.here hx rfl (hb hby at_462)  k) ?_
    refine Goes.by (T' := T96) (g' := (mkF m 464 #[l0, l1, l2, l3, l4, l5, l6, l7, l8, l9, l10, l11, l12, l13, l14, l15, l16, l17, l18, l19, l20, l21, l22, SA a, SA ea, SI 2, SA row, SA again] [(.double d0)])) (ldDS X96 hx hZ e96 V_again (v := (.double d0)) (j := (0 : Int32)) 0 (by decide) rfl (g := (mkF m 463 #[l0, l1, l2, l3, l4, l5, l6, l7, l8, l9, l10, l11, l12, l13, l14, l15, l16, l17, l18, l19, l20, l21, l22, SA a, SA ea, SI 2, SA row, SA again] [(.int (0 : Int32)), (.ref again)])) rfl rfl (hb hby at_463)) ?_
    refine Goes.by (T' := T96) (g' := (mkF m 466 #[l0, l1, l2, l3, l4, l5, l6, l7, l8, l9, l10, l11, l12, l13, l14, l15, l16, l17, l18, l19, l20, l21, l22, SA a, SA ea, SI 2, SA row, SA again] [(.ref ea), (.double d0)])) (fun _ k => XS.aload X96.here hx rfl (hb hby at_464) rfl rfl k) ?_
    refine Goes.by (T' := T96) (g' := (mkF m 467 #[l0, l1, l2, l3, l4, l5, l6, l7, l8, l9, l10, l11, l12, l13, l14, l15, l16, l17, l18, l19, l20, l21, l22, SA a, SA ea, SI 2, SA row, SA again] [(.int (0 : Int32)), (.ref ea), (.double d0)])) (fun _ k => XS.iconst X96.here hx rfl (hb hby at_466)  k) ?_
    refine Goes.by (T' := T96) (g' := (mkF m 468 #[l0, l1, l2, l3, l4, l5, l6, l7, l8, l9, l10, l11, l12, l13, l14, l15, l16, l17, l18, l19, l20, l21, l22, SA a, SA ea, SI 2, SA row, SA again] [(.double ev0), (.double d0)])) (ldDS X96 hx hZ e96 V_ea (v := (.double ev0)) (j := (0 : Int32)) 0 (by decide) rfl (g := (mkF m 467 #[l0, l1, l2, l3, l4, l5, l6, l7, l8, l9, l10, l11, l12, l13, l14, l15, l16, l17, l18, l19, l20, l21, l22, SA a, SA ea, SI 2, SA row, SA again] [(.int (0 : Int32)), (.ref ea), (.double d0)])) rfl rfl (hb hby at_467)) ?_
    refine Goes.by (T' := T96) (g' := (mkF m 469 #[l0, l1, l2, l3, l4, l5, l6, l7, l8, l9, l10, l11, l12, l13, l14, l15, l16, l17, l18, l19, l20, l21, l22, SA a, SA ea, SI 2, SA row, SA again] [(.int (0 : Int32))])) (fun _ k => XS.dcmpS X96.here hx rfl (hb hby at_468) rfl (cmpD_eq Dd0 De0 rfl _) k) ?_
    refine Goes.by (T' := T96) (g' := (mkF m 474 #[l0, l1, l2, l3, l4, l5, l6, l7, l8, l9, l10, l11, l12, l13, l14, l15, l16, l17, l18, l19, l20, l21, l22, SA a, SA ea, SI 2, SA row, SA again] [])) (fun _ k => XS.ifYes X96.here hx rfl (pc0 := 469) (pc' := 474) rfl (hb hby at_469) rfl (by decide) (by decide) (by decide) k) ?_
    refine Goes.by (T' := T96) (g' := (mkF m 475 #[l0, l1, l2, l3, l4, l5, l6, l7, l8, l9, l10, l11, l12, l13, l14, l15, l16, l17, l18, l19, l20, l21, l22, SA a, SA ea, SI 2, SA row, SA again] [(.int (1 : Int32))])) (fun _ k => XS.iconst X96.here hx rfl (hb hby at_474)  k) ?_
    exact outZ X96 hx hlk hret (hb hby at_475) (by exact ⟨rfl, N0⟩) (by decide) (by decide)
  have cmp3 : ∀ (a bq bi ea : Addr) (xq yq : List Value) (ev0 ev1 ev2 : UInt64) (v0 : Int32) (k0 : Nat) (d0 : UInt64) (j0 : Int) (v1 : Int32) (k1 : Nat) (d1 : UInt64) (j1 : Int) (v2 : Int32) (k2 : Nat) (d2 : UInt64) (j2 : Int) (l0 l1 l2 l3 l4 l5 l6 l7 l8 l9 l10 l11 l12 l13 l14 l15 l16 l17 l18 l19 l20 l21 l22 : Slot) (tq : UInt64) (Tj97 : State) (hj97 : Heap) (Lj97 : List Loc), Stand p l e room_1 s m #[(.int y0), (.int y1), (.int y2), (.int y3), (.int y4), (.int y5)] below meth c Tj97 Lj97 8 518 → Tj97.heap = hj97 → Fr n0 Lj97 → n0 ≤ hj97.size → Exa Z hj97 a "com/example/gibbon/gibbon/analysis/SparseSum" → Fld Z hj97 a "com/example/gibbon/gibbon/analysis/SparseSum" "sums" "[D" (.ref bq) → Fld Z hj97 a "com/example/gibbon/gibbon/analysis/SparseSum" "indices" "[I" (.ref bi) → Fld Z hj97 a "com/example/gibbon/gibbon/analysis/SparseSum" "size" "I" (.int (3 : Int32)) → Sar Z hj97 bq .double xq → Sar Z hj97 bi .int yq → Sar Z hj97 ea .double [(.double ev0), (.double ev1), (.double ev2)] → n0 ≤ a → n0 ≤ bq → n0 ≤ bi → n0 ≤ ea → a ≠ bq → bq ≠ bi → a ≠ bi → a ≠ ea → bq ≠ ea → bi ≠ ea → yq[0]? = some (Value.int v0) → v0.toInt = k0 → xq[k0]? = some (Value.double d0) → Core.DInt j0 d0 → Core.DInt j0 ev0 → yq[1]? = some (Value.int v1) → v1.toInt = k1 → xq[k1]? = some (Value.double d1) → Core.DInt j1 d1 → Core.DInt j1 ev1 → yq[2]? = some (Value.int v2) → v2.toInt = k2 → xq[k2]? = some (Value.double d2) → Core.DInt j2 d2 → Core.DInt j2 ev2 → Goes p e below (Fin1 below s room_1 (fun v h L => v = some (.int 1) ∧ Fr n0 L)) Tj97 (mkF m 359 #[l0, l1, l2, l3, l4, l5, l6, l7, l8, l9, l10, l11, l12, l13, l14, l15, l16, l17, l18, l19, l20, l21, l22, SA a, SA ea, SI 3, SD tq, S2] [(.ref a)]) := by
    intro a bq bi ea xq yq ev0 ev1 ev2 v0 k0 d0 j0 v1 k1 d1 j1 v2 k2 d2 j2 l0 l1 l2 l3 l4 l5 l6 l7 l8 l9 l10 l11 l12 l13 l14 l15 l16 l17 l18 l19 l20 l21 l22 tq Tj97 hj97 Lj97 Xj97 ej97 N0 Z0 EA FS FI FN VS VI V_ea ge_a gq gi ge_ea n4 n5 n2 n6 n7 n8 hy0 hv0 hx0 Dd0 De0 hy1 hv1 hx1 Dd1 De1 hy2 hv2 hx2 Dd2 De2
    obtain ⟨v98, T98, L98, X98, hQ98, st98⟩ := callV Xj97 hx hZ (y := (⟨"com/example/gibbon/gibbon/analysis/SparseSum", "sums", "()[D"⟩ : MethodName)) hown (hw _ (List.mem_of_getElem? (i := 27) rfl)) (hw _ (List.mem_of_getElem? (i := 28) rfl)) (hw _ (List.mem_of_getElem? (i := 30) rfl)) (hw _ (List.mem_of_getElem? (i := 29) rfl)) (hw _ (List.mem_of_getElem? (i := 31) rfl)) (hw _ (List.mem_of_getElem? (i := 2) rfl)) (by decide) ej97 EA (argsL := []) (rest := []) (W := 0) (rm_sums3 l Z a0 hw a bq bi xq yq v0 k0 d0 v1 k1 d1 v2 k2 d2 hj97 n0 Z0 EA FS FI FN VS VI ge_a gq gi n4 n2 n5 hy0 hv0 hx0 hy1 hv1 hx1 hy2 hv2 hx2) rfl (by decide) (by decide) (by decide) (by decide) (g := (mkF m 359 #[l0, l1, l2, l3, l4, l5, l6, l7, l8, l9, l10, l11, l12, l13, l14, l15, l16, l17, l18, l19, l20, l21, l22, SA a, SA ea, SI 3, SD tq, S2] [(.ref a)])) rfl (by rw [hml]; rfl) (lenOf pd4 rfl) rfl (by show 2 * 0 + _ ≤ _; exact Nat.le_of_eq rfl) (hb hby at_359)
    obtain ⟨row, rfl, V_row, sz98, K98, NL98⟩ := hQ98
    have N0 := Fr.app N0 NL98
    have ne_a_row : a ≠ row := fun q => Nat.lt_irrefl _ (Nat.lt_of_lt_of_le EA.lt (Nat.le_trans sz98 (Nat.le_of_eq q.symm)))
    have ne_bq_row : bq ≠ row := fun q => Nat.lt_irrefl _ (Nat.lt_of_lt_of_le VS.lt (Nat.le_trans sz98 (Nat.le_of_eq q.symm)))
    have ne_bi_row : bi ≠ row := fun q => Nat.lt_irrefl _ (Nat.lt_of_lt_of_le VI.lt (Nat.le_trans sz98 (Nat.le_of_eq q.symm)))
    have ne_ea_row : ea ≠ row := fun q => Nat.lt_irrefl _ (Nat.lt_of_lt_of_le V_ea.lt (Nat.le_trans sz98 (Nat.le_of_eq q.symm)))
    have ge_row : n0 ≤ row := Nat.le_trans Z0 sz98
    have e98 : T98.heap = T98.heap := rfl
    have EA := EA.keep K98
    have FS := FS.keep K98 nin0
    have FI := FI.keep K98 nin0
    have FN := FN.keep K98 nin0
    have VS := VS.keep K98 nin0
    have VI := VI.keep K98 nin0
    have V_ea := V_ea.keep K98 nin0
    have Z0 := Nat.le_trans Z0 K98.1
    refine Goes.by (T' := T98) (g' := (mkF m 362 #[l0, l1, l2, l3, l4, l5, l6, l7, l8, l9, l10, l11, l12, l13, l14, l15, l16, l17, l18, l19, l20, l21, l22, SA a, SA ea, SI 3, SD tq, S2] [(.ref row)])) st98 ?_
    refine Goes.by (T' := T98) (g' := (mkF m 364 #[l0, l1, l2, l3, l4, l5, l6, l7, l8, l9, l10, l11, l12, l13, l14, l15, l16, l17, l18, l19, l20, l21, l22, SA a, SA ea, SI 3, SA row, SU] [])) (fun _ k => XS.astore X98.here hx rfl (hb hby at_362) rfl rfl (l' := #[l0, l1, l2, l3, l4, l5, l6, l7, l8, l9, l10, l11, l12, l13, l14, l15, l16, l17, l18, l19, l20, l21, l22, SA a, SA ea, SI 3, SA row, SU]) rfl k) ?_
    refine Goes.by (T' := T98) (g' := (mkF m 366 #[l0, l1, l2, l3, l4, l5, l6, l7, l8, l9, l10, l11, l12, l13, l14, l15, l16, l17, l18, l19, l20, l21, l22, SA a, SA ea, SI 3, SA row, SU] [(.ref row)])) (fun _ k => XS.aload X98.here hx rfl (hb hby at_364) rfl rfl k) ?_
    refine Goes.by (T' := T98) (g' := (mkF m 367 #[l0, l1, l2, l3, l4, l5, l6, l7, l8, l9, l10, l11, l12, l13, l14, l15, l16, l17, l18, l19, l20, l21, l22, SA a, SA ea, SI 3, SA row, SU] [(.int (3 : Int32))])) (lenS X98 hx hZ e98 V_row (n := (3 : Int32)) rfl (g := (mkF m 366 #[l0, l1, l2, l3, l4, l5, l6, l7, l8, l9, l10, l11, l12, l13, l14, l15, l16, l17, l18, l19, l20, l21, l22, SA a, SA ea, SI 3, SA row, SU] [(.ref row)])) rfl rfl (hb hby at_366)) ?_
    refine Goes.by (T' := T98) (g' := (mkF m 369 #[l0, l1, l2, l3, l4, l5, l6, l7, l8, l9, l10, l11, l12, l13, l14, l15, l16, l17, l18, l19, l20, l21, l22, SA a, SA ea, SI 3, SA row, SU] [(.int (3 : Int32)), (.int (3 : Int32))])) (fun _ k => XS.iload X98.here hx rfl (hb hby at_367) rfl k) ?_
    refine Goes.by (T' := T98) (g' := (mkF m 374 #[l0, l1, l2, l3, l4, l5, l6, l7, l8, l9, l10, l11, l12, l13, l14, l15, l16, l17, l18, l19, l20, l21, l22, SA a, SA ea, SI 3, SA row, SU] [])) (fun _ k => XS.icmpYes X98.here hx rfl (pc0 := 369) (pc' := 374) rfl (hb hby at_369) rfl (by decide) (by decide) (by decide) k) ?_
    refine Goes.by (T' := T98) (g' := (mkF m 376 #[l0, l1, l2, l3, l4, l5, l6, l7, l8, l9, l10, l11, l12, l13, l14, l15, l16, l17, l18, l19, l20, l21, l22, SA a, SA ea, SI 3, SA row, SU] [(.int (3 : Int32))])) (fun _ k => XS.iload X98.here hx rfl (hb hby at_374) rfl k) ?_
    refine Goes.by (T' := T98) (g' := (mkF m 379 #[l0, l1, l2, l3, l4, l5, l6, l7, l8, l9, l10, l11, l12, l13, l14, l15, l16, l17, l18, l19, l20, l21, l22, SA a, SA ea, SI 3, SA row, SU] [])) (fun _ k => XS.ifNo X98.here hx rfl (hb hby at_376) rfl (by decide) k) ?_
    refine Goes.by (T' := T98) (g' := (mkF m 381 #[l0, l1, l2, l3, l4, l5, l6, l7, l8, l9, l10, l11, l12, l13, l14, l15, l16, l17, l18, l19, l20, l21, l22, SA a, SA ea, SI 3, SA row, SU] [(.ref row)])) (fun _ k => XS.aload X98.here hx rfl (hb hby at_379) rfl rfl k) ?_
    refine Goes.by (T' := T98) (g' := (mkF m 382 #[l0, l1, l2, l3, l4, l5, l6, l7, l8, l9, l10, l11, l12, l13, l14, l15, l16, l17, l18, l19, l20, l21, l22, SA a, SA ea, SI 3, SA row, SU] [(.int (0 : Int32)), (.ref row)])) (fun _ k => XS.iconst X98.here hx rfl (hb hby at_381)  k) ?_
    refine Goes.by (T' := T98) (g' := (mkF m 383 #[l0, l1, l2, l3, l4, l5, l6, l7, l8, l9, l10, l11, l12, l13, l14, l15, l16, l17, l18, l19, l20, l21, l22, SA a, SA ea, SI 3, SA row, SU] [(.double d0)])) (ldDS X98 hx hZ e98 V_row (v := (.double d0)) (j := (0 : Int32)) 0 (by decide) rfl (g := (mkF m 382 #[l0, l1, l2, l3, l4, l5, l6, l7, l8, l9, l10, l11, l12, l13, l14, l15, l16, l17, l18, l19, l20, l21, l22, SA a, SA ea, SI 3, SA row, SU] [(.int (0 : Int32)), (.ref row)])) rfl rfl (hb hby at_382)) ?_
    refine Goes.by (T' := T98) (g' := (mkF m 385 #[l0, l1, l2, l3, l4, l5, l6, l7, l8, l9, l10, l11, l12, l13, l14, l15, l16, l17, l18, l19, l20, l21, l22, SA a, SA ea, SI 3, SA row, SU] [(.ref ea), (.double d0)])) (fun _ k => XS.aload X98.here hx rfl (hb hby at_383) rfl rfl k) ?_
    refine Goes.by (T' := T98) (g' := (mkF m 386 #[l0, l1, l2, l3, l4, l5, l6, l7, l8, l9, l10, l11, l12, l13, l14, l15, l16, l17, l18, l19, l20, l21, l22, SA a, SA ea, SI 3, SA row, SU] [(.int (0 : Int32)), (.ref ea), (.double d0)])) (fun _ k => XS.iconst X98.here hx rfl (hb hby at_385)  k) ?_
    refine Goes.by (T' := T98) (g' := (mkF m 387 #[l0, l1, l2, l3, l4, l5, l6, l7, l8, l9, l10, l11, l12, l13, l14, l15, l16, l17, l18, l19, l20, l21, l22, SA a, SA ea, SI 3, SA row, SU] [(.double ev0), (.double d0)])) (ldDS X98 hx hZ e98 V_ea (v := (.double ev0)) (j := (0 : Int32)) 0 (by decide) rfl (g := (mkF m 386 #[l0, l1, l2, l3, l4, l5, l6, l7, l8, l9, l10, l11, l12, l13, l14, l15, l16, l17, l18, l19, l20, l21, l22, SA a, SA ea, SI 3, SA row, SU] [(.int (0 : Int32)), (.ref ea), (.double d0)])) rfl rfl (hb hby at_386)) ?_
    refine Goes.by (T' := T98) (g' := (mkF m 388 #[l0, l1, l2, l3, l4, l5, l6, l7, l8, l9, l10, l11, l12, l13, l14, l15, l16, l17, l18, l19, l20, l21, l22, SA a, SA ea, SI 3, SA row, SU] [(.int (0 : Int32))])) (fun _ k => XS.dcmpS X98.here hx rfl (hb hby at_387) rfl (cmpD_eq Dd0 De0 rfl _) k) ?_
    refine Goes.by (T' := T98) (g' := (mkF m 393 #[l0, l1, l2, l3, l4, l5, l6, l7, l8, l9, l10, l11, l12, l13, l14, l15, l16, l17, l18, l19, l20, l21, l22, SA a, SA ea, SI 3, SA row, SU] [])) (fun _ k => XS.ifYes X98.here hx rfl (pc0 := 388) (pc' := 393) rfl (hb hby at_388) rfl (by decide) (by decide) (by decide) k) ?_
    refine Goes.by (T' := T98) (g' := (mkF m 395 #[l0, l1, l2, l3, l4, l5, l6, l7, l8, l9, l10, l11, l12, l13, l14, l15, l16, l17, l18, l19, l20, l21, l22, SA a, SA ea, SI 3, SA row, SU] [(.int (3 : Int32))])) (fun _ k => XS.iload X98.here hx rfl (hb hby at_393) rfl k) ?_
    refine Goes.by (T' := T98) (g' := (mkF m 396 #[l0, l1, l2, l3, l4, l5, l6, l7, l8, l9, l10, l11, l12, l13, l14, l15, l16, l17, l18, l19, l20, l21, l22, SA a, SA ea, SI 3, SA row, SU] [(.int (1 : Int32)), (.int (3 : Int32))])) (fun _ k => XS.iconst X98.here hx rfl (hb hby at_395)  k) ?_
    refine Goes.by (T' := T98) (g' := (mkF m 399 #[l0, l1, l2, l3, l4, l5, l6, l7, l8, l9, l10, l11, l12, l13, l14, l15, l16, l17, l18, l19, l20, l21, l22, SA a, SA ea, SI 3, SA row, SU] [])) (fun _ k => XS.icmpNo X98.here hx rfl (hb hby at_396) rfl (by decide) k) ?_
    refine Goes.by (T' := T98) (g' := (mkF m 401 #[l0, l1, l2, l3, l4, l5, l6, l7, l8, l9, l10, l11, l12, l13, l14, l15, l16, l17, l18, l19, l20, l21, l22, SA a, SA ea, SI 3, SA row, SU] [(.ref row)])) (fun _ k => XS.aload X98.here hx rfl (hb hby at_399) rfl rfl k) ?_
    refine Goes.by (T' := T98) (g' := (mkF m 402 #[l0, l1, l2, l3, l4, l5, l6, l7, l8, l9, l10, l11, l12, l13, l14, l15, l16, l17, l18, l19, l20, l21, l22, SA a, SA ea, SI 3, SA row, SU] [(.int (1 : Int32)), (.ref row)])) (fun _ k => XS.iconst X98.here hx rfl (hb hby at_401)  k) ?_
    refine Goes.by (T' := T98) (g' := (mkF m 403 #[l0, l1, l2, l3, l4, l5, l6, l7, l8, l9, l10, l11, l12, l13, l14, l15, l16, l17, l18, l19, l20, l21, l22, SA a, SA ea, SI 3, SA row, SU] [(.double d1)])) (ldDS X98 hx hZ e98 V_row (v := (.double d1)) (j := (1 : Int32)) 1 (by decide) rfl (g := (mkF m 402 #[l0, l1, l2, l3, l4, l5, l6, l7, l8, l9, l10, l11, l12, l13, l14, l15, l16, l17, l18, l19, l20, l21, l22, SA a, SA ea, SI 3, SA row, SU] [(.int (1 : Int32)), (.ref row)])) rfl rfl (hb hby at_402)) ?_
    refine Goes.by (T' := T98) (g' := (mkF m 405 #[l0, l1, l2, l3, l4, l5, l6, l7, l8, l9, l10, l11, l12, l13, l14, l15, l16, l17, l18, l19, l20, l21, l22, SA a, SA ea, SI 3, SA row, SU] [(.ref ea), (.double d1)])) (fun _ k => XS.aload X98.here hx rfl (hb hby at_403) rfl rfl k) ?_
    refine Goes.by (T' := T98) (g' := (mkF m 406 #[l0, l1, l2, l3, l4, l5, l6, l7, l8, l9, l10, l11, l12, l13, l14, l15, l16, l17, l18, l19, l20, l21, l22, SA a, SA ea, SI 3, SA row, SU] [(.int (1 : Int32)), (.ref ea), (.double d1)])) (fun _ k => XS.iconst X98.here hx rfl (hb hby at_405)  k) ?_
    refine Goes.by (T' := T98) (g' := (mkF m 407 #[l0, l1, l2, l3, l4, l5, l6, l7, l8, l9, l10, l11, l12, l13, l14, l15, l16, l17, l18, l19, l20, l21, l22, SA a, SA ea, SI 3, SA row, SU] [(.double ev1), (.double d1)])) (ldDS X98 hx hZ e98 V_ea (v := (.double ev1)) (j := (1 : Int32)) 1 (by decide) rfl (g := (mkF m 406 #[l0, l1, l2, l3, l4, l5, l6, l7, l8, l9, l10, l11, l12, l13, l14, l15, l16, l17, l18, l19, l20, l21, l22, SA a, SA ea, SI 3, SA row, SU] [(.int (1 : Int32)), (.ref ea), (.double d1)])) rfl rfl (hb hby at_406)) ?_
    refine Goes.by (T' := T98) (g' := (mkF m 408 #[l0, l1, l2, l3, l4, l5, l6, l7, l8, l9, l10, l11, l12, l13, l14, l15, l16, l17, l18, l19, l20, l21, l22, SA a, SA ea, SI 3, SA row, SU] [(.int (0 : Int32))])) (fun _ k => XS.dcmpS X98.here hx rfl (hb hby at_407) rfl (cmpD_eq Dd1 De1 rfl _) k) ?_
    refine Goes.by (T' := T98) (g' := (mkF m 413 #[l0, l1, l2, l3, l4, l5, l6, l7, l8, l9, l10, l11, l12, l13, l14, l15, l16, l17, l18, l19, l20, l21, l22, SA a, SA ea, SI 3, SA row, SU] [])) (fun _ k => XS.ifYes X98.here hx rfl (pc0 := 408) (pc' := 413) rfl (hb hby at_408) rfl (by decide) (by decide) (by decide) k) ?_
    refine Goes.by (T' := T98) (g' := (mkF m 415 #[l0, l1, l2, l3, l4, l5, l6, l7, l8, l9, l10, l11, l12, l13, l14, l15, l16, l17, l18, l19, l20, l21, l22, SA a, SA ea, SI 3, SA row, SU] [(.int (3 : Int32))])) (fun _ k => XS.iload X98.here hx rfl (hb hby at_413) rfl k) ?_
    refine Goes.by (T' := T98) (g' := (mkF m 416 #[l0, l1, l2, l3, l4, l5, l6, l7, l8, l9, l10, l11, l12, l13, l14, l15, l16, l17, l18, l19, l20, l21, l22, SA a, SA ea, SI 3, SA row, SU] [(.int (2 : Int32)), (.int (3 : Int32))])) (fun _ k => XS.iconst X98.here hx rfl (hb hby at_415)  k) ?_
    refine Goes.by (T' := T98) (g' := (mkF m 419 #[l0, l1, l2, l3, l4, l5, l6, l7, l8, l9, l10, l11, l12, l13, l14, l15, l16, l17, l18, l19, l20, l21, l22, SA a, SA ea, SI 3, SA row, SU] [])) (fun _ k => XS.icmpNo X98.here hx rfl (hb hby at_416) rfl (by decide) k) ?_
    refine Goes.by (T' := T98) (g' := (mkF m 421 #[l0, l1, l2, l3, l4, l5, l6, l7, l8, l9, l10, l11, l12, l13, l14, l15, l16, l17, l18, l19, l20, l21, l22, SA a, SA ea, SI 3, SA row, SU] [(.ref row)])) (fun _ k => XS.aload X98.here hx rfl (hb hby at_419) rfl rfl k) ?_
    refine Goes.by (T' := T98) (g' := (mkF m 422 #[l0, l1, l2, l3, l4, l5, l6, l7, l8, l9, l10, l11, l12, l13, l14, l15, l16, l17, l18, l19, l20, l21, l22, SA a, SA ea, SI 3, SA row, SU] [(.int (2 : Int32)), (.ref row)])) (fun _ k => XS.iconst X98.here hx rfl (hb hby at_421)  k) ?_
    refine Goes.by (T' := T98) (g' := (mkF m 423 #[l0, l1, l2, l3, l4, l5, l6, l7, l8, l9, l10, l11, l12, l13, l14, l15, l16, l17, l18, l19, l20, l21, l22, SA a, SA ea, SI 3, SA row, SU] [(.double d2)])) (ldDS X98 hx hZ e98 V_row (v := (.double d2)) (j := (2 : Int32)) 2 (by decide) rfl (g := (mkF m 422 #[l0, l1, l2, l3, l4, l5, l6, l7, l8, l9, l10, l11, l12, l13, l14, l15, l16, l17, l18, l19, l20, l21, l22, SA a, SA ea, SI 3, SA row, SU] [(.int (2 : Int32)), (.ref row)])) rfl rfl (hb hby at_422)) ?_
    refine Goes.by (T' := T98) (g' := (mkF m 425 #[l0, l1, l2, l3, l4, l5, l6, l7, l8, l9, l10, l11, l12, l13, l14, l15, l16, l17, l18, l19, l20, l21, l22, SA a, SA ea, SI 3, SA row, SU] [(.ref ea), (.double d2)])) (fun _ k => XS.aload X98.here hx rfl (hb hby at_423) rfl rfl k) ?_
    refine Goes.by (T' := T98) (g' := (mkF m 426 #[l0, l1, l2, l3, l4, l5, l6, l7, l8, l9, l10, l11, l12, l13, l14, l15, l16, l17, l18, l19, l20, l21, l22, SA a, SA ea, SI 3, SA row, SU] [(.int (2 : Int32)), (.ref ea), (.double d2)])) (fun _ k => XS.iconst X98.here hx rfl (hb hby at_425)  k) ?_
    refine Goes.by (T' := T98) (g' := (mkF m 427 #[l0, l1, l2, l3, l4, l5, l6, l7, l8, l9, l10, l11, l12, l13, l14, l15, l16, l17, l18, l19, l20, l21, l22, SA a, SA ea, SI 3, SA row, SU] [(.double ev2), (.double d2)])) (ldDS X98 hx hZ e98 V_ea (v := (.double ev2)) (j := (2 : Int32)) 2 (by decide) rfl (g := (mkF m 426 #[l0, l1, l2, l3, l4, l5, l6, l7, l8, l9, l10, l11, l12, l13, l14, l15, l16, l17, l18, l19, l20, l21, l22, SA a, SA ea, SI 3, SA row, SU] [(.int (2 : Int32)), (.ref ea), (.double d2)])) rfl rfl (hb hby at_426)) ?_
    refine Goes.by (T' := T98) (g' := (mkF m 428 #[l0, l1, l2, l3, l4, l5, l6, l7, l8, l9, l10, l11, l12, l13, l14, l15, l16, l17, l18, l19, l20, l21, l22, SA a, SA ea, SI 3, SA row, SU] [(.int (0 : Int32))])) (fun _ k => XS.dcmpS X98.here hx rfl (hb hby at_427) rfl (cmpD_eq Dd2 De2 rfl _) k) ?_
    refine Goes.by (T' := T98) (g' := (mkF m 433 #[l0, l1, l2, l3, l4, l5, l6, l7, l8, l9, l10, l11, l12, l13, l14, l15, l16, l17, l18, l19, l20, l21, l22, SA a, SA ea, SI 3, SA row, SU] [])) (fun _ k => XS.ifYes X98.here hx rfl (pc0 := 428) (pc' := 433) rfl (hb hby at_428) rfl (by decide) (by decide) (by decide) k) ?_
    refine Goes.by (T' := T98) (g' := (mkF m 435 #[l0, l1, l2, l3, l4, l5, l6, l7, l8, l9, l10, l11, l12, l13, l14, l15, l16, l17, l18, l19, l20, l21, l22, SA a, SA ea, SI 3, SA row, SU] [(.int (3 : Int32))])) (fun _ k => XS.iload X98.here hx rfl (hb hby at_433) rfl k) ?_
    refine Goes.by (T' := T98) (g' := (mkF m 438 #[l0, l1, l2, l3, l4, l5, l6, l7, l8, l9, l10, l11, l12, l13, l14, l15, l16, l17, l18, l19, l20, l21, l22, SA a, SA ea, SI 3, SA row, SU] [])) (fun _ k => XS.ifNo X98.here hx rfl (hb hby at_435) rfl (by decide) k) ?_
    refine Goes.by (T' := T98) (g' := (mkF m 440 #[l0, l1, l2, l3, l4, l5, l6, l7, l8, l9, l10, l11, l12, l13, l14, l15, l16, l17, l18, l19, l20, l21, l22, SA a, SA ea, SI 3, SA row, SU] [(.ref row)])) (fun _ k => XS.aload X98.here hx rfl (hb hby at_438) rfl rfl k) ?_
    refine Goes.by (T' := T98) (g' := (mkF m 441 #[l0, l1, l2, l3, l4, l5, l6, l7, l8, l9, l10, l11, l12, l13, l14, l15, l16, l17, l18, l19, l20, l21, l22, SA a, SA ea, SI 3, SA row, SU] [(.int (0 : Int32)), (.ref row)])) (fun _ k => XS.iconst X98.here hx rfl (hb hby at_440)  k) ?_
    refine Goes.by (T' := T98) (g' := (mkF m 444 #[l0, l1, l2, l3, l4, l5, l6, l7, l8, l9, l10, l11, l12, l13, l14, l15, l16, l17, l18, l19, l20, l21, l22, SA a, SA ea, SI 3, SA row, SU] [(.double (13830554455654793216 : UInt64)), (.int (0 : Int32)), (.ref row)])) (X98.ldc2DoubleC hx hown (mvT hZ (hw _ (List.mem_of_getElem? (i := 32) rfl))) (g := (mkF m 441 #[l0, l1, l2, l3, l4, l5, l6, l7, l8, l9, l10, l11, l12, l13, l14, l15, l16, l17, l18, l19, l20, l21, l22, SA a, SA ea, SI 3, SA row, SU] [(.int (0 : Int32)), (.ref row)])) rfl (hb hby at_441)) ?_
    obtain ⟨T99, h99, X99, e99, W99, V99, st99⟩ := stDS X98 hx hZ e98 V_row (j := (0 : Int32)) 0 (by decide) (by show 0 < 3; decide) (g := (mkF m 444 #[l0, l1, l2, l3, l4, l5, l6, l7, l8, l9, l10, l11, l12, l13, l14, l15, l16, l17, l18, l19, l20, l21, l22, SA a, SA ea, SI 3, SA row, SU] [(.double (13830554455654793216 : UInt64)), (.int (0 : Int32)), (.ref row)])) rfl rfl (hb hby at_444)
    have N0 := Fr.snoc X99 N0 ge_row
    have EA := EA.wr W99
    have FS := FS.other W99 (Or.inl ne_a_row)
    have FI := FI.other W99 (Or.inl ne_a_row)
    have FN := FN.other W99 (Or.inl ne_a_row)
    have VS := VS.other W99 ne_bq_row
    have VI := VI.other W99 ne_bi_row
    have V_ea := V_ea.other W99 ne_ea_row
    have Z0 := Nat.le_trans Z0 (Nat.le_of_eq W99.size.symm)
    have V_row : Sar Z h99 row .double [(.double (13830554455654793216 : UInt64)), (.double d1), (.double d2)] := V99
    refine Goes.by (T' := T99) (g' := (mkF m 445 #[l0, l1, l2, l3, l4, l5, l6, l7, l8, l9, l10, l11, l12, l13, l14, l15, l16, l17, l18, l19, l20, l21, l22, SA a, SA ea, SI 3, SA row, SU] [])) st99 ?_
    refine Goes.by (T' := T99) (g' := (mkF m 447 #[l0, l1, l2, l3, l4, l5, l6, l7, l8, l9, l10, l11, l12, l13, l14, l15, l16, l17, l18, l19, l20, l21, l22, SA a, SA ea, SI 3, SA row, SU] [(.ref a)])) (fun _ k => XS.aload X99.here hx rfl (hb hby at_445) rfl rfl k) ?_
    obtain ⟨v100, T100, L100, X100, hQ100, st100⟩ := callV X99 hx hZ (y := (⟨"com/example/gibbon/gibbon/analysis/SparseSum", "sums", "()[D"⟩ : MethodName)) hown (hw _ (List.mem_of_getElem? (i := 27) rfl)) (hw _ (List.mem_of_getElem? (i := 28) rfl)) (hw _ (List.mem_of_getElem? (i := 30) rfl)) (hw _ (List.mem_of_getElem? (i := 29) rfl)) (hw _ (List.mem_of_getElem? (i := 31) rfl)) (hw _ (List.mem_of_getElem? (i := 2) rfl)) (by decide) e99 EA (argsL := []) (rest := []) (W := 0) (rm_sums3 l Z a0 hw a bq bi xq yq v0 k0 d0 v1 k1 d1 v2 k2 d2 h99 n0 Z0 EA FS FI FN VS VI ge_a gq gi n4 n2 n5 hy0 hv0 hx0 hy1 hv1 hx1 hy2 hv2 hx2) rfl (by decide) (by decide) (by decide) (by decide) (g := (mkF m 447 #[l0, l1, l2, l3, l4, l5, l6, l7, l8, l9, l10, l11, l12, l13, l14, l15, l16, l17, l18, l19, l20, l21, l22, SA a, SA ea, SI 3, SA row, SU] [(.ref a)])) rfl (by rw [hml]; rfl) (lenOf pd4 rfl) rfl (by show 2 * 0 + _ ≤ _; exact Nat.le_of_eq rfl) (hb hby at_447)
    obtain ⟨again, rfl, V_again, sz100, K100, NL100⟩ := hQ100
    have N0 := Fr.app N0 NL100
    have ne_a_again : a ≠ again := fun q => Nat.lt_irrefl _ (Nat.lt_of_lt_of_le EA.lt (Nat.le_trans sz100 (Nat.le_of_eq q.symm)))
    have ne_bq_again : bq ≠ again := fun q => Nat.lt_irrefl _ (Nat.lt_of_lt_of_le VS.lt (Nat.le_trans sz100 (Nat.le_of_eq q.symm)))
    have ne_bi_again : bi ≠ again := fun q => Nat.lt_irrefl _ (Nat.lt_of_lt_of_le VI.lt (Nat.le_trans sz100 (Nat.le_of_eq q.symm)))
    have ne_ea_again : ea ≠ again := fun q => Nat.lt_irrefl _ (Nat.lt_of_lt_of_le V_ea.lt (Nat.le_trans sz100 (Nat.le_of_eq q.symm)))
    have ne_row_again : row ≠ again := fun q => Nat.lt_irrefl _ (Nat.lt_of_lt_of_le V_row.lt (Nat.le_trans sz100 (Nat.le_of_eq q.symm)))
    have ge_again : n0 ≤ again := Nat.le_trans Z0 sz100
    have e100 : T100.heap = T100.heap := rfl
    have EA := EA.keep K100
    have FS := FS.keep K100 nin0
    have FI := FI.keep K100 nin0
    have FN := FN.keep K100 nin0
    have VS := VS.keep K100 nin0
    have VI := VI.keep K100 nin0
    have V_ea := V_ea.keep K100 nin0
    have V_row := V_row.keep K100 nin0
    have Z0 := Nat.le_trans Z0 K100.1
    refine Goes.by (T' := T100) (g' := (mkF m 450 #[l0, l1, l2, l3, l4, l5, l6, l7, l8, l9, l10, l11, l12, l13, l14, l15, l16, l17, l18, l19, l20, l21, l22, SA a, SA ea, SI 3, SA row, SU] [(.ref again)])) st100 ?_
    refine Goes.by (T' := T100) (g' := (mkF m 452 #[l0, l1, l2, l3, l4, l5, l6, l7, l8, l9, l10, l11, l12, l13, l14, l15, l16, l17, l18, l19, l20, l21, l22, SA a, SA ea, SI 3, SA row, SA again] [])) (fun _ k => XS.astore X100.here hx rfl (hb hby at_450) rfl rfl (l' := #[l0, l1, l2, l3, l4, l5, l6, l7, l8, l9, l10, l11, l12, l13, l14, l15, l16, l17, l18, l19, l20, l21, l22, SA a, SA ea, SI 3, SA row, SA again]) rfl k) ?_
    refine Goes.by (T' := T100) (g' := (mkF m 454 #[l0, l1, l2, l3, l4, l5, l6, l7, l8, l9, l10, l11, l12, l13, l14, l15, l16, l17, l18, l19, l20, l21, l22, SA a, SA ea, SI 3, SA row, SA again] [(.ref again)])) (fun _ k => XS.aload X100.here hx rfl (hb hby at_452) rfl rfl k) ?_
    refine Goes.by (T' := T100) (g' := (mkF m 455 #[l0, l1, l2, l3, l4, l5, l6, l7, l8, l9, l10, l11, l12, l13, l14, l15, l16, l17, l18, l19, l20, l21, l22, SA a, SA ea, SI 3, SA row, SA again] [(.int (3 : Int32))])) (lenS X100 hx hZ e100 V_again (n := (3 : Int32)) rfl (g := (mkF m 454 #[l0, l1, l2, l3, l4, l5, l6, l7, l8, l9, l10, l11, l12, l13, l14, l15, l16, l17, l18, l19, l20, l21, l22, SA a, SA ea, SI 3, SA row, SA again] [(.ref again)])) rfl rfl (hb hby at_454)) ?_
    refine Goes.by (T' := T100) (g' := (mkF m 457 #[l0, l1, l2, l3, l4, l5, l6, l7, l8, l9, l10, l11, l12, l13, l14, l15, l16, l17, l18, l19, l20, l21, l22, SA a, SA ea, SI 3, SA row, SA again] [(.int (3 : Int32)), (.int (3 : Int32))])) (fun _ k => XS.iload X100.here hx rfl (hb hby at_455) rfl k) ?_
    refine Goes.by (T' := T100) (g' := (mkF m 460 #[l0, l1, l2, l3, l4, l5, l6, l7, l8, l9, l10, l11, l12, l13, l14, l15, l16, l17, l18, l19, l20, l21, l22, SA a, SA ea, SI 3, SA row, SA again] [])) (fun _ k => XS.icmpNo X100.here hx rfl (hb hby at_457) rfl (by decide) k) ?_
    refine Goes.by (T' := T100) (g' := (mkF m 462 #[l0, l1, l2, l3, l4, l5, l6, l7, l8, l9, l10, l11, l12, l13, l14, l15, l16, l17, l18, l19, l20, l21, l22, SA a, SA ea, SI 3, SA row, SA again] [(.ref again)])) (fun _ k => XS.aload X100.here hx rfl (hb hby at_460) rfl rfl k) ?_
    refine Goes.by (T' := T100) (g' := (mkF m 463 #[l0, l1, l2, l3, l4, l5, l6, l7, l8, l9, l10, l11, l12, l13, l14, l15, l16, l17, l18, l19, l20, l21, l22, SA a, SA ea, SI 3, SA row, SA again] [(.int (0 : Int32)), (.ref again)])) (fun _ k => XS.iconst X100.here hx rfl (hb hby at_462)  k) ?_
    refine Goes.by (T' := T100) (g' := (mkF m 464 #[l0, l1, l2, l3, l4, l5, l6, l7, l8, l9, l10, l11, l12, l13, l14, l15, l16, l17, l18, l19, l20, l21, l22, SA a, SA ea, SI 3, SA row, SA again] [(.double d0)])) (ldDS X100 hx hZ e100 V_again (v := (.double d0)) (j := (0 : Int32)) 0 (by decide) rfl (g := (mkF m 463 #[l0, l1, l2, l3, l4, l5, l6, l7, l8, l9, l10, l11, l12, l13, l14, l15, l16, l17, l18, l19, l20, l21, l22, SA a, SA ea, SI 3, SA row, SA again] [(.int (0 : Int32)), (.ref again)])) rfl rfl (hb hby at_463)) ?_
    refine Goes.by (T' := T100) (g' := (mkF m 466 #[l0, l1, l2, l3, l4, l5, l6, l7, l8, l9, l10, l11, l12, l13, l14, l15, l16, l17, l18, l19, l20, l21, l22, SA a, SA ea, SI 3, SA row, SA again] [(.ref ea), (.double d0)])) (fun _ k => XS.aload X100.here hx rfl (hb hby at_464) rfl rfl k) ?_
    refine Goes.by (T' := T100) (g' := (mkF m 467 #[l0, l1, l2, l3, l4, l5, l6, l7, l8, l9, l10, l11, l12, l13, l14, l15, l16, l17, l18, l19, l20, l21, l22, SA a, SA ea, SI 3, SA row, SA again] [(.int (0 : Int32)), (.ref ea), (.double d0)])) (fun _ k => XS.iconst X100.here hx rfl (hb hby at_466)  k) ?_
    refine Goes.by (T' := T100) (g' := (mkF m 468 #[l0, l1, l2, l3, l4, l5, l6, l7, l8, l9, l10, l11, l12, l13, l14, l15, l16, l17, l18, l19, l20, l21, l22, SA a, SA ea, SI 3, SA row, SA again] [(.double ev0), (.double d0)])) (ldDS X100 hx hZ e100 V_ea (v := (.double ev0)) (j := (0 : Int32)) 0 (by decide) rfl (g := (mkF m 467 #[l0, l1, l2, l3, l4, l5, l6, l7, l8, l9, l10, l11, l12, l13, l14, l15, l16, l17, l18, l19, l20, l21, l22, SA a, SA ea, SI 3, SA row, SA again] [(.int (0 : Int32)), (.ref ea), (.double d0)])) rfl rfl (hb hby at_467)) ?_
    refine Goes.by (T' := T100) (g' := (mkF m 469 #[l0, l1, l2, l3, l4, l5, l6, l7, l8, l9, l10, l11, l12, l13, l14, l15, l16, l17, l18, l19, l20, l21, l22, SA a, SA ea, SI 3, SA row, SA again] [(.int (0 : Int32))])) (fun _ k => XS.dcmpS X100.here hx rfl (hb hby at_468) rfl (cmpD_eq Dd0 De0 rfl _) k) ?_
    refine Goes.by (T' := T100) (g' := (mkF m 474 #[l0, l1, l2, l3, l4, l5, l6, l7, l8, l9, l10, l11, l12, l13, l14, l15, l16, l17, l18, l19, l20, l21, l22, SA a, SA ea, SI 3, SA row, SA again] [])) (fun _ k => XS.ifYes X100.here hx rfl (pc0 := 469) (pc' := 474) rfl (hb hby at_469) rfl (by decide) (by decide) (by decide) k) ?_
    refine Goes.by (T' := T100) (g' := (mkF m 475 #[l0, l1, l2, l3, l4, l5, l6, l7, l8, l9, l10, l11, l12, l13, l14, l15, l16, l17, l18, l19, l20, l21, l22, SA a, SA ea, SI 3, SA row, SA again] [(.int (1 : Int32))])) (fun _ k => XS.iconst X100.here hx rfl (hb hby at_474)  k) ?_
    exact outZ X100 hx hlk hret (hb hby at_475) (by exact ⟨rfl, N0⟩) (by decide) (by decide)
  refine Goes.by (T' := s₁) (g' := (mkF m 1 #[SI y0, SI y1, SI y2, SI y3, SI y4, SI y5, SU, SU, SU, SU, SU, SU, SU, SU, SU, SU, SU, SU, SU, SU, SU, SU, SU, SU, SU, SU, SU, SU] [(.int y0)])) (fun _ k => XS.iloadN X0.here hx rfl (hb hby at_0) rfl k) ?_
  refine Goes.by (T' := s₁) (g' := (mkF m 3 #[SI y0, SI y1, SI y2, SI y3, SI y4, SI y5, SU, SU, SU, SU, SU, SU, SU, SU, SU, SU, SU, SU, SU, SU, SU, SU, SU, SU, SU, SU, SU, SU] [(.int (67 : Int32)), (.int y0)])) (fun _ k => XS.bipush X0.here hx rfl (hb hby at_1)  k) ?_
  refine Goes.by (T' := s₁) (g' := (mkF m 4 #[SI y0, SI y1, SI y2, SI y3, SI y4, SI y5, SU, SU, SU, SU, SU, SU, SU, SU, SU, SU, SU, SU, SU, SU, SU, SU, SU, SU, SU, SU, SU, SU] [(.int (y0 &&& (67 : Int32)))])) (fun _ k => XS.iand X0.here hx rfl (hb hby at_3) rfl k) ?_
  obtain ⟨ia, q_ia⟩ : ∃ zz : Int32, zz = (y0 &&& (67 : Int32)) := ⟨_, rfl⟩
  rw [← q_ia]
  obtain ⟨ka, hka, hla⟩ : ∃ k : Nat, ia.toInt = k ∧ k < 68 := by rw [q_ia]; exact own_67 _
  refine Goes.by (T' := s₁) (g' := (mkF m 6 #[SI y0, SI y1, SI y2, SI y3, SI y4, SI y5, SI ia, SU, SU, SU, SU, SU, SU, SU, SU, SU, SU, SU, SU, SU, SU, SU, SU, SU, SU, SU, SU, SU] [])) (fun _ k => XS.istore X0.here hx rfl (hb hby at_4) rfl (l' := #[SI y0, SI y1, SI y2, SI y3, SI y4, SI y5, SI ia, SU, SU, SU, SU, SU, SU, SU, SU, SU, SU, SU, SU, SU, SU, SU, SU, SU, SU, SU, SU, SU]) rfl k) ?_
  refine Goes.by (T' := s₁) (g' := (mkF m 7 #[SI y0, SI y1, SI y2, SI y3, SI y4, SI y5, SI ia, SU, SU, SU, SU, SU, SU, SU, SU, SU, SU, SU, SU, SU, SU, SU, SU, SU, SU, SU, SU, SU] [(.int y1)])) (fun _ k => XS.iloadN X0.here hx rfl (hb hby at_6) rfl k) ?_
  refine Goes.by (T' := s₁) (g' := (mkF m 9 #[SI y0, SI y1, SI y2, SI y3, SI y4, SI y5, SI ia, SU, SU, SU, SU, SU, SU, SU, SU, SU, SU, SU, SU, SU, SU, SU, SU, SU, SU, SU, SU, SU] [(.int (67 : Int32)), (.int y1)])) (fun _ k => XS.bipush X0.here hx rfl (hb hby at_7)  k) ?_
  refine Goes.by (T' := s₁) (g' := (mkF m 10 #[SI y0, SI y1, SI y2, SI y3, SI y4, SI y5, SI ia, SU, SU, SU, SU, SU, SU, SU, SU, SU, SU, SU, SU, SU, SU, SU, SU, SU, SU, SU, SU, SU] [(.int (y1 &&& (67 : Int32)))])) (fun _ k => XS.iand X0.here hx rfl (hb hby at_9) rfl k) ?_
  obtain ⟨ib, q_ib⟩ : ∃ zz : Int32, zz = (y1 &&& (67 : Int32)) := ⟨_, rfl⟩
  rw [← q_ib]
  obtain ⟨kb, hkb, hlb⟩ : ∃ k : Nat, ib.toInt = k ∧ k < 68 := by rw [q_ib]; exact own_67 _
  refine Goes.by (T' := s₁) (g' := (mkF m 12 #[SI y0, SI y1, SI y2, SI y3, SI y4, SI y5, SI ia, SI ib, SU, SU, SU, SU, SU, SU, SU, SU, SU, SU, SU, SU, SU, SU, SU, SU, SU, SU, SU, SU] [])) (fun _ k => XS.istore X0.here hx rfl (hb hby at_10) rfl (l' := #[SI y0, SI y1, SI y2, SI y3, SI y4, SI y5, SI ia, SI ib, SU, SU, SU, SU, SU, SU, SU, SU, SU, SU, SU, SU, SU, SU, SU, SU, SU, SU, SU, SU]) rfl k) ?_
  refine Goes.by (T' := s₁) (g' := (mkF m 13 #[SI y0, SI y1, SI y2, SI y3, SI y4, SI y5, SI ia, SI ib, SU, SU, SU, SU, SU, SU, SU, SU, SU, SU, SU, SU, SU, SU, SU, SU, SU, SU, SU, SU] [(.int y2)])) (fun _ k => XS.iloadN X0.here hx rfl (hb hby at_12) rfl k) ?_
  refine Goes.by (T' := s₁) (g' := (mkF m 15 #[SI y0, SI y1, SI y2, SI y3, SI y4, SI y5, SI ia, SI ib, SU, SU, SU, SU, SU, SU, SU, SU, SU, SU, SU, SU, SU, SU, SU, SU, SU, SU, SU, SU] [(.int (67 : Int32)), (.int y2)])) (fun _ k => XS.bipush X0.here hx rfl (hb hby at_13)  k) ?_
  refine Goes.by (T' := s₁) (g' := (mkF m 16 #[SI y0, SI y1, SI y2, SI y3, SI y4, SI y5, SI ia, SI ib, SU, SU, SU, SU, SU, SU, SU, SU, SU, SU, SU, SU, SU, SU, SU, SU, SU, SU, SU, SU] [(.int (y2 &&& (67 : Int32)))])) (fun _ k => XS.iand X0.here hx rfl (hb hby at_15) rfl k) ?_
  obtain ⟨ic, q_ic⟩ : ∃ zz : Int32, zz = (y2 &&& (67 : Int32)) := ⟨_, rfl⟩
  rw [← q_ic]
  obtain ⟨kc, hkc, hlc⟩ : ∃ k : Nat, ic.toInt = k ∧ k < 68 := by rw [q_ic]; exact own_67 _
  refine Goes.by (T' := s₁) (g' := (mkF m 18 #[SI y0, SI y1, SI y2, SI y3, SI y4, SI y5, SI ia, SI ib, SI ic, SU, SU, SU, SU, SU, SU, SU, SU, SU, SU, SU, SU, SU, SU, SU, SU, SU, SU, SU] [])) (fun _ k => XS.istore X0.here hx rfl (hb hby at_16) rfl (l' := #[SI y0, SI y1, SI y2, SI y3, SI y4, SI y5, SI ia, SI ib, SI ic, SU, SU, SU, SU, SU, SU, SU, SU, SU, SU, SU, SU, SU, SU, SU, SU, SU, SU, SU]) rfl k) ?_
  refine Goes.by (T' := s₁) (g' := (mkF m 20 #[SI y0, SI y1, SI y2, SI y3, SI y4, SI y5, SI ia, SI ib, SI ic, SU, SU, SU, SU, SU, SU, SU, SU, SU, SU, SU, SU, SU, SU, SU, SU, SU, SU, SU] [(.int y5)])) (fun _ k => XS.iload X0.here hx rfl (hb hby at_18) rfl k) ?_
  refine Goes.by (T' := s₁) (g' := (mkF m 21 #[SI y0, SI y1, SI y2, SI y3, SI y4, SI y5, SI ia, SI ib, SI ic, SU, SU, SU, SU, SU, SU, SU, SU, SU, SU, SU, SU, SU, SU, SU, SU, SU, SU, SU] [(.int (3 : Int32)), (.int y5)])) (fun _ k => XS.iconst X0.here hx rfl (hb hby at_20)  k) ?_
  refine Goes.by (T' := s₁) (g' := (mkF m 22 #[SI y0, SI y1, SI y2, SI y3, SI y4, SI y5, SI ia, SI ib, SI ic, SU, SU, SU, SU, SU, SU, SU, SU, SU, SU, SU, SU, SU, SU, SU, SU, SU, SU, SU] [(.int (((y5).toUInt32 >>> ((3 : Int32) &&& 31).toUInt32).toInt32))])) (fun _ k => XS.iushr X0.here hx rfl (hb hby at_21) rfl k) ?_
  refine Goes.by (T' := s₁) (g' := (mkF m 24 #[SI y0, SI y1, SI y2, SI y3, SI y4, SI y5, SI ia, SI ib, SI ic, SU, SU, SU, SU, SU, SU, SU, SU, SU, SU, SU, SU, SU, SU, SU, SU, SU, SU, SU] [(.int (67 : Int32)), (.int (((y5).toUInt32 >>> ((3 : Int32) &&& 31).toUInt32).toInt32))])) (fun _ k => XS.bipush X0.here hx rfl (hb hby at_22)  k) ?_
  refine Goes.by (T' := s₁) (g' := (mkF m 25 #[SI y0, SI y1, SI y2, SI y3, SI y4, SI y5, SI ia, SI ib, SI ic, SU, SU, SU, SU, SU, SU, SU, SU, SU, SU, SU, SU, SU, SU, SU, SU, SU, SU, SU] [(.int ((((y5).toUInt32 >>> ((3 : Int32) &&& 31).toUInt32).toInt32) &&& (67 : Int32)))])) (fun _ k => XS.iand X0.here hx rfl (hb hby at_24) rfl k) ?_
  obtain ⟨ip, q_ip⟩ : ∃ zz : Int32, zz = ((((y5).toUInt32 >>> ((3 : Int32) &&& 31).toUInt32).toInt32) &&& (67 : Int32)) := ⟨_, rfl⟩
  rw [← q_ip]
  obtain ⟨kp, hkp, hlp⟩ : ∃ k : Nat, ip.toInt = k ∧ k < 68 := by rw [q_ip]; exact own_67 _
  refine Goes.by (T' := s₁) (g' := (mkF m 27 #[SI y0, SI y1, SI y2, SI y3, SI y4, SI y5, SI ia, SI ib, SI ic, SI ip, SU, SU, SU, SU, SU, SU, SU, SU, SU, SU, SU, SU, SU, SU, SU, SU, SU, SU] [])) (fun _ k => XS.istore X0.here hx rfl (hb hby at_25) rfl (l' := #[SI y0, SI y1, SI y2, SI y3, SI y4, SI y5, SI ia, SI ib, SI ic, SI ip, SU, SU, SU, SU, SU, SU, SU, SU, SU, SU, SU, SU, SU, SU, SU, SU, SU, SU]) rfl k) ?_
  refine Goes.by (T' := s₁) (g' := (mkF m 28 #[SI y0, SI y1, SI y2, SI y3, SI y4, SI y5, SI ia, SI ib, SI ic, SI ip, SU, SU, SU, SU, SU, SU, SU, SU, SU, SU, SU, SU, SU, SU, SU, SU, SU, SU] [(.int y3)])) (fun _ k => XS.iloadN X0.here hx rfl (hb hby at_27) rfl k) ?_
  refine Goes.by (T' := s₁) (g' := (mkF m 31 #[SI y0, SI y1, SI y2, SI y3, SI y4, SI y5, SI ia, SI ib, SI ic, SI ip, SU, SU, SU, SU, SU, SU, SU, SU, SU, SU, SU, SU, SU, SU, SU, SU, SU, SU] [(.int (255 : Int32)), (.int y3)])) (fun _ k => XS.sipush X0.here hx rfl (hb hby at_28)  k) ?_
  refine Goes.by (T' := s₁) (g' := (mkF m 32 #[SI y0, SI y1, SI y2, SI y3, SI y4, SI y5, SI ia, SI ib, SI ic, SI ip, SU, SU, SU, SU, SU, SU, SU, SU, SU, SU, SU, SU, SU, SU, SU, SU, SU, SU] [(.int (y3 &&& (255 : Int32)))])) (fun _ k => XS.iand X0.here hx rfl (hb hby at_31) rfl k) ?_
  refine Goes.by (T' := s₁) (g' := (mkF m 33 #[SI y0, SI y1, SI y2, SI y3, SI y4, SI y5, SI ia, SI ib, SI ic, SI ip, SU, SU, SU, SU, SU, SU, SU, SU, SU, SU, SU, SU, SU, SU, SU, SU, SU, SU] [(.int (1 : Int32)), (.int (y3 &&& (255 : Int32)))])) (fun _ k => XS.iconst X0.here hx rfl (hb hby at_32)  k) ?_
  refine Goes.by (T' := s₁) (g' := (mkF m 34 #[SI y0, SI y1, SI y2, SI y3, SI y4, SI y5, SI ia, SI ib, SI ic, SI ip, SU, SU, SU, SU, SU, SU, SU, SU, SU, SU, SU, SU, SU, SU, SU, SU, SU, SU] [(.int ((y3 &&& (255 : Int32)) + (1 : Int32)))])) (fun _ k => XS.iadd X0.here hx rfl (hb hby at_33) rfl k) ?_
  obtain ⟨w0, q_w0⟩ : ∃ zz : Int32, zz = ((y3 &&& (255 : Int32)) + (1 : Int32)) := ⟨_, rfl⟩
  rw [← q_w0]
  have bw0 : 1 ≤ w0.toInt ∧ w0.toInt ≤ 256 := by rw [q_w0]; exact own_255 _
  obtain ⟨z0, q_z0⟩ : ∃ zz, FP.i2d w0 = zz := ⟨_, rfl⟩
  refine Goes.by (T' := s₁) (g' := (mkF m 35 #[SI y0, SI y1, SI y2, SI y3, SI y4, SI y5, SI ia, SI ib, SI ic, SI ip, SU, SU, SU, SU, SU, SU, SU, SU, SU, SU, SU, SU, SU, SU, SU, SU, SU, SU] [(.double z0)])) (fun _ k => XS.i2dS X0.here hx rfl (hb hby at_34) rfl q_z0 k) ?_
  have D_z0 : Core.DInt w0.toInt z0 := DInt_i2d q_z0
  refine Goes.by (T' := s₁) (g' := (mkF m 37 #[SI y0, SI y1, SI y2, SI y3, SI y4, SI y5, SI ia, SI ib, SI ic, SI ip, SD z0, S2, SU, SU, SU, SU, SU, SU, SU, SU, SU, SU, SU, SU, SU, SU, SU, SU] [])) (fun _ k => XS.dstore X0.here hx rfl (hb hby at_35) rfl (l' := #[SI y0, SI y1, SI y2, SI y3, SI y4, SI y5, SI ia, SI ib, SI ic, SI ip, SD z0, S2, SU, SU, SU, SU, SU, SU, SU, SU, SU, SU, SU, SU, SU, SU, SU, SU]) rfl k) ?_
  refine Goes.by (T' := s₁) (g' := (mkF m 38 #[SI y0, SI y1, SI y2, SI y3, SI y4, SI y5, SI ia, SI ib, SI ic, SI ip, SD z0, S2, SU, SU, SU, SU, SU, SU, SU, SU, SU, SU, SU, SU, SU, SU, SU, SU] [(.int y3)])) (fun _ k => XS.iloadN X0.here hx rfl (hb hby at_37) rfl k) ?_
  refine Goes.by (T' := s₁) (g' := (mkF m 40 #[SI y0, SI y1, SI y2, SI y3, SI y4, SI y5, SI ia, SI ib, SI ic, SI ip, SD z0, S2, SU, SU, SU, SU, SU, SU, SU, SU, SU, SU, SU, SU, SU, SU, SU, SU] [(.int (8 : Int32)), (.int y3)])) (fun _ k => XS.bipush X0.here hx rfl (hb hby at_38)  k) ?_
  refine Goes.by (T' := s₁) (g' := (mkF m 41 #[SI y0, SI y1, SI y2, SI y3, SI y4, SI y5, SI ia, SI ib, SI ic, SI ip, SD z0, S2, SU, SU, SU, SU, SU, SU, SU, SU, SU, SU, SU, SU, SU, SU, SU, SU] [(.int (((y3).toUInt32 >>> ((8 : Int32) &&& 31).toUInt32).toInt32))])) (fun _ k => XS.iushr X0.here hx rfl (hb hby at_40) rfl k) ?_
  refine Goes.by (T' := s₁) (g' := (mkF m 44 #[SI y0, SI y1, SI y2, SI y3, SI y4, SI y5, SI ia, SI ib, SI ic, SI ip, SD z0, S2, SU, SU, SU, SU, SU, SU, SU, SU, SU, SU, SU, SU, SU, SU, SU, SU] [(.int (255 : Int32)), (.int (((y3).toUInt32 >>> ((8 : Int32) &&& 31).toUInt32).toInt32))])) (fun _ k => XS.sipush X0.here hx rfl (hb hby at_41)  k) ?_
  refine Goes.by (T' := s₁) (g' := (mkF m 45 #[SI y0, SI y1, SI y2, SI y3, SI y4, SI y5, SI ia, SI ib, SI ic, SI ip, SD z0, S2, SU, SU, SU, SU, SU, SU, SU, SU, SU, SU, SU, SU, SU, SU, SU, SU] [(.int ((((y3).toUInt32 >>> ((8 : Int32) &&& 31).toUInt32).toInt32) &&& (255 : Int32)))])) (fun _ k => XS.iand X0.here hx rfl (hb hby at_44) rfl k) ?_
  refine Goes.by (T' := s₁) (g' := (mkF m 46 #[SI y0, SI y1, SI y2, SI y3, SI y4, SI y5, SI ia, SI ib, SI ic, SI ip, SD z0, S2, SU, SU, SU, SU, SU, SU, SU, SU, SU, SU, SU, SU, SU, SU, SU, SU] [(.int (1 : Int32)), (.int ((((y3).toUInt32 >>> ((8 : Int32) &&& 31).toUInt32).toInt32) &&& (255 : Int32)))])) (fun _ k => XS.iconst X0.here hx rfl (hb hby at_45)  k) ?_
  refine Goes.by (T' := s₁) (g' := (mkF m 47 #[SI y0, SI y1, SI y2, SI y3, SI y4, SI y5, SI ia, SI ib, SI ic, SI ip, SD z0, S2, SU, SU, SU, SU, SU, SU, SU, SU, SU, SU, SU, SU, SU, SU, SU, SU] [(.int (((((y3).toUInt32 >>> ((8 : Int32) &&& 31).toUInt32).toInt32) &&& (255 : Int32)) + (1 : Int32)))])) (fun _ k => XS.iadd X0.here hx rfl (hb hby at_46) rfl k) ?_
  obtain ⟨w1, q_w1⟩ : ∃ zz : Int32, zz = (((((y3).toUInt32 >>> ((8 : Int32) &&& 31).toUInt32).toInt32) &&& (255 : Int32)) + (1 : Int32)) := ⟨_, rfl⟩
  rw [← q_w1]
  have bw1 : 1 ≤ w1.toInt ∧ w1.toInt ≤ 256 := by rw [q_w1]; exact own_255 _
  obtain ⟨z1, q_z1⟩ : ∃ zz, FP.i2d w1 = zz := ⟨_, rfl⟩
  refine Goes.by (T' := s₁) (g' := (mkF m 48 #[SI y0, SI y1, SI y2, SI y3, SI y4, SI y5, SI ia, SI ib, SI ic, SI ip, SD z0, S2, SU, SU, SU, SU, SU, SU, SU, SU, SU, SU, SU, SU, SU, SU, SU, SU] [(.double z1)])) (fun _ k => XS.i2dS X0.here hx rfl (hb hby at_47) rfl q_z1 k) ?_
  have D_z1 : Core.DInt w1.toInt z1 := DInt_i2d q_z1
  refine Goes.by (T' := s₁) (g' := (mkF m 50 #[SI y0, SI y1, SI y2, SI y3, SI y4, SI y5, SI ia, SI ib, SI ic, SI ip, SD z0, S2, SD z1, S2, SU, SU, SU, SU, SU, SU, SU, SU, SU, SU, SU, SU, SU, SU] [])) (fun _ k => XS.dstore X0.here hx rfl (hb hby at_48) rfl (l' := #[SI y0, SI y1, SI y2, SI y3, SI y4, SI y5, SI ia, SI ib, SI ic, SI ip, SD z0, S2, SD z1, S2, SU, SU, SU, SU, SU, SU, SU, SU, SU, SU, SU, SU, SU, SU]) rfl k) ?_
  refine Goes.by (T' := s₁) (g' := (mkF m 51 #[SI y0, SI y1, SI y2, SI y3, SI y4, SI y5, SI ia, SI ib, SI ic, SI ip, SD z0, S2, SD z1, S2, SU, SU, SU, SU, SU, SU, SU, SU, SU, SU, SU, SU, SU, SU] [(.int y3)])) (fun _ k => XS.iloadN X0.here hx rfl (hb hby at_50) rfl k) ?_
  refine Goes.by (T' := s₁) (g' := (mkF m 53 #[SI y0, SI y1, SI y2, SI y3, SI y4, SI y5, SI ia, SI ib, SI ic, SI ip, SD z0, S2, SD z1, S2, SU, SU, SU, SU, SU, SU, SU, SU, SU, SU, SU, SU, SU, SU] [(.int (16 : Int32)), (.int y3)])) (fun _ k => XS.bipush X0.here hx rfl (hb hby at_51)  k) ?_
  refine Goes.by (T' := s₁) (g' := (mkF m 54 #[SI y0, SI y1, SI y2, SI y3, SI y4, SI y5, SI ia, SI ib, SI ic, SI ip, SD z0, S2, SD z1, S2, SU, SU, SU, SU, SU, SU, SU, SU, SU, SU, SU, SU, SU, SU] [(.int (((y3).toUInt32 >>> ((16 : Int32) &&& 31).toUInt32).toInt32))])) (fun _ k => XS.iushr X0.here hx rfl (hb hby at_53) rfl k) ?_
  refine Goes.by (T' := s₁) (g' := (mkF m 57 #[SI y0, SI y1, SI y2, SI y3, SI y4, SI y5, SI ia, SI ib, SI ic, SI ip, SD z0, S2, SD z1, S2, SU, SU, SU, SU, SU, SU, SU, SU, SU, SU, SU, SU, SU, SU] [(.int (255 : Int32)), (.int (((y3).toUInt32 >>> ((16 : Int32) &&& 31).toUInt32).toInt32))])) (fun _ k => XS.sipush X0.here hx rfl (hb hby at_54)  k) ?_
  refine Goes.by (T' := s₁) (g' := (mkF m 58 #[SI y0, SI y1, SI y2, SI y3, SI y4, SI y5, SI ia, SI ib, SI ic, SI ip, SD z0, S2, SD z1, S2, SU, SU, SU, SU, SU, SU, SU, SU, SU, SU, SU, SU, SU, SU] [(.int ((((y3).toUInt32 >>> ((16 : Int32) &&& 31).toUInt32).toInt32) &&& (255 : Int32)))])) (fun _ k => XS.iand X0.here hx rfl (hb hby at_57) rfl k) ?_
  refine Goes.by (T' := s₁) (g' := (mkF m 59 #[SI y0, SI y1, SI y2, SI y3, SI y4, SI y5, SI ia, SI ib, SI ic, SI ip, SD z0, S2, SD z1, S2, SU, SU, SU, SU, SU, SU, SU, SU, SU, SU, SU, SU, SU, SU] [(.int (1 : Int32)), (.int ((((y3).toUInt32 >>> ((16 : Int32) &&& 31).toUInt32).toInt32) &&& (255 : Int32)))])) (fun _ k => XS.iconst X0.here hx rfl (hb hby at_58)  k) ?_
  refine Goes.by (T' := s₁) (g' := (mkF m 60 #[SI y0, SI y1, SI y2, SI y3, SI y4, SI y5, SI ia, SI ib, SI ic, SI ip, SD z0, S2, SD z1, S2, SU, SU, SU, SU, SU, SU, SU, SU, SU, SU, SU, SU, SU, SU] [(.int (((((y3).toUInt32 >>> ((16 : Int32) &&& 31).toUInt32).toInt32) &&& (255 : Int32)) + (1 : Int32)))])) (fun _ k => XS.iadd X0.here hx rfl (hb hby at_59) rfl k) ?_
  obtain ⟨w2, q_w2⟩ : ∃ zz : Int32, zz = (((((y3).toUInt32 >>> ((16 : Int32) &&& 31).toUInt32).toInt32) &&& (255 : Int32)) + (1 : Int32)) := ⟨_, rfl⟩
  rw [← q_w2]
  have bw2 : 1 ≤ w2.toInt ∧ w2.toInt ≤ 256 := by rw [q_w2]; exact own_255 _
  obtain ⟨z2, q_z2⟩ : ∃ zz, FP.i2d w2 = zz := ⟨_, rfl⟩
  refine Goes.by (T' := s₁) (g' := (mkF m 61 #[SI y0, SI y1, SI y2, SI y3, SI y4, SI y5, SI ia, SI ib, SI ic, SI ip, SD z0, S2, SD z1, S2, SU, SU, SU, SU, SU, SU, SU, SU, SU, SU, SU, SU, SU, SU] [(.double z2)])) (fun _ k => XS.i2dS X0.here hx rfl (hb hby at_60) rfl q_z2 k) ?_
  have D_z2 : Core.DInt w2.toInt z2 := DInt_i2d q_z2
  refine Goes.by (T' := s₁) (g' := (mkF m 63 #[SI y0, SI y1, SI y2, SI y3, SI y4, SI y5, SI ia, SI ib, SI ic, SI ip, SD z0, S2, SD z1, S2, SD z2, S2, SU, SU, SU, SU, SU, SU, SU, SU, SU, SU, SU, SU] [])) (fun _ k => XS.dstore X0.here hx rfl (hb hby at_61) rfl (l' := #[SI y0, SI y1, SI y2, SI y3, SI y4, SI y5, SI ia, SI ib, SI ic, SI ip, SD z0, S2, SD z1, S2, SD z2, S2, SU, SU, SU, SU, SU, SU, SU, SU, SU, SU, SU, SU]) rfl k) ?_
  refine Goes.by (T' := s₁) (g' := (mkF m 65 #[SI y0, SI y1, SI y2, SI y3, SI y4, SI y5, SI ia, SI ib, SI ic, SI ip, SD z0, S2, SD z1, S2, SD z2, S2, SU, SU, SU, SU, SU, SU, SU, SU, SU, SU, SU, SU] [(.int y4)])) (fun _ k => XS.iload X0.here hx rfl (hb hby at_63) rfl k) ?_
  refine Goes.by (T' := s₁) (g' := (mkF m 68 #[SI y0, SI y1, SI y2, SI y3, SI y4, SI y5, SI ia, SI ib, SI ic, SI ip, SD z0, S2, SD z1, S2, SD z2, S2, SU, SU, SU, SU, SU, SU, SU, SU, SU, SU, SU, SU] [(.int (255 : Int32)), (.int y4)])) (fun _ k => XS.sipush X0.here hx rfl (hb hby at_65)  k) ?_
  refine Goes.by (T' := s₁) (g' := (mkF m 69 #[SI y0, SI y1, SI y2, SI y3, SI y4, SI y5, SI ia, SI ib, SI ic, SI ip, SD z0, S2, SD z1, S2, SD z2, S2, SU, SU, SU, SU, SU, SU, SU, SU, SU, SU, SU, SU] [(.int (y4 &&& (255 : Int32)))])) (fun _ k => XS.iand X0.here hx rfl (hb hby at_68) rfl k) ?_
  refine Goes.by (T' := s₁) (g' := (mkF m 70 #[SI y0, SI y1, SI y2, SI y3, SI y4, SI y5, SI ia, SI ib, SI ic, SI ip, SD z0, S2, SD z1, S2, SD z2, S2, SU, SU, SU, SU, SU, SU, SU, SU, SU, SU, SU, SU] [(.int (1 : Int32)), (.int (y4 &&& (255 : Int32)))])) (fun _ k => XS.iconst X0.here hx rfl (hb hby at_69)  k) ?_
  refine Goes.by (T' := s₁) (g' := (mkF m 71 #[SI y0, SI y1, SI y2, SI y3, SI y4, SI y5, SI ia, SI ib, SI ic, SI ip, SD z0, S2, SD z1, S2, SD z2, S2, SU, SU, SU, SU, SU, SU, SU, SU, SU, SU, SU, SU] [(.int ((y4 &&& (255 : Int32)) + (1 : Int32)))])) (fun _ k => XS.iadd X0.here hx rfl (hb hby at_70) rfl k) ?_
  obtain ⟨w3, q_w3⟩ : ∃ zz : Int32, zz = ((y4 &&& (255 : Int32)) + (1 : Int32)) := ⟨_, rfl⟩
  rw [← q_w3]
  have bw3 : 1 ≤ w3.toInt ∧ w3.toInt ≤ 256 := by rw [q_w3]; exact own_255 _
  obtain ⟨z3, q_z3⟩ : ∃ zz, FP.i2d w3 = zz := ⟨_, rfl⟩
  refine Goes.by (T' := s₁) (g' := (mkF m 72 #[SI y0, SI y1, SI y2, SI y3, SI y4, SI y5, SI ia, SI ib, SI ic, SI ip, SD z0, S2, SD z1, S2, SD z2, S2, SU, SU, SU, SU, SU, SU, SU, SU, SU, SU, SU, SU] [(.double z3)])) (fun _ k => XS.i2dS X0.here hx rfl (hb hby at_71) rfl q_z3 k) ?_
  have D_z3 : Core.DInt w3.toInt z3 := DInt_i2d q_z3
  refine Goes.by (T' := s₁) (g' := (mkF m 74 #[SI y0, SI y1, SI y2, SI y3, SI y4, SI y5, SI ia, SI ib, SI ic, SI ip, SD z0, S2, SD z1, S2, SD z2, S2, SD z3, S2, SU, SU, SU, SU, SU, SU, SU, SU, SU, SU] [])) (fun _ k => XS.dstore X0.here hx rfl (hb hby at_72) rfl (l' := #[SI y0, SI y1, SI y2, SI y3, SI y4, SI y5, SI ia, SI ib, SI ic, SI ip, SD z0, S2, SD z1, S2, SD z2, S2, SD z3, S2, SU, SU, SU, SU, SU, SU, SU, SU, SU, SU]) rfl k) ?_
  refine Goes.by (T' := s₁) (g' := (mkF m 76 #[SI y0, SI y1, SI y2, SI y3, SI y4, SI y5, SI ia, SI ib, SI ic, SI ip, SD z0, S2, SD z1, S2, SD z2, S2, SD z3, S2, SU, SU, SU, SU, SU, SU, SU, SU, SU, SU] [(.int y5)])) (fun _ k => XS.iload X0.here hx rfl (hb hby at_74) rfl k) ?_
  refine Goes.by (T' := s₁) (g' := (mkF m 77 #[SI y0, SI y1, SI y2, SI y3, SI y4, SI y5, SI ia, SI ib, SI ic, SI ip, SD z0, S2, SD z1, S2, SD z2, S2, SD z3, S2, SU, SU, SU, SU, SU, SU, SU, SU, SU, SU] [(.int (1 : Int32)), (.int y5)])) (fun _ k => XS.iconst X0.here hx rfl (hb hby at_76)  k) ?_
  refine Goes.by (T' := s₁) (g' := (mkF m 78 #[SI y0, SI y1, SI y2, SI y3, SI y4, SI y5, SI ia, SI ib, SI ic, SI ip, SD z0, S2, SD z1, S2, SD z2, S2, SD z3, S2, SU, SU, SU, SU, SU, SU, SU, SU, SU, SU] [(.int (y5 &&& (1 : Int32)))])) (fun _ k => XS.iand X0.here hx rfl (hb hby at_77) rfl k) ?_
  have bf : ∀ P : State → Prop, Goes p e below P s₁ (mkF m 88 #[SI y0, SI y1, SI y2, SI y3, SI y4, SI y5, SI ia, SI ib, SI ic, SI ip, SD z0, S2, SD z1, S2, SD z2, S2, SD z3, S2, SI (own_fl (y5 &&& (1 : Int32))), SU, SU, SU, SU, SU, SU, SU, SU, SU] []) → Goes p e below P s₁ (mkF m 78 #[SI y0, SI y1, SI y2, SI y3, SI y4, SI y5, SI ia, SI ib, SI ic, SI ip, SD z0, S2, SD z1, S2, SD z2, S2, SD z3, S2, SU, SU, SU, SU, SU, SU, SU, SU, SU, SU] [(.int (y5 &&& (1 : Int32)))]) := by
    intro P kk
    by_cases hc : (y5 &&& (1 : Int32)) = (0 : Int32)
    · refine Goes.by (T' := s₁) (g' := (mkF m 85 #[SI y0, SI y1, SI y2, SI y3, SI y4, SI y5, SI ia, SI ib, SI ic, SI ip, SD z0, S2, SD z1, S2, SD z2, S2, SD z3, S2, SU, SU, SU, SU, SU, SU, SU, SU, SU, SU] [])) (fun _ k => XS.ifYes X0.here hx rfl (pc0 := 78) (pc' := 85) rfl (hb hby at_78) rfl ((if0 _ _).trans (teq hc).1) (by decide) (by decide) k) ?_
      refine Goes.by (T' := s₁) (g' := (mkF m 86 #[SI y0, SI y1, SI y2, SI y3, SI y4, SI y5, SI ia, SI ib, SI ic, SI ip, SD z0, S2, SD z1, S2, SD z2, S2, SD z3, S2, SU, SU, SU, SU, SU, SU, SU, SU, SU, SU] [(.int (0 : Int32))])) (fun _ k => XS.iconst X0.here hx rfl (hb hby at_85)  k) ?_
      refine Goes.by (T' := s₁) (g' := (mkF m 88 #[SI y0, SI y1, SI y2, SI y3, SI y4, SI y5, SI ia, SI ib, SI ic, SI ip, SD z0, S2, SD z1, S2, SD z2, S2, SD z3, S2, SI 0, SU, SU, SU, SU, SU, SU, SU, SU, SU] [])) (fun _ k => XS.istore X0.here hx rfl (hb hby at_86) rfl (l' := #[SI y0, SI y1, SI y2, SI y3, SI y4, SI y5, SI ia, SI ib, SI ic, SI ip, SD z0, S2, SD z1, S2, SD z2, S2, SD z3, S2, SI 0, SU, SU, SU, SU, SU, SU, SU, SU, SU]) rfl k) ?_
      rw [own_fl_0 hc] at kk
      exact kk
    · refine Goes.by (T' := s₁) (g' := (mkF m 81 #[SI y0, SI y1, SI y2, SI y3, SI y4, SI y5, SI ia, SI ib, SI ic, SI ip, SD z0, S2, SD z1, S2, SD z2, S2, SD z3, S2, SU, SU, SU, SU, SU, SU, SU, SU, SU, SU] [])) (fun _ k => XS.ifNo X0.here hx rfl (hb hby at_78) rfl ((if0 _ _).trans (feq hc).1) k) ?_
      refine Goes.by (T' := s₁) (g' := (mkF m 82 #[SI y0, SI y1, SI y2, SI y3, SI y4, SI y5, SI ia, SI ib, SI ic, SI ip, SD z0, S2, SD z1, S2, SD z2, S2, SD z3, S2, SU, SU, SU, SU, SU, SU, SU, SU, SU, SU] [(.int (1 : Int32))])) (fun _ k => XS.iconst X0.here hx rfl (hb hby at_81)  k) ?_
      refine Goes.by (T' := s₁) (g' := (mkF m 86 #[SI y0, SI y1, SI y2, SI y3, SI y4, SI y5, SI ia, SI ib, SI ic, SI ip, SD z0, S2, SD z1, S2, SD z2, S2, SD z3, S2, SU, SU, SU, SU, SU, SU, SU, SU, SU, SU] [(.int (1 : Int32))])) (fun _ k => XS.goto X0.here hx rfl (pc0 := 82) (pc' := 86) rfl (hb hby at_82) (by decide) (by decide) k) ?_
      refine Goes.by (T' := s₁) (g' := (mkF m 88 #[SI y0, SI y1, SI y2, SI y3, SI y4, SI y5, SI ia, SI ib, SI ic, SI ip, SD z0, S2, SD z1, S2, SD z2, S2, SD z3, S2, SI 1, SU, SU, SU, SU, SU, SU, SU, SU, SU] [])) (fun _ k => XS.istore X0.here hx rfl (hb hby at_86) rfl (l' := #[SI y0, SI y1, SI y2, SI y3, SI y4, SI y5, SI ia, SI ib, SI ic, SI ip, SD z0, S2, SD z1, S2, SD z2, S2, SD z3, S2, SI 1, SU, SU, SU, SU, SU, SU, SU, SU, SU]) rfl k) ?_
      rw [own_fl_1 hc] at kk
      exact kk
  refine bf _ ?_
  obtain ⟨f0, hf0⟩ : ∃ z, z = own_fl (y5 &&& (1 : Int32)) := ⟨_, rfl⟩
  rw [← hf0]
  refine Goes.by (T' := s₁) (g' := (mkF m 90 #[SI y0, SI y1, SI y2, SI y3, SI y4, SI y5, SI ia, SI ib, SI ic, SI ip, SD z0, S2, SD z1, S2, SD z2, S2, SD z3, S2, SI f0, SU, SU, SU, SU, SU, SU, SU, SU, SU] [(.int y5)])) (fun _ k => XS.iload X0.here hx rfl (hb hby at_88) rfl k) ?_
  refine Goes.by (T' := s₁) (g' := (mkF m 91 #[SI y0, SI y1, SI y2, SI y3, SI y4, SI y5, SI ia, SI ib, SI ic, SI ip, SD z0, S2, SD z1, S2, SD z2, S2, SD z3, S2, SI f0, SU, SU, SU, SU, SU, SU, SU, SU, SU] [(.int (1 : Int32)), (.int y5)])) (fun _ k => XS.iconst X0.here hx rfl (hb hby at_90)  k) ?_
  refine Goes.by (T' := s₁) (g' := (mkF m 92 #[SI y0, SI y1, SI y2, SI y3, SI y4, SI y5, SI ia, SI ib, SI ic, SI ip, SD z0, S2, SD z1, S2, SD z2, S2, SD z3, S2, SI f0, SU, SU, SU, SU, SU, SU, SU, SU, SU] [(.int (((y5).toUInt32 >>> ((1 : Int32) &&& 31).toUInt32).toInt32))])) (fun _ k => XS.iushr X0.here hx rfl (hb hby at_91) rfl k) ?_
  refine Goes.by (T' := s₁) (g' := (mkF m 93 #[SI y0, SI y1, SI y2, SI y3, SI y4, SI y5, SI ia, SI ib, SI ic, SI ip, SD z0, S2, SD z1, S2, SD z2, S2, SD z3, S2, SI f0, SU, SU, SU, SU, SU, SU, SU, SU, SU] [(.int (3 : Int32)), (.int (((y5).toUInt32 >>> ((1 : Int32) &&& 31).toUInt32).toInt32))])) (fun _ k => XS.iconst X0.here hx rfl (hb hby at_92)  k) ?_
  refine Goes.by (T' := s₁) (g' := (mkF m 94 #[SI y0, SI y1, SI y2, SI y3, SI y4, SI y5, SI ia, SI ib, SI ic, SI ip, SD z0, S2, SD z1, S2, SD z2, S2, SD z3, S2, SI f0, SU, SU, SU, SU, SU, SU, SU, SU, SU] [(.int ((((y5).toUInt32 >>> ((1 : Int32) &&& 31).toUInt32).toInt32) &&& (3 : Int32)))])) (fun _ k => XS.iand X0.here hx rfl (hb hby at_93) rfl k) ?_
  obtain ⟨mm, q_mm⟩ : ∃ zz : Int32, zz = ((((y5).toUInt32 >>> ((1 : Int32) &&& 31).toUInt32).toInt32) &&& (3 : Int32)) := ⟨_, rfl⟩
  rw [← q_mm]
  rcases (by rw [q_mm]; exact own_and3 _ : mm = 0 ∨ mm = 1 ∨ mm = 2 ∨ mm = 3) with rfl | rfl | rfl | rfl
  · refine Goes.by (T' := s₁) (g' := (mkF m 96 #[SI y0, SI y1, SI y2, SI y3, SI y4, SI y5, SI ia, SI ib, SI ic, SI ip, SD z0, S2, SD z1, S2, SD z2, S2, SD z3, S2, SI f0, SI 0, SU, SU, SU, SU, SU, SU, SU, SU] [])) (fun _ k => XS.istore X0.here hx rfl (hb hby at_94) rfl (l' := #[SI y0, SI y1, SI y2, SI y3, SI y4, SI y5, SI ia, SI ib, SI ic, SI ip, SD z0, S2, SD z1, S2, SD z2, S2, SD z3, S2, SI f0, SI 0, SU, SU, SU, SU, SU, SU, SU, SU]) rfl k) ?_
    refine Goes.by (T' := s₁) (g' := (mkF m 98 #[SI y0, SI y1, SI y2, SI y3, SI y4, SI y5, SI ia, SI ib, SI ic, SI ip, SD z0, S2, SD z1, S2, SD z2, S2, SD z3, S2, SI f0, SI 0, SU, SU, SU, SU, SU, SU, SU, SU] [(.int (0 : Int32))])) (fun _ k => XS.iload X0.here hx rfl (hb hby at_96) rfl k) ?_
    refine Goes.by (T' := s₁) (g' := (mkF m 99 #[SI y0, SI y1, SI y2, SI y3, SI y4, SI y5, SI ia, SI ib, SI ic, SI ip, SD z0, S2, SD z1, S2, SD z2, S2, SD z3, S2, SI f0, SI 0, SU, SU, SU, SU, SU, SU, SU, SU] [(.int (1 : Int32)), (.int (0 : Int32))])) (fun _ k => XS.iconst X0.here hx rfl (hb hby at_98)  k) ?_
    refine Goes.by (T' := s₁) (g' := (mkF m 106 #[SI y0, SI y1, SI y2, SI y3, SI y4, SI y5, SI ia, SI ib, SI ic, SI ip, SD z0, S2, SD z1, S2, SD z2, S2, SD z3, S2, SI f0, SI 0, SU, SU, SU, SU, SU, SU, SU, SU] [])) (fun _ k => XS.icmpYes X0.here hx rfl (pc0 := 99) (pc' := 106) rfl (hb hby at_99) rfl (by decide) (by decide) (by decide) k) ?_
    refine Goes.by (T' := s₁) (g' := (mkF m 107 #[SI y0, SI y1, SI y2, SI y3, SI y4, SI y5, SI ia, SI ib, SI ic, SI ip, SD z0, S2, SD z1, S2, SD z2, S2, SD z3, S2, SI f0, SI 0, SU, SU, SU, SU, SU, SU, SU, SU] [(.int (0 : Int32))])) (fun _ k => XS.iconst X0.here hx rfl (hb hby at_106)  k) ?_
    refine Goes.by (T' := s₁) (g' := (mkF m 109 #[SI y0, SI y1, SI y2, SI y3, SI y4, SI y5, SI ia, SI ib, SI ic, SI ip, SD z0, S2, SD z1, S2, SD z2, S2, SD z3, S2, SI f0, SI 0, SI 0, SU, SU, SU, SU, SU, SU, SU] [])) (fun _ k => XS.istore X0.here hx rfl (hb hby at_107) rfl (l' := #[SI y0, SI y1, SI y2, SI y3, SI y4, SI y5, SI ia, SI ib, SI ic, SI ip, SD z0, S2, SD z1, S2, SD z2, S2, SD z3, S2, SI f0, SI 0, SI 0, SU, SU, SU, SU, SU, SU, SU]) rfl k) ?_
    refine Goes.by (T' := s₁) (g' := (mkF m 111 #[SI y0, SI y1, SI y2, SI y3, SI y4, SI y5, SI ia, SI ib, SI ic, SI ip, SD z0, S2, SD z1, S2, SD z2, S2, SD z3, S2, SI f0, SI 0, SI 0, SU, SU, SU, SU, SU, SU, SU] [(.int (0 : Int32))])) (fun _ k => XS.iload X0.here hx rfl (hb hby at_109) rfl k) ?_
    refine Goes.by (T' := s₁) (g' := (mkF m 112 #[SI y0, SI y1, SI y2, SI y3, SI y4, SI y5, SI ia, SI ib, SI ic, SI ip, SD z0, S2, SD z1, S2, SD z2, S2, SD z3, S2, SI f0, SI 0, SI 0, SU, SU, SU, SU, SU, SU, SU] [(.int (2 : Int32)), (.int (0 : Int32))])) (fun _ k => XS.iconst X0.here hx rfl (hb hby at_111)  k) ?_
    refine Goes.by (T' := s₁) (g' := (mkF m 119 #[SI y0, SI y1, SI y2, SI y3, SI y4, SI y5, SI ia, SI ib, SI ic, SI ip, SD z0, S2, SD z1, S2, SD z2, S2, SD z3, S2, SI f0, SI 0, SI 0, SU, SU, SU, SU, SU, SU, SU] [])) (fun _ k => XS.icmpYes X0.here hx rfl (pc0 := 112) (pc' := 119) rfl (hb hby at_112) rfl (by decide) (by decide) (by decide) k) ?_
    refine Goes.by (T' := s₁) (g' := (mkF m 120 #[SI y0, SI y1, SI y2, SI y3, SI y4, SI y5, SI ia, SI ib, SI ic, SI ip, SD z0, S2, SD z1, S2, SD z2, S2, SD z3, S2, SI f0, SI 0, SI 0, SU, SU, SU, SU, SU, SU, SU] [(.int (0 : Int32))])) (fun _ k => XS.iconst X0.here hx rfl (hb hby at_119)  k) ?_
    refine Goes.by (T' := s₁) (g' := (mkF m 122 #[SI y0, SI y1, SI y2, SI y3, SI y4, SI y5, SI ia, SI ib, SI ic, SI ip, SD z0, S2, SD z1, S2, SD z2, S2, SD z3, S2, SI f0, SI 0, SI 0, SI 0, SU, SU, SU, SU, SU, SU] [])) (fun _ k => XS.istore X0.here hx rfl (hb hby at_120) rfl (l' := #[SI y0, SI y1, SI y2, SI y3, SI y4, SI y5, SI ia, SI ib, SI ic, SI ip, SD z0, S2, SD z1, S2, SD z2, S2, SD z3, S2, SI f0, SI 0, SI 0, SI 0, SU, SU, SU, SU, SU, SU]) rfl k) ?_
    refine Goes.by (T' := s₁) (g' := (mkF m 124 #[SI y0, SI y1, SI y2, SI y3, SI y4, SI y5, SI ia, SI ib, SI ic, SI ip, SD z0, S2, SD z1, S2, SD z2, S2, SD z3, S2, SI f0, SI 0, SI 0, SI 0, SU, SU, SU, SU, SU, SU] [(.int (0 : Int32))])) (fun _ k => XS.iload X0.here hx rfl (hb hby at_122) rfl k) ?_
    refine Goes.by (T' := s₁) (g' := (mkF m 125 #[SI y0, SI y1, SI y2, SI y3, SI y4, SI y5, SI ia, SI ib, SI ic, SI ip, SD z0, S2, SD z1, S2, SD z2, S2, SD z3, S2, SI f0, SI 0, SI 0, SI 0, SU, SU, SU, SU, SU, SU] [(.int (3 : Int32)), (.int (0 : Int32))])) (fun _ k => XS.iconst X0.here hx rfl (hb hby at_124)  k) ?_
    refine Goes.by (T' := s₁) (g' := (mkF m 132 #[SI y0, SI y1, SI y2, SI y3, SI y4, SI y5, SI ia, SI ib, SI ic, SI ip, SD z0, S2, SD z1, S2, SD z2, S2, SD z3, S2, SI f0, SI 0, SI 0, SI 0, SU, SU, SU, SU, SU, SU] [])) (fun _ k => XS.icmpYes X0.here hx rfl (pc0 := 125) (pc' := 132) rfl (hb hby at_125) rfl (by decide) (by decide) (by decide) k) ?_
    refine Goes.by (T' := s₁) (g' := (mkF m 133 #[SI y0, SI y1, SI y2, SI y3, SI y4, SI y5, SI ia, SI ib, SI ic, SI ip, SD z0, S2, SD z1, S2, SD z2, S2, SD z3, S2, SI f0, SI 0, SI 0, SI 0, SU, SU, SU, SU, SU, SU] [(.int (0 : Int32))])) (fun _ k => XS.iconst X0.here hx rfl (hb hby at_132)  k) ?_
    refine Goes.by (T' := s₁) (g' := (mkF m 135 #[SI y0, SI y1, SI y2, SI y3, SI y4, SI y5, SI ia, SI ib, SI ic, SI ip, SD z0, S2, SD z1, S2, SD z2, S2, SD z3, S2, SI f0, SI 0, SI 0, SI 0, SI 0, SU, SU, SU, SU, SU] [])) (fun _ k => XS.istore X0.here hx rfl (hb hby at_133) rfl (l' := #[SI y0, SI y1, SI y2, SI y3, SI y4, SI y5, SI ia, SI ib, SI ic, SI ip, SD z0, S2, SD z1, S2, SD z2, S2, SD z3, S2, SI f0, SI 0, SI 0, SI 0, SI 0, SU, SU, SU, SU, SU]) rfl k) ?_
    obtain ⟨T101, h101, X101, e101, E101, A101, D101, -, st101⟩ := newO X0 hx hZ hown (hw _ (List.mem_of_getElem? (i := 0) rfl)) (hw _ (List.mem_of_getElem? (i := 1) rfl)) (hw _ (List.mem_of_getElem? (i := 2) rfl)) e0 (g := (mkF m 135 #[SI y0, SI y1, SI y2, SI y3, SI y4, SI y5, SI ia, SI ib, SI ic, SI ip, SD z0, S2, SD z1, S2, SD z2, S2, SD z3, S2, SI f0, SI 0, SI 0, SI 0, SI 0, SU, SU, SU, SU, SU] [])) rfl (hb hby at_135) (by decide) (by decide)
    obtain ⟨a, g101⟩ : ∃ z, z = h0.size := ⟨_, rfl⟩
    rw [← g101] at A101 D101 st101
    have ge_a : n0 ≤ a := Nat.le_trans Z0 (Nat.le_of_eq g101.symm)
    have Z0 := Nat.le_trans Z0 E101.1
    have E_a := A101
    have F_sums_a : Fld Z h101 a "com/example/gibbon/gibbon/analysis/SparseSum" "sums" "[D" .null := D101 (Or.inl (hw _ (List.mem_of_getElem? (i := 11) rfl))) (ty := (.array .double)) (by decide)
    have F_indices_a : Fld Z h101 a "com/example/gibbon/gibbon/analysis/SparseSum" "indices" "[I" .null := D101 (Or.inl (hw _ (List.mem_of_getElem? (i := 14) rfl))) (ty := (.array .int)) (by decide)
    have F_size_a : Fld Z h101 a "com/example/gibbon/gibbon/analysis/SparseSum" "size" "I" (.int (0 : Int32)) := D101 (Or.inl (hw _ (List.mem_of_getElem? (i := 21) rfl))) (ty := .int) (by decide)
    refine Goes.by (T' := T101) (g' := (mkF m 138 #[SI y0, SI y1, SI y2, SI y3, SI y4, SI y5, SI ia, SI ib, SI ic, SI ip, SD z0, S2, SD z1, S2, SD z2, S2, SD z3, S2, SI f0, SI 0, SI 0, SI 0, SI 0, SU, SU, SU, SU, SU] [(.ref a)])) st101 ?_
    refine Goes.by (T' := T101) (g' := (mkF m 139 #[SI y0, SI y1, SI y2, SI y3, SI y4, SI y5, SI ia, SI ib, SI ic, SI ip, SD z0, S2, SD z1, S2, SD z2, S2, SD z3, S2, SI f0, SI 0, SI 0, SI 0, SI 0, SU, SU, SU, SU, SU] [(.ref a), (.ref a)])) (fun _ k => XS.dup X101.here hx rfl (hb hby at_138) rfl rfl k) ?_
    obtain ⟨v102, T102, L102, X102, hQ102, st102⟩ := callI X101 hx hZ (y := (⟨"com/example/gibbon/gibbon/analysis/SparseSum", "<init>", "()V"⟩ : MethodName)) rfl hown (hw _ (List.mem_of_getElem? (i := 3) rfl)) (hw _ (List.mem_of_getElem? (i := 4) rfl)) (hw _ (List.mem_of_getElem? (i := 5) rfl)) (hw _ (List.mem_of_getElem? (i := 2) rfl)) (by decide) e101 (a := a) (argsL := []) (rest := [(.ref a)]) (W := 1) (rm_init l Z a0 hw a h101 n0 Z0 E_a F_sums_a F_indices_a F_size_a ge_a) rfl (by decide) (by decide) (by decide) (by decide) (g := (mkF m 139 #[SI y0, SI y1, SI y2, SI y3, SI y4, SI y5, SI ia, SI ib, SI ic, SI ip, SD z0, S2, SD z1, S2, SD z2, S2, SD z3, S2, SI f0, SI 0, SI 0, SI 0, SI 0, SU, SU, SU, SU, SU] [(.ref a), (.ref a)])) rfl (by rw [hml]; rfl) (lenOf pd2 rfl) rfl (by show 2 * 0 + _ ≤ _; exact Nat.le_of_eq rfl) (hb hby at_139)
    obtain ⟨bs, bi, rfl, EA, FS, FI, FN, VS, VI, gs, gi, n1, n2, n3, K102, NL102⟩ := hQ102
    have N0 := Fr.app N0 NL102
    have e102 : T102.heap = T102.heap := rfl
    have E_a := E_a.keep K102
    have Z0 := Nat.le_trans Z0 K102.1
    refine Goes.by (T' := T102) (g' := (mkF m 142 #[SI y0, SI y1, SI y2, SI y3, SI y4, SI y5, SI ia, SI ib, SI ic, SI ip, SD z0, S2, SD z1, S2, SD z2, S2, SD z3, S2, SI f0, SI 0, SI 0, SI 0, SI 0, SU, SU, SU, SU, SU] [(.ref a)])) st102 ?_
    refine Goes.by (T' := T102) (g' := (mkF m 144 #[SI y0, SI y1, SI y2, SI y3, SI y4, SI y5, SI ia, SI ib, SI ic, SI ip, SD z0, S2, SD z1, S2, SD z2, S2, SD z3, S2, SI f0, SI 0, SI 0, SI 0, SI 0, SA a, SU, SU, SU, SU] [])) (fun _ k => XS.astore X102.here hx rfl (hb hby at_142) rfl rfl (l' := #[SI y0, SI y1, SI y2, SI y3, SI y4, SI y5, SI ia, SI ib, SI ic, SI ip, SD z0, S2, SD z1, S2, SD z2, S2, SD z3, S2, SI f0, SI 0, SI 0, SI 0, SI 0, SA a, SU, SU, SU, SU]) rfl k) ?_
    refine Goes.by (T' := T102) (g' := (mkF m 146 #[SI y0, SI y1, SI y2, SI y3, SI y4, SI y5, SI ia, SI ib, SI ic, SI ip, SD z0, S2, SD z1, S2, SD z2, S2, SD z3, S2, SI f0, SI 0, SI 0, SI 0, SI 0, SA a, SU, SU, SU, SU] [(.int f0)])) (fun _ k => XS.iload X102.here hx rfl (hb hby at_144) rfl k) ?_
    have restU : ∀ (br : Addr) (xr yr : List Value) (l0 l1 l2 l3 l4 l5 l9 l10 l11 l18 l19 : Slot)  (Tj103 : State) (hj103 : Heap) (Lj103 : List Loc), Stand p l e room_1 s m #[(.int y0), (.int y1), (.int y2), (.int y3), (.int y4), (.int y5)] below meth c Tj103 Lj103 4 259 → Tj103.heap = hj103 → Fr n0 Lj103 → n0 ≤ hj103.size → Exa Z hj103 a "com/example/gibbon/gibbon/analysis/SparseSum" → Fld Z hj103 a "com/example/gibbon/gibbon/analysis/SparseSum" "sums" "[D" (.ref br) → Fld Z hj103 a "com/example/gibbon/gibbon/analysis/SparseSum" "indices" "[I" (.ref bi) → Fld Z hj103 a "com/example/gibbon/gibbon/analysis/SparseSum" "size" "I" (.int (0 : Int32)) → Sar Z hj103 br .double xr → Sar Z hj103 bi .int yr → OwnRep (fun _ => 0) [] xr yr 0 → n0 ≤ br → a ≠ br → br ≠ bi → Goes p e below (Fin1 below s room_1 (fun v h L => v = some (.int 1) ∧ Fr n0 L)) Tj103 (mkF m 164 #[l0, l1, l2, l3, l4, l5, SI ia, SI ib, SI ic, l9, l10, l11, SD z1, S2, SD z2, S2, SD z3, S2, l18, l19, SI 0, SI 0, SI 0, SA a, SU, SU, SU, SU] []) := by
      intro br xr yr l0 l1 l2 l3 l4 l5 l9 l10 l11 l18 l19 Tj103 hj103 Lj103 Xj103 ej103 N0 Z0 EA FS FI FN VS VI hR gr n4 n5
      refine Goes.by (T' := Tj103) (g' := (mkF m 166 #[l0, l1, l2, l3, l4, l5, SI ia, SI ib, SI ic, l9, l10, l11, SD z1, S2, SD z2, S2, SD z3, S2, l18, l19, SI 0, SI 0, SI 0, SA a, SU, SU, SU, SU] [(.int (0 : Int32))])) (fun _ k => XS.iload Xj103.here hx rfl (hb hby at_164) rfl k) ?_
      refine Goes.by (T' := Tj103) (g' := (mkF m 179 #[l0, l1, l2, l3, l4, l5, SI ia, SI ib, SI ic, l9, l10, l11, SD z1, S2, SD z2, S2, SD z3, S2, l18, l19, SI 0, SI 0, SI 0, SA a, SU, SU, SU, SU] [])) (fun _ k => XS.ifYes Xj103.here hx rfl (pc0 := 166) (pc' := 179) rfl (hb hby at_166) rfl (by decide) (by decide) (by decide) k) ?_
      refine Goes.by (T' := Tj103) (g' := (mkF m 181 #[l0, l1, l2, l3, l4, l5, SI ia, SI ib, SI ic, l9, l10, l11, SD z1, S2, SD z2, S2, SD z3, S2, l18, l19, SI 0, SI 0, SI 0, SA a, SU, SU, SU, SU] [(.int (0 : Int32))])) (fun _ k => XS.iload Xj103.here hx rfl (hb hby at_179) rfl k) ?_
      refine Goes.by (T' := Tj103) (g' := (mkF m 194 #[l0, l1, l2, l3, l4, l5, SI ia, SI ib, SI ic, l9, l10, l11, SD z1, S2, SD z2, S2, SD z3, S2, l18, l19, SI 0, SI 0, SI 0, SA a, SU, SU, SU, SU] [])) (fun _ k => XS.ifYes Xj103.here hx rfl (pc0 := 181) (pc' := 194) rfl (hb hby at_181) rfl (by decide) (by decide) (by decide) k) ?_
      refine Goes.by (T' := Tj103) (g' := (mkF m 196 #[l0, l1, l2, l3, l4, l5, SI ia, SI ib, SI ic, l9, l10, l11, SD z1, S2, SD z2, S2, SD z3, S2, l18, l19, SI 0, SI 0, SI 0, SA a, SU, SU, SU, SU] [(.int (0 : Int32))])) (fun _ k => XS.iload Xj103.here hx rfl (hb hby at_194) rfl k) ?_
      refine Goes.by (T' := Tj103) (g' := (mkF m 209 #[l0, l1, l2, l3, l4, l5, SI ia, SI ib, SI ic, l9, l10, l11, SD z1, S2, SD z2, S2, SD z3, S2, l18, l19, SI 0, SI 0, SI 0, SA a, SU, SU, SU, SU] [])) (fun _ k => XS.ifYes Xj103.here hx rfl (pc0 := 196) (pc' := 209) rfl (hb hby at_196) rfl (by decide) (by decide) (by decide) k) ?_
      refine Goes.by (T' := Tj103) (g' := (mkF m 210 #[l0, l1, l2, l3, l4, l5, SI ia, SI ib, SI ic, l9, l10, l11, SD z1, S2, SD z2, S2, SD z3, S2, l18, l19, SI 0, SI 0, SI 0, SA a, SU, SU, SU, SU] [(.int (3 : Int32))])) (fun _ k => XS.iconst Xj103.here hx rfl (hb hby at_209)  k) ?_
      obtain ⟨T104, h104, k104, X104, e104, E104, A104, st104⟩ := newP Xj103 hx hZ (hw _ (List.mem_of_getElem? (i := 9) rfl)) ej103 (g := (mkF m 210 #[l0, l1, l2, l3, l4, l5, SI ia, SI ib, SI ic, l9, l10, l11, SD z1, S2, SD z2, S2, SD z3, S2, l18, l19, SI 0, SI 0, SI 0, SA a, SU, SU, SU, SU] [(.int (3 : Int32))])) rfl (hb hby at_210) rfl (by decide) (cap := 3) (by decide) (by decide) (by decide) (by decide)
      obtain ⟨ea, g104⟩ : ∃ z, z = hj103.size := ⟨_, rfl⟩
      rw [← g104] at A104 st104
      have ne_a_ea : a ≠ ea := fun q => Nat.lt_irrefl _ (Nat.lt_of_lt_of_eq EA.lt (g104.symm.trans q.symm))
      have ne_br_ea : br ≠ ea := fun q => Nat.lt_irrefl _ (Nat.lt_of_lt_of_eq VS.lt (g104.symm.trans q.symm))
      have ne_bi_ea : bi ≠ ea := fun q => Nat.lt_irrefl _ (Nat.lt_of_lt_of_eq VI.lt (g104.symm.trans q.symm))
      have ge_ea : n0 ≤ ea := Nat.le_trans Z0 (Nat.le_of_eq g104.symm)
      have EA := EA.ext E104
      have FS := FS.ext E104
      have FI := FI.ext E104
      have FN := FN.ext E104
      have VS := VS.ext E104
      have VI := VI.ext E104
      have Z0 := Nat.le_trans Z0 E104.1
      have V_ea : Sar Z h104 ea .double [(.double (0 : UInt64)), (.double (0 : UInt64)), (.double (0 : UInt64))] := Sar.new (n := 3) A104 (by decide)
      refine Goes.by (T' := T104) (g' := (mkF m 212 #[l0, l1, l2, l3, l4, l5, SI ia, SI ib, SI ic, l9, l10, l11, SD z1, S2, SD z2, S2, SD z3, S2, l18, l19, SI 0, SI 0, SI 0, SA a, SU, SU, SU, SU] [(.ref ea)])) st104 ?_
      refine Goes.by (T' := T104) (g' := (mkF m 214 #[l0, l1, l2, l3, l4, l5, SI ia, SI ib, SI ic, l9, l10, l11, SD z1, S2, SD z2, S2, SD z3, S2, l18, l19, SI 0, SI 0, SI 0, SA a, SA ea, SU, SU, SU] [])) (fun _ k => XS.astore X104.here hx rfl (hb hby at_212) rfl rfl (l' := #[l0, l1, l2, l3, l4, l5, SI ia, SI ib, SI ic, l9, l10, l11, SD z1, S2, SD z2, S2, SD z3, S2, l18, l19, SI 0, SI 0, SI 0, SA a, SA ea, SU, SU, SU]) rfl k) ?_
      refine Goes.by (T' := T104) (g' := (mkF m 215 #[l0, l1, l2, l3, l4, l5, SI ia, SI ib, SI ic, l9, l10, l11, SD z1, S2, SD z2, S2, SD z3, S2, l18, l19, SI 0, SI 0, SI 0, SA a, SA ea, SU, SU, SU] [(.int (0 : Int32))])) (fun _ k => XS.iconst X104.here hx rfl (hb hby at_214)  k) ?_
      refine Goes.by (T' := T104) (g' := (mkF m 217 #[l0, l1, l2, l3, l4, l5, SI ia, SI ib, SI ic, l9, l10, l11, SD z1, S2, SD z2, S2, SD z3, S2, l18, l19, SI 0, SI 0, SI 0, SA a, SA ea, SI 0, SU, SU] [])) (fun _ k => XS.istore X104.here hx rfl (hb hby at_215) rfl (l' := #[l0, l1, l2, l3, l4, l5, SI ia, SI ib, SI ic, l9, l10, l11, SD z1, S2, SD z2, S2, SD z3, S2, l18, l19, SI 0, SI 0, SI 0, SA a, SA ea, SI 0, SU, SU]) rfl k) ?_
      refine Goes.by (T' := T104) (g' := (mkF m 219 #[l0, l1, l2, l3, l4, l5, SI ia, SI ib, SI ic, l9, l10, l11, SD z1, S2, SD z2, S2, SD z3, S2, l18, l19, SI 0, SI 0, SI 0, SA a, SA ea, SI 0, SU, SU] [(.int (0 : Int32))])) (fun _ k => XS.iload X104.here hx rfl (hb hby at_217) rfl k) ?_
      refine Goes.by (T' := T104) (g' := (mkF m 277 #[l0, l1, l2, l3, l4, l5, SI ia, SI ib, SI ic, l9, l10, l11, SD z1, S2, SD z2, S2, SD z3, S2, l18, l19, SI 0, SI 0, SI 0, SA a, SA ea, SI 0, SU, SU] [])) (fun _ k => XS.ifYes X104.here hx rfl (pc0 := 219) (pc' := 277) rfl (hb hby at_219) rfl (by decide) (by decide) (by decide) k) ?_
      refine Goes.by (T' := T104) (g' := (mkF m 279 #[l0, l1, l2, l3, l4, l5, SI ia, SI ib, SI ic, l9, l10, l11, SD z1, S2, SD z2, S2, SD z3, S2, l18, l19, SI 0, SI 0, SI 0, SA a, SA ea, SI 0, SU, SU] [(.int (0 : Int32))])) (fun _ k => XS.iload X104.here hx rfl (hb hby at_277) rfl k) ?_
      refine Goes.by (T' := T104) (g' := (mkF m 325 #[l0, l1, l2, l3, l4, l5, SI ia, SI ib, SI ic, l9, l10, l11, SD z1, S2, SD z2, S2, SD z3, S2, l18, l19, SI 0, SI 0, SI 0, SA a, SA ea, SI 0, SU, SU] [])) (fun _ k => XS.ifYes X104.here hx rfl (pc0 := 279) (pc' := 325) rfl (hb hby at_279) rfl (by decide) (by decide) (by decide) k) ?_
      refine Goes.by (T' := T104) (g' := (mkF m 327 #[l0, l1, l2, l3, l4, l5, SI ia, SI ib, SI ic, l9, l10, l11, SD z1, S2, SD z2, S2, SD z3, S2, l18, l19, SI 0, SI 0, SI 0, SA a, SA ea, SI 0, SU, SU] [(.int (0 : Int32))])) (fun _ k => XS.iload X104.here hx rfl (hb hby at_325) rfl k) ?_
      refine Goes.by (T' := T104) (g' := (mkF m 357 #[l0, l1, l2, l3, l4, l5, SI ia, SI ib, SI ic, l9, l10, l11, SD z1, S2, SD z2, S2, SD z3, S2, l18, l19, SI 0, SI 0, SI 0, SA a, SA ea, SI 0, SU, SU] [])) (fun _ k => XS.ifYes X104.here hx rfl (pc0 := 327) (pc' := 357) rfl (hb hby at_327) rfl (by decide) (by decide) (by decide) k) ?_
      refine Goes.by (T' := T104) (g' := (mkF m 359 #[l0, l1, l2, l3, l4, l5, SI ia, SI ib, SI ic, l9, l10, l11, SD z1, S2, SD z2, S2, SD z3, S2, l18, l19, SI 0, SI 0, SI 0, SA a, SA ea, SI 0, SU, SU] [(.ref a)])) (fun _ k => XS.aload X104.here hx rfl (hb hby at_357) rfl rfl k) ?_
      exact cmp0 a br bi ea _ _ _ _ _  _ _ _ _ _ _ _ _ _ _ _ _ _ _ _ _ _ _ _ _ _ _ _  _ _ _ (X104.wide (fun x hx _ => hx) (by decide) (by decide)) e104 N0 Z0 EA FS FI FN VS VI V_ea ge_a gr gi ge_ea n4 n5 n2 ne_a_ea ne_br_ea ne_bi_ea
    by_cases hd : f0 = (0 : Int32)
    · refine Goes.by (T' := T102) (g' := (mkF m 164 #[SI y0, SI y1, SI y2, SI y3, SI y4, SI y5, SI ia, SI ib, SI ic, SI ip, SD z0, S2, SD z1, S2, SD z2, S2, SD z3, S2, SI f0, SI 0, SI 0, SI 0, SI 0, SA a, SU, SU, SU, SU] [])) (fun _ k => XS.ifYes X102.here hx rfl (pc0 := 146) (pc' := 164) rfl (hb hby at_146) rfl ((if0 _ _).trans (teq hd).1) (by decide) (by decide) k) ?_
      exact restU bs _ _ _ _ _ _ _ _ _ _ _ _ _ _ _ _ (X102.wide (fun x hx _ => hx) (by decide) (by decide)) e102 N0 Z0 EA FS FI FN VS VI OwnRep.start gs n1 n3
    · refine Goes.by (T' := T102) (g' := (mkF m 149 #[SI y0, SI y1, SI y2, SI y3, SI y4, SI y5, SI ia, SI ib, SI ic, SI ip, SD z0, S2, SD z1, S2, SD z2, S2, SD z3, S2, SI f0, SI 0, SI 0, SI 0, SI 0, SA a, SU, SU, SU, SU] [])) (fun _ k => XS.ifNo X102.here hx rfl (hb hby at_146) rfl ((if0 _ _).trans (feq hd).1) k) ?_
      refine Goes.by (T' := T102) (g' := (mkF m 151 #[SI y0, SI y1, SI y2, SI y3, SI y4, SI y5, SI ia, SI ib, SI ic, SI ip, SD z0, S2, SD z1, S2, SD z2, S2, SD z3, S2, SI f0, SI 0, SI 0, SI 0, SI 0, SA a, SU, SU, SU, SU] [(.ref a)])) (fun _ k => XS.aload X102.here hx rfl (hb hby at_149) rfl rfl k) ?_
      refine Goes.by (T' := T102) (g' := (mkF m 153 #[SI y0, SI y1, SI y2, SI y3, SI y4, SI y5, SI ia, SI ib, SI ic, SI ip, SD z0, S2, SD z1, S2, SD z2, S2, SD z3, S2, SI f0, SI 0, SI 0, SI 0, SI 0, SA a, SU, SU, SU, SU] [(.int ip), (.ref a)])) (fun _ k => XS.iload X102.here hx rfl (hb hby at_151) rfl k) ?_
      refine Goes.by (T' := T102) (g' := (mkF m 155 #[SI y0, SI y1, SI y2, SI y3, SI y4, SI y5, SI ia, SI ib, SI ic, SI ip, SD z0, S2, SD z1, S2, SD z2, S2, SD z3, S2, SI f0, SI 0, SI 0, SI 0, SI 0, SA a, SU, SU, SU, SU] [(.double z0), (.int ip), (.ref a)])) (fun _ k => XS.dload X102.here hx rfl (hb hby at_153) rfl k) ?_
      by_cases hp : kp < 64
      · obtain ⟨v105, T105, L105, X105, hQ105, st105⟩ := callV X102 hx hZ (y := (⟨"com/example/gibbon/gibbon/analysis/SparseSum", "add", "(ID)D"⟩ : MethodName)) hown (hw _ (List.mem_of_getElem? (i := 15) rfl)) (hw _ (List.mem_of_getElem? (i := 16) rfl)) (hw _ (List.mem_of_getElem? (i := 18) rfl)) (hw _ (List.mem_of_getElem? (i := 17) rfl)) (hw _ (List.mem_of_getElem? (i := 19) rfl)) (hw _ (List.mem_of_getElem? (i := 2) rfl)) (by decide) e102 EA (argsL := [(.int ip), (.double z0)]) (rest := []) (W := 0) (rm_addN l Z a0 hw a bs bi (0 : Int32) ip kp z0 w0.toInt (fun _ => 0) [] _ _ T102.heap n0 Z0 EA FS FI FN VS VI OwnRep.start hkp (by omega) D_z0 bw0 (by decide) (by decide) ge_a gs gi n1 n2 n3 (by simpa using hp)) rfl (by decide) (by decide) (by decide) (by decide) (g := (mkF m 155 #[SI y0, SI y1, SI y2, SI y3, SI y4, SI y5, SI ia, SI ib, SI ic, SI ip, SD z0, S2, SD z1, S2, SD z2, S2, SD z3, S2, SI f0, SI 0, SI 0, SI 0, SI 0, SA a, SU, SU, SU, SU] [(.double z0), (.int ip), (.ref a)])) rfl (by rw [hml]; rfl) (lenOf pd3 rfl) rfl (by show 2 * 0 + _ ≤ _; exact Nat.le_of_eq rfl) (hb hby at_155)
        obtain ⟨rq, b2, nq, xc, yc, rfl, -, FS, FI, FN, VS, VI, hR, hl2, hpr, g2, n4, n5, K105, NL105⟩ := hQ105
        have N0 := Fr.app N0 NL105
        have e105 : T105.heap = T105.heap := rfl
        have EA := EA.keep K105
        have Z0 := Nat.le_trans Z0 K105.1
        refine Goes.by (T' := T105) (g' := (mkF m 158 #[SI y0, SI y1, SI y2, SI y3, SI y4, SI y5, SI ia, SI ib, SI ic, SI ip, SD z0, S2, SD z1, S2, SD z2, S2, SD z3, S2, SI f0, SI 0, SI 0, SI 0, SI 0, SA a, SU, SU, SU, SU] [(.double rq)])) st105 ?_
        rw [if_pos rfl] at hR
        obtain rfl : nq = (1 : Int32) := Int32.toInt_inj.mp (by rw [hR.2.2.2.2.1]; rfl)
        refine Goes.by (T' := T105) (g' := (mkF m 159 #[SI y0, SI y1, SI y2, SI y3, SI y4, SI y5, SI ia, SI ib, SI ic, SI ip, SD z0, S2, SD z1, S2, SD z2, S2, SD z3, S2, SI f0, SI 0, SI 0, SI 0, SI 0, SA a, SU, SU, SU, SU] [])) (fun _ k => XS.pop2W X105.here hx rfl (hb hby at_158) rfl rfl k) ?_
        refine Goes.by (T' := T105) (g' := (mkF m 161 #[SI y0, SI y1, SI y2, SI y3, SI y4, SI y5, SI ia, SI ib, SI ic, SI ip, SD z0, S2, SD z1, S2, SD z2, S2, SD z3, S2, SI f0, SI 0, SI 0, SI 0, SI 0, SA a, SU, SU, SU, SU] [(.ref a)])) (fun _ k => XS.aload X105.here hx rfl (hb hby at_159) rfl rfl k) ?_
        obtain ⟨v106, T106, L106, X106, hQ106, st106⟩ := callV X105 hx hZ (y := (⟨"com/example/gibbon/gibbon/analysis/SparseSum", "clear", "()V"⟩ : MethodName)) hown (hw _ (List.mem_of_getElem? (i := 22) rfl)) (hw _ (List.mem_of_getElem? (i := 23) rfl)) (hw _ (List.mem_of_getElem? (i := 25) rfl)) (hw _ (List.mem_of_getElem? (i := 24) rfl)) (hw _ (List.mem_of_getElem? (i := 26) rfl)) (hw _ (List.mem_of_getElem? (i := 2) rfl)) (by decide) e105 EA (argsL := []) (rest := []) (W := 0) (rm_clear l Z a0 hw a b2 bi kp w0.toInt xc yc T105.heap n0 Z0 EA FS FI FN VS VI hR ge_a g2 gi n4 n2 n5) rfl (by decide) (by decide) (by decide) (by decide) (g := (mkF m 161 #[SI y0, SI y1, SI y2, SI y3, SI y4, SI y5, SI ia, SI ib, SI ic, SI ip, SD z0, S2, SD z1, S2, SD z2, S2, SD z3, S2, SI f0, SI 0, SI 0, SI 0, SI 0, SA a, SU, SU, SU, SU] [(.ref a)])) rfl (by rw [hml]; rfl) (lenOf pd2 rfl) rfl (by show 2 * 0 + _ ≤ _; exact Nat.le_of_eq rfl) (hb hby at_161)
        obtain ⟨rfl, -, FS, FI, FN, VS, VI, hR2, K106, NL106⟩ := hQ106
        have N0 := Fr.app N0 NL106
        have e106 : T106.heap = T106.heap := rfl
        have EA := EA.keep K106
        have Z0 := Nat.le_trans Z0 K106.1
        refine Goes.by (T' := T106) (g' := (mkF m 164 #[SI y0, SI y1, SI y2, SI y3, SI y4, SI y5, SI ia, SI ib, SI ic, SI ip, SD z0, S2, SD z1, S2, SD z2, S2, SD z3, S2, SI f0, SI 0, SI 0, SI 0, SI 0, SA a, SU, SU, SU, SU] [])) st106 ?_
        have hlen2 := hR.1
        exact restU b2 _ _ _ _ _ _ _ _ _ _ _ _ _ _ _ _ (X106.wide (fun x hx _ => hx) (by decide) (by decide)) e106 N0 Z0 EA FS FI FN VS VI hR2 g2 n4 n5
      · obtain ⟨v107, T107, L107, X107, hQ107, st107⟩ := callV X102 hx hZ (y := (⟨"com/example/gibbon/gibbon/analysis/SparseSum", "add", "(ID)D"⟩ : MethodName)) hown (hw _ (List.mem_of_getElem? (i := 15) rfl)) (hw _ (List.mem_of_getElem? (i := 16) rfl)) (hw _ (List.mem_of_getElem? (i := 18) rfl)) (hw _ (List.mem_of_getElem? (i := 17) rfl)) (hw _ (List.mem_of_getElem? (i := 19) rfl)) (hw _ (List.mem_of_getElem? (i := 2) rfl)) (by decide) e102 EA (argsL := [(.int ip), (.double z0)]) (rest := []) (W := 0) (rm_addU l Z a0 hw a bs bi (0 : Int32) ip kp z0 w0.toInt (fun _ => 0) [] _ _ T102.heap n0 Z0 EA FS FI FN VS VI OwnRep.start hkp (by omega) D_z0 bw0 (by decide) (by decide) ge_a gs gi n1 n2 n3) rfl (by decide) (by decide) (by decide) (by decide) (g := (mkF m 155 #[SI y0, SI y1, SI y2, SI y3, SI y4, SI y5, SI ia, SI ib, SI ic, SI ip, SD z0, S2, SD z1, S2, SD z2, S2, SD z3, S2, SI f0, SI 0, SI 0, SI 0, SI 0, SA a, SU, SU, SU, SU] [(.double z0), (.int ip), (.ref a)])) rfl (by rw [hml]; rfl) (lenOf pd3 rfl) rfl (by show 2 * 0 + _ ≤ _; exact Nat.le_of_eq rfl) (hb hby at_155)
        obtain ⟨rq, b2, nq, xc, yc, rfl, -, FS, FI, FN, VS, VI, hR, hl2, hpr, g2, n4, n5, K107, NL107⟩ := hQ107
        have N0 := Fr.app N0 NL107
        have e107 : T107.heap = T107.heap := rfl
        have EA := EA.keep K107
        have Z0 := Nat.le_trans Z0 K107.1
        refine Goes.by (T' := T107) (g' := (mkF m 158 #[SI y0, SI y1, SI y2, SI y3, SI y4, SI y5, SI ia, SI ib, SI ic, SI ip, SD z0, S2, SD z1, S2, SD z2, S2, SD z3, S2, SI f0, SI 0, SI 0, SI 0, SI 0, SA a, SU, SU, SU, SU] [(.double rq)])) st107 ?_
        rw [if_pos rfl] at hR
        obtain rfl : nq = (1 : Int32) := Int32.toInt_inj.mp (by rw [hR.2.2.2.2.1]; rfl)
        refine Goes.by (T' := T107) (g' := (mkF m 159 #[SI y0, SI y1, SI y2, SI y3, SI y4, SI y5, SI ia, SI ib, SI ic, SI ip, SD z0, S2, SD z1, S2, SD z2, S2, SD z3, S2, SI f0, SI 0, SI 0, SI 0, SI 0, SA a, SU, SU, SU, SU] [])) (fun _ k => XS.pop2W X107.here hx rfl (hb hby at_158) rfl rfl k) ?_
        refine Goes.by (T' := T107) (g' := (mkF m 161 #[SI y0, SI y1, SI y2, SI y3, SI y4, SI y5, SI ia, SI ib, SI ic, SI ip, SD z0, S2, SD z1, S2, SD z2, S2, SD z3, S2, SI f0, SI 0, SI 0, SI 0, SI 0, SA a, SU, SU, SU, SU] [(.ref a)])) (fun _ k => XS.aload X107.here hx rfl (hb hby at_159) rfl rfl k) ?_
        obtain ⟨v108, T108, L108, X108, hQ108, st108⟩ := callV X107 hx hZ (y := (⟨"com/example/gibbon/gibbon/analysis/SparseSum", "clear", "()V"⟩ : MethodName)) hown (hw _ (List.mem_of_getElem? (i := 22) rfl)) (hw _ (List.mem_of_getElem? (i := 23) rfl)) (hw _ (List.mem_of_getElem? (i := 25) rfl)) (hw _ (List.mem_of_getElem? (i := 24) rfl)) (hw _ (List.mem_of_getElem? (i := 26) rfl)) (hw _ (List.mem_of_getElem? (i := 2) rfl)) (by decide) e107 EA (argsL := []) (rest := []) (W := 0) (rm_clear l Z a0 hw a b2 bi kp w0.toInt xc yc T107.heap n0 Z0 EA FS FI FN VS VI hR ge_a g2 gi n4 n2 n5) rfl (by decide) (by decide) (by decide) (by decide) (g := (mkF m 161 #[SI y0, SI y1, SI y2, SI y3, SI y4, SI y5, SI ia, SI ib, SI ic, SI ip, SD z0, S2, SD z1, S2, SD z2, S2, SD z3, S2, SI f0, SI 0, SI 0, SI 0, SI 0, SA a, SU, SU, SU, SU] [(.ref a)])) rfl (by rw [hml]; rfl) (lenOf pd2 rfl) rfl (by show 2 * 0 + _ ≤ _; exact Nat.le_of_eq rfl) (hb hby at_161)
        obtain ⟨rfl, -, FS, FI, FN, VS, VI, hR2, K108, NL108⟩ := hQ108
        have N0 := Fr.app N0 NL108
        have e108 : T108.heap = T108.heap := rfl
        have EA := EA.keep K108
        have Z0 := Nat.le_trans Z0 K108.1
        refine Goes.by (T' := T108) (g' := (mkF m 164 #[SI y0, SI y1, SI y2, SI y3, SI y4, SI y5, SI ia, SI ib, SI ic, SI ip, SD z0, S2, SD z1, S2, SD z2, S2, SD z3, S2, SI f0, SI 0, SI 0, SI 0, SI 0, SA a, SU, SU, SU, SU] [])) st108 ?_
        have hlen2 := hR.1
        exact restU b2 _ _ _ _ _ _ _ _ _ _ _ _ _ _ _ _ (X108.wide (fun x hx _ => hx) (by decide) (by decide)) e108 N0 Z0 EA FS FI FN VS VI hR2 g2 n4 n5
  · refine Goes.by (T' := s₁) (g' := (mkF m 96 #[SI y0, SI y1, SI y2, SI y3, SI y4, SI y5, SI ia, SI ib, SI ic, SI ip, SD z0, S2, SD z1, S2, SD z2, S2, SD z3, S2, SI f0, SI 1, SU, SU, SU, SU, SU, SU, SU, SU] [])) (fun _ k => XS.istore X0.here hx rfl (hb hby at_94) rfl (l' := #[SI y0, SI y1, SI y2, SI y3, SI y4, SI y5, SI ia, SI ib, SI ic, SI ip, SD z0, S2, SD z1, S2, SD z2, S2, SD z3, S2, SI f0, SI 1, SU, SU, SU, SU, SU, SU, SU, SU]) rfl k) ?_
    refine Goes.by (T' := s₁) (g' := (mkF m 98 #[SI y0, SI y1, SI y2, SI y3, SI y4, SI y5, SI ia, SI ib, SI ic, SI ip, SD z0, S2, SD z1, S2, SD z2, S2, SD z3, S2, SI f0, SI 1, SU, SU, SU, SU, SU, SU, SU, SU] [(.int (1 : Int32))])) (fun _ k => XS.iload X0.here hx rfl (hb hby at_96) rfl k) ?_
    refine Goes.by (T' := s₁) (g' := (mkF m 99 #[SI y0, SI y1, SI y2, SI y3, SI y4, SI y5, SI ia, SI ib, SI ic, SI ip, SD z0, S2, SD z1, S2, SD z2, S2, SD z3, S2, SI f0, SI 1, SU, SU, SU, SU, SU, SU, SU, SU] [(.int (1 : Int32)), (.int (1 : Int32))])) (fun _ k => XS.iconst X0.here hx rfl (hb hby at_98)  k) ?_
    refine Goes.by (T' := s₁) (g' := (mkF m 102 #[SI y0, SI y1, SI y2, SI y3, SI y4, SI y5, SI ia, SI ib, SI ic, SI ip, SD z0, S2, SD z1, S2, SD z2, S2, SD z3, S2, SI f0, SI 1, SU, SU, SU, SU, SU, SU, SU, SU] [])) (fun _ k => XS.icmpNo X0.here hx rfl (hb hby at_99) rfl (by decide) k) ?_
    refine Goes.by (T' := s₁) (g' := (mkF m 103 #[SI y0, SI y1, SI y2, SI y3, SI y4, SI y5, SI ia, SI ib, SI ic, SI ip, SD z0, S2, SD z1, S2, SD z2, S2, SD z3, S2, SI f0, SI 1, SU, SU, SU, SU, SU, SU, SU, SU] [(.int (1 : Int32))])) (fun _ k => XS.iconst X0.here hx rfl (hb hby at_102)  k) ?_
    refine Goes.by (T' := s₁) (g' := (mkF m 107 #[SI y0, SI y1, SI y2, SI y3, SI y4, SI y5, SI ia, SI ib, SI ic, SI ip, SD z0, S2, SD z1, S2, SD z2, S2, SD z3, S2, SI f0, SI 1, SU, SU, SU, SU, SU, SU, SU, SU] [(.int (1 : Int32))])) (fun _ k => XS.goto X0.here hx rfl (pc0 := 103) (pc' := 107) rfl (hb hby at_103) (by decide) (by decide) k) ?_
    refine Goes.by (T' := s₁) (g' := (mkF m 109 #[SI y0, SI y1, SI y2, SI y3, SI y4, SI y5, SI ia, SI ib, SI ic, SI ip, SD z0, S2, SD z1, S2, SD z2, S2, SD z3, S2, SI f0, SI 1, SI 1, SU, SU, SU, SU, SU, SU, SU] [])) (fun _ k => XS.istore X0.here hx rfl (hb hby at_107) rfl (l' := #[SI y0, SI y1, SI y2, SI y3, SI y4, SI y5, SI ia, SI ib, SI ic, SI ip, SD z0, S2, SD z1, S2, SD z2, S2, SD z3, S2, SI f0, SI 1, SI 1, SU, SU, SU, SU, SU, SU, SU]) rfl k) ?_
    refine Goes.by (T' := s₁) (g' := (mkF m 111 #[SI y0, SI y1, SI y2, SI y3, SI y4, SI y5, SI ia, SI ib, SI ic, SI ip, SD z0, S2, SD z1, S2, SD z2, S2, SD z3, S2, SI f0, SI 1, SI 1, SU, SU, SU, SU, SU, SU, SU] [(.int (1 : Int32))])) (fun _ k => XS.iload X0.here hx rfl (hb hby at_109) rfl k) ?_
    refine Goes.by (T' := s₁) (g' := (mkF m 112 #[SI y0, SI y1, SI y2, SI y3, SI y4, SI y5, SI ia, SI ib, SI ic, SI ip, SD z0, S2, SD z1, S2, SD z2, S2, SD z3, S2, SI f0, SI 1, SI 1, SU, SU, SU, SU, SU, SU, SU] [(.int (2 : Int32)), (.int (1 : Int32))])) (fun _ k => XS.iconst X0.here hx rfl (hb hby at_111)  k) ?_
    refine Goes.by (T' := s₁) (g' := (mkF m 119 #[SI y0, SI y1, SI y2, SI y3, SI y4, SI y5, SI ia, SI ib, SI ic, SI ip, SD z0, S2, SD z1, S2, SD z2, S2, SD z3, S2, SI f0, SI 1, SI 1, SU, SU, SU, SU, SU, SU, SU] [])) (fun _ k => XS.icmpYes X0.here hx rfl (pc0 := 112) (pc' := 119) rfl (hb hby at_112) rfl (by decide) (by decide) (by decide) k) ?_
    refine Goes.by (T' := s₁) (g' := (mkF m 120 #[SI y0, SI y1, SI y2, SI y3, SI y4, SI y5, SI ia, SI ib, SI ic, SI ip, SD z0, S2, SD z1, S2, SD z2, S2, SD z3, S2, SI f0, SI 1, SI 1, SU, SU, SU, SU, SU, SU, SU] [(.int (0 : Int32))])) (fun _ k => XS.iconst X0.here hx rfl (hb hby at_119)  k) ?_
    refine Goes.by (T' := s₁) (g' := (mkF m 122 #[SI y0, SI y1, SI y2, SI y3, SI y4, SI y5, SI ia, SI ib, SI ic, SI ip, SD z0, S2, SD z1, S2, SD z2, S2, SD z3, S2, SI f0, SI 1, SI 1, SI 0, SU, SU, SU, SU, SU, SU] [])) (fun _ k => XS.istore X0.here hx rfl (hb hby at_120) rfl (l' := #[SI y0, SI y1, SI y2, SI y3, SI y4, SI y5, SI ia, SI ib, SI ic, SI ip, SD z0, S2, SD z1, S2, SD z2, S2, SD z3, S2, SI f0, SI 1, SI 1, SI 0, SU, SU, SU, SU, SU, SU]) rfl k) ?_
    refine Goes.by (T' := s₁) (g' := (mkF m 124 #[SI y0, SI y1, SI y2, SI y3, SI y4, SI y5, SI ia, SI ib, SI ic, SI ip, SD z0, S2, SD z1, S2, SD z2, S2, SD z3, S2, SI f0, SI 1, SI 1, SI 0, SU, SU, SU, SU, SU, SU] [(.int (1 : Int32))])) (fun _ k => XS.iload X0.here hx rfl (hb hby at_122) rfl k) ?_
    refine Goes.by (T' := s₁) (g' := (mkF m 125 #[SI y0, SI y1, SI y2, SI y3, SI y4, SI y5, SI ia, SI ib, SI ic, SI ip, SD z0, S2, SD z1, S2, SD z2, S2, SD z3, S2, SI f0, SI 1, SI 1, SI 0, SU, SU, SU, SU, SU, SU] [(.int (3 : Int32)), (.int (1 : Int32))])) (fun _ k => XS.iconst X0.here hx rfl (hb hby at_124)  k) ?_
    refine Goes.by (T' := s₁) (g' := (mkF m 132 #[SI y0, SI y1, SI y2, SI y3, SI y4, SI y5, SI ia, SI ib, SI ic, SI ip, SD z0, S2, SD z1, S2, SD z2, S2, SD z3, S2, SI f0, SI 1, SI 1, SI 0, SU, SU, SU, SU, SU, SU] [])) (fun _ k => XS.icmpYes X0.here hx rfl (pc0 := 125) (pc' := 132) rfl (hb hby at_125) rfl (by decide) (by decide) (by decide) k) ?_
    refine Goes.by (T' := s₁) (g' := (mkF m 133 #[SI y0, SI y1, SI y2, SI y3, SI y4, SI y5, SI ia, SI ib, SI ic, SI ip, SD z0, S2, SD z1, S2, SD z2, S2, SD z3, S2, SI f0, SI 1, SI 1, SI 0, SU, SU, SU, SU, SU, SU] [(.int (0 : Int32))])) (fun _ k => XS.iconst X0.here hx rfl (hb hby at_132)  k) ?_
    refine Goes.by (T' := s₁) (g' := (mkF m 135 #[SI y0, SI y1, SI y2, SI y3, SI y4, SI y5, SI ia, SI ib, SI ic, SI ip, SD z0, S2, SD z1, S2, SD z2, S2, SD z3, S2, SI f0, SI 1, SI 1, SI 0, SI 0, SU, SU, SU, SU, SU] [])) (fun _ k => XS.istore X0.here hx rfl (hb hby at_133) rfl (l' := #[SI y0, SI y1, SI y2, SI y3, SI y4, SI y5, SI ia, SI ib, SI ic, SI ip, SD z0, S2, SD z1, S2, SD z2, S2, SD z3, S2, SI f0, SI 1, SI 1, SI 0, SI 0, SU, SU, SU, SU, SU]) rfl k) ?_
    obtain ⟨T109, h109, X109, e109, E109, A109, D109, -, st109⟩ := newO X0 hx hZ hown (hw _ (List.mem_of_getElem? (i := 0) rfl)) (hw _ (List.mem_of_getElem? (i := 1) rfl)) (hw _ (List.mem_of_getElem? (i := 2) rfl)) e0 (g := (mkF m 135 #[SI y0, SI y1, SI y2, SI y3, SI y4, SI y5, SI ia, SI ib, SI ic, SI ip, SD z0, S2, SD z1, S2, SD z2, S2, SD z3, S2, SI f0, SI 1, SI 1, SI 0, SI 0, SU, SU, SU, SU, SU] [])) rfl (hb hby at_135) (by decide) (by decide)
    obtain ⟨a, g109⟩ : ∃ z, z = h0.size := ⟨_, rfl⟩
    rw [← g109] at A109 D109 st109
    have ge_a : n0 ≤ a := Nat.le_trans Z0 (Nat.le_of_eq g109.symm)
    have Z0 := Nat.le_trans Z0 E109.1
    have E_a := A109
    have F_sums_a : Fld Z h109 a "com/example/gibbon/gibbon/analysis/SparseSum" "sums" "[D" .null := D109 (Or.inl (hw _ (List.mem_of_getElem? (i := 11) rfl))) (ty := (.array .double)) (by decide)
    have F_indices_a : Fld Z h109 a "com/example/gibbon/gibbon/analysis/SparseSum" "indices" "[I" .null := D109 (Or.inl (hw _ (List.mem_of_getElem? (i := 14) rfl))) (ty := (.array .int)) (by decide)
    have F_size_a : Fld Z h109 a "com/example/gibbon/gibbon/analysis/SparseSum" "size" "I" (.int (0 : Int32)) := D109 (Or.inl (hw _ (List.mem_of_getElem? (i := 21) rfl))) (ty := .int) (by decide)
    refine Goes.by (T' := T109) (g' := (mkF m 138 #[SI y0, SI y1, SI y2, SI y3, SI y4, SI y5, SI ia, SI ib, SI ic, SI ip, SD z0, S2, SD z1, S2, SD z2, S2, SD z3, S2, SI f0, SI 1, SI 1, SI 0, SI 0, SU, SU, SU, SU, SU] [(.ref a)])) st109 ?_
    refine Goes.by (T' := T109) (g' := (mkF m 139 #[SI y0, SI y1, SI y2, SI y3, SI y4, SI y5, SI ia, SI ib, SI ic, SI ip, SD z0, S2, SD z1, S2, SD z2, S2, SD z3, S2, SI f0, SI 1, SI 1, SI 0, SI 0, SU, SU, SU, SU, SU] [(.ref a), (.ref a)])) (fun _ k => XS.dup X109.here hx rfl (hb hby at_138) rfl rfl k) ?_
    obtain ⟨v110, T110, L110, X110, hQ110, st110⟩ := callI X109 hx hZ (y := (⟨"com/example/gibbon/gibbon/analysis/SparseSum", "<init>", "()V"⟩ : MethodName)) rfl hown (hw _ (List.mem_of_getElem? (i := 3) rfl)) (hw _ (List.mem_of_getElem? (i := 4) rfl)) (hw _ (List.mem_of_getElem? (i := 5) rfl)) (hw _ (List.mem_of_getElem? (i := 2) rfl)) (by decide) e109 (a := a) (argsL := []) (rest := [(.ref a)]) (W := 1) (rm_init l Z a0 hw a h109 n0 Z0 E_a F_sums_a F_indices_a F_size_a ge_a) rfl (by decide) (by decide) (by decide) (by decide) (g := (mkF m 139 #[SI y0, SI y1, SI y2, SI y3, SI y4, SI y5, SI ia, SI ib, SI ic, SI ip, SD z0, S2, SD z1, S2, SD z2, S2, SD z3, S2, SI f0, SI 1, SI 1, SI 0, SI 0, SU, SU, SU, SU, SU] [(.ref a), (.ref a)])) rfl (by rw [hml]; rfl) (lenOf pd2 rfl) rfl (by show 2 * 0 + _ ≤ _; exact Nat.le_of_eq rfl) (hb hby at_139)
    obtain ⟨bs, bi, rfl, EA, FS, FI, FN, VS, VI, gs, gi, n1, n2, n3, K110, NL110⟩ := hQ110
    have N0 := Fr.app N0 NL110
    have e110 : T110.heap = T110.heap := rfl
    have E_a := E_a.keep K110
    have Z0 := Nat.le_trans Z0 K110.1
    refine Goes.by (T' := T110) (g' := (mkF m 142 #[SI y0, SI y1, SI y2, SI y3, SI y4, SI y5, SI ia, SI ib, SI ic, SI ip, SD z0, S2, SD z1, S2, SD z2, S2, SD z3, S2, SI f0, SI 1, SI 1, SI 0, SI 0, SU, SU, SU, SU, SU] [(.ref a)])) st110 ?_
    refine Goes.by (T' := T110) (g' := (mkF m 144 #[SI y0, SI y1, SI y2, SI y3, SI y4, SI y5, SI ia, SI ib, SI ic, SI ip, SD z0, S2, SD z1, S2, SD z2, S2, SD z3, S2, SI f0, SI 1, SI 1, SI 0, SI 0, SA a, SU, SU, SU, SU] [])) (fun _ k => XS.astore X110.here hx rfl (hb hby at_142) rfl rfl (l' := #[SI y0, SI y1, SI y2, SI y3, SI y4, SI y5, SI ia, SI ib, SI ic, SI ip, SD z0, S2, SD z1, S2, SD z2, S2, SD z3, S2, SI f0, SI 1, SI 1, SI 0, SI 0, SA a, SU, SU, SU, SU]) rfl k) ?_
    refine Goes.by (T' := T110) (g' := (mkF m 146 #[SI y0, SI y1, SI y2, SI y3, SI y4, SI y5, SI ia, SI ib, SI ic, SI ip, SD z0, S2, SD z1, S2, SD z2, S2, SD z3, S2, SI f0, SI 1, SI 1, SI 0, SI 0, SA a, SU, SU, SU, SU] [(.int f0)])) (fun _ k => XS.iload X110.here hx rfl (hb hby at_144) rfl k) ?_
    have restU : ∀ (br : Addr) (xr yr : List Value) (l0 l1 l2 l3 l4 l5 l9 l10 l11 l18 l19 : Slot)  (Tj111 : State) (hj111 : Heap) (Lj111 : List Loc), Stand p l e room_1 s m #[(.int y0), (.int y1), (.int y2), (.int y3), (.int y4), (.int y5)] below meth c Tj111 Lj111 4 259 → Tj111.heap = hj111 → Fr n0 Lj111 → n0 ≤ hj111.size → Exa Z hj111 a "com/example/gibbon/gibbon/analysis/SparseSum" → Fld Z hj111 a "com/example/gibbon/gibbon/analysis/SparseSum" "sums" "[D" (.ref br) → Fld Z hj111 a "com/example/gibbon/gibbon/analysis/SparseSum" "indices" "[I" (.ref bi) → Fld Z hj111 a "com/example/gibbon/gibbon/analysis/SparseSum" "size" "I" (.int (0 : Int32)) → Sar Z hj111 br .double xr → Sar Z hj111 bi .int yr → OwnRep (fun _ => 0) [] xr yr 0 → n0 ≤ br → a ≠ br → br ≠ bi → Goes p e below (Fin1 below s room_1 (fun v h L => v = some (.int 1) ∧ Fr n0 L)) Tj111 (mkF m 164 #[l0, l1, l2, l3, l4, l5, SI ia, SI ib, SI ic, l9, l10, l11, SD z1, S2, SD z2, S2, SD z3, S2, l18, l19, SI 1, SI 0, SI 0, SA a, SU, SU, SU, SU] []) := by
      intro br xr yr l0 l1 l2 l3 l4 l5 l9 l10 l11 l18 l19 Tj111 hj111 Lj111 Xj111 ej111 N0 Z0 EA FS FI FN VS VI hR gr n4 n5
      refine Goes.by (T' := Tj111) (g' := (mkF m 166 #[l0, l1, l2, l3, l4, l5, SI ia, SI ib, SI ic, l9, l10, l11, SD z1, S2, SD z2, S2, SD z3, S2, l18, l19, SI 1, SI 0, SI 0, SA a, SU, SU, SU, SU] [(.int (1 : Int32))])) (fun _ k => XS.iload Xj111.here hx rfl (hb hby at_164) rfl k) ?_
      refine Goes.by (T' := Tj111) (g' := (mkF m 169 #[l0, l1, l2, l3, l4, l5, SI ia, SI ib, SI ic, l9, l10, l11, SD z1, S2, SD z2, S2, SD z3, S2, l18, l19, SI 1, SI 0, SI 0, SA a, SU, SU, SU, SU] [])) (fun _ k => XS.ifNo Xj111.here hx rfl (hb hby at_166) rfl (by decide) k) ?_
      refine Goes.by (T' := Tj111) (g' := (mkF m 171 #[l0, l1, l2, l3, l4, l5, SI ia, SI ib, SI ic, l9, l10, l11, SD z1, S2, SD z2, S2, SD z3, S2, l18, l19, SI 1, SI 0, SI 0, SA a, SU, SU, SU, SU] [(.ref a)])) (fun _ k => XS.aload Xj111.here hx rfl (hb hby at_169) rfl rfl k) ?_
      refine Goes.by (T' := Tj111) (g' := (mkF m 173 #[l0, l1, l2, l3, l4, l5, SI ia, SI ib, SI ic, l9, l10, l11, SD z1, S2, SD z2, S2, SD z3, S2, l18, l19, SI 1, SI 0, SI 0, SA a, SU, SU, SU, SU] [(.int ia), (.ref a)])) (fun _ k => XS.iload Xj111.here hx rfl (hb hby at_171) rfl k) ?_
      refine Goes.by (T' := Tj111) (g' := (mkF m 175 #[l0, l1, l2, l3, l4, l5, SI ia, SI ib, SI ic, l9, l10, l11, SD z1, S2, SD z2, S2, SD z3, S2, l18, l19, SI 1, SI 0, SI 0, SA a, SU, SU, SU, SU] [(.double z1), (.int ia), (.ref a)])) (fun _ k => XS.dload Xj111.here hx rfl (hb hby at_173) rfl k) ?_
      obtain ⟨v112, T112, L112, X112, hQ112, st112⟩ := callV Xj111 hx hZ (y := (⟨"com/example/gibbon/gibbon/analysis/SparseSum", "add", "(ID)D"⟩ : MethodName)) hown (hw _ (List.mem_of_getElem? (i := 15) rfl)) (hw _ (List.mem_of_getElem? (i := 16) rfl)) (hw _ (List.mem_of_getElem? (i := 18) rfl)) (hw _ (List.mem_of_getElem? (i := 17) rfl)) (hw _ (List.mem_of_getElem? (i := 19) rfl)) (hw _ (List.mem_of_getElem? (i := 2) rfl)) (by decide) ej111 EA (argsL := [(.int ia), (.double z1)]) (rest := []) (W := 0) (rm_addU l Z a0 hw a br bi (0 : Int32) ia ka z1 w1.toInt (fun _ => 0) [] _ _ hj111 n0 Z0 EA FS FI FN VS VI hR hka (by omega) D_z1 bw1 (by decide) (by simp) ge_a gr gi n4 n2 n5) rfl (by decide) (by decide) (by decide) (by decide) (g := (mkF m 175 #[l0, l1, l2, l3, l4, l5, SI ia, SI ib, SI ic, l9, l10, l11, SD z1, S2, SD z2, S2, SD z3, S2, l18, l19, SI 1, SI 0, SI 0, SA a, SU, SU, SU, SU] [(.double z1), (.int ia), (.ref a)])) rfl (by rw [hml]; rfl) (lenOf pd3 rfl) rfl (by show 2 * 0 + _ ≤ _; exact Nat.le_of_eq rfl) (hb hby at_175)
      obtain ⟨rq11, b11, nq11, x11, y11, rfl, -, FS, FI, FN, VS, VI, hR11, hl11, hpr11, g11, na11, nb11, K112, NL112⟩ := hQ112
      have N0 := Fr.app N0 NL112
      have e112 : T112.heap = T112.heap := rfl
      have EA := EA.keep K112
      have Z0 := Nat.le_trans Z0 K112.1
      refine Goes.by (T' := T112) (g' := (mkF m 178 #[l0, l1, l2, l3, l4, l5, SI ia, SI ib, SI ic, l9, l10, l11, SD z1, S2, SD z2, S2, SD z3, S2, l18, l19, SI 1, SI 0, SI 0, SA a, SU, SU, SU, SU] [(.double rq11)])) st112 ?_
      rw [if_pos rfl] at hR11
      obtain rfl : nq11 = (1 : Int32) := Int32.toInt_inj.mp (by rw [hR11.2.2.2.2.1]; rfl)
      refine Goes.by (T' := T112) (g' := (mkF m 179 #[l0, l1, l2, l3, l4, l5, SI ia, SI ib, SI ic, l9, l10, l11, SD z1, S2, SD z2, S2, SD z3, S2, l18, l19, SI 1, SI 0, SI 0, SA a, SU, SU, SU, SU] [])) (fun _ k => XS.pop2W X112.here hx rfl (hb hby at_178) rfl rfl k) ?_
      refine Goes.by (T' := T112) (g' := (mkF m 181 #[l0, l1, l2, l3, l4, l5, SI ia, SI ib, SI ic, l9, l10, l11, SD z1, S2, SD z2, S2, SD z3, S2, l18, l19, SI 1, SI 0, SI 0, SA a, SU, SU, SU, SU] [(.int (0 : Int32))])) (fun _ k => XS.iload X112.here hx rfl (hb hby at_179) rfl k) ?_
      refine Goes.by (T' := T112) (g' := (mkF m 194 #[l0, l1, l2, l3, l4, l5, SI ia, SI ib, SI ic, l9, l10, l11, SD z1, S2, SD z2, S2, SD z3, S2, l18, l19, SI 1, SI 0, SI 0, SA a, SU, SU, SU, SU] [])) (fun _ k => XS.ifYes X112.here hx rfl (pc0 := 181) (pc' := 194) rfl (hb hby at_181) rfl (by decide) (by decide) (by decide) k) ?_
      refine Goes.by (T' := T112) (g' := (mkF m 196 #[l0, l1, l2, l3, l4, l5, SI ia, SI ib, SI ic, l9, l10, l11, SD z1, S2, SD z2, S2, SD z3, S2, l18, l19, SI 1, SI 0, SI 0, SA a, SU, SU, SU, SU] [(.int (0 : Int32))])) (fun _ k => XS.iload X112.here hx rfl (hb hby at_194) rfl k) ?_
      refine Goes.by (T' := T112) (g' := (mkF m 209 #[l0, l1, l2, l3, l4, l5, SI ia, SI ib, SI ic, l9, l10, l11, SD z1, S2, SD z2, S2, SD z3, S2, l18, l19, SI 1, SI 0, SI 0, SA a, SU, SU, SU, SU] [])) (fun _ k => XS.ifYes X112.here hx rfl (pc0 := 196) (pc' := 209) rfl (hb hby at_196) rfl (by decide) (by decide) (by decide) k) ?_
      refine Goes.by (T' := T112) (g' := (mkF m 210 #[l0, l1, l2, l3, l4, l5, SI ia, SI ib, SI ic, l9, l10, l11, SD z1, S2, SD z2, S2, SD z3, S2, l18, l19, SI 1, SI 0, SI 0, SA a, SU, SU, SU, SU] [(.int (3 : Int32))])) (fun _ k => XS.iconst X112.here hx rfl (hb hby at_209)  k) ?_
      obtain ⟨T113, h113, k113, X113, e113, E113, A113, st113⟩ := newP X112 hx hZ (hw _ (List.mem_of_getElem? (i := 9) rfl)) e112 (g := (mkF m 210 #[l0, l1, l2, l3, l4, l5, SI ia, SI ib, SI ic, l9, l10, l11, SD z1, S2, SD z2, S2, SD z3, S2, l18, l19, SI 1, SI 0, SI 0, SA a, SU, SU, SU, SU] [(.int (3 : Int32))])) rfl (hb hby at_210) rfl (by decide) (cap := 3) (by decide) (by decide) (by decide) (by decide)
      obtain ⟨ea, g113⟩ : ∃ z, z = T112.heap.size := ⟨_, rfl⟩
      rw [← g113] at A113 st113
      have ne_a_ea : a ≠ ea := fun q => Nat.lt_irrefl _ (Nat.lt_of_lt_of_eq EA.lt (g113.symm.trans q.symm))
      have ne_b11_ea : b11 ≠ ea := fun q => Nat.lt_irrefl _ (Nat.lt_of_lt_of_eq VS.lt (g113.symm.trans q.symm))
      have ne_bi_ea : bi ≠ ea := fun q => Nat.lt_irrefl _ (Nat.lt_of_lt_of_eq VI.lt (g113.symm.trans q.symm))
      have ge_ea : n0 ≤ ea := Nat.le_trans Z0 (Nat.le_of_eq g113.symm)
      have EA := EA.ext E113
      have FS := FS.ext E113
      have FI := FI.ext E113
      have FN := FN.ext E113
      have VS := VS.ext E113
      have VI := VI.ext E113
      have Z0 := Nat.le_trans Z0 E113.1
      have V_ea : Sar Z h113 ea .double [(.double (0 : UInt64)), (.double (0 : UInt64)), (.double (0 : UInt64))] := Sar.new (n := 3) A113 (by decide)
      refine Goes.by (T' := T113) (g' := (mkF m 212 #[l0, l1, l2, l3, l4, l5, SI ia, SI ib, SI ic, l9, l10, l11, SD z1, S2, SD z2, S2, SD z3, S2, l18, l19, SI 1, SI 0, SI 0, SA a, SU, SU, SU, SU] [(.ref ea)])) st113 ?_
      refine Goes.by (T' := T113) (g' := (mkF m 214 #[l0, l1, l2, l3, l4, l5, SI ia, SI ib, SI ic, l9, l10, l11, SD z1, S2, SD z2, S2, SD z3, S2, l18, l19, SI 1, SI 0, SI 0, SA a, SA ea, SU, SU, SU] [])) (fun _ k => XS.astore X113.here hx rfl (hb hby at_212) rfl rfl (l' := #[l0, l1, l2, l3, l4, l5, SI ia, SI ib, SI ic, l9, l10, l11, SD z1, S2, SD z2, S2, SD z3, S2, l18, l19, SI 1, SI 0, SI 0, SA a, SA ea, SU, SU, SU]) rfl k) ?_
      refine Goes.by (T' := T113) (g' := (mkF m 215 #[l0, l1, l2, l3, l4, l5, SI ia, SI ib, SI ic, l9, l10, l11, SD z1, S2, SD z2, S2, SD z3, S2, l18, l19, SI 1, SI 0, SI 0, SA a, SA ea, SU, SU, SU] [(.int (0 : Int32))])) (fun _ k => XS.iconst X113.here hx rfl (hb hby at_214)  k) ?_
      refine Goes.by (T' := T113) (g' := (mkF m 217 #[l0, l1, l2, l3, l4, l5, SI ia, SI ib, SI ic, l9, l10, l11, SD z1, S2, SD z2, S2, SD z3, S2, l18, l19, SI 1, SI 0, SI 0, SA a, SA ea, SI 0, SU, SU] [])) (fun _ k => XS.istore X113.here hx rfl (hb hby at_215) rfl (l' := #[l0, l1, l2, l3, l4, l5, SI ia, SI ib, SI ic, l9, l10, l11, SD z1, S2, SD z2, S2, SD z3, S2, l18, l19, SI 1, SI 0, SI 0, SA a, SA ea, SI 0, SU, SU]) rfl k) ?_
      refine Goes.by (T' := T113) (g' := (mkF m 219 #[l0, l1, l2, l3, l4, l5, SI ia, SI ib, SI ic, l9, l10, l11, SD z1, S2, SD z2, S2, SD z3, S2, l18, l19, SI 1, SI 0, SI 0, SA a, SA ea, SI 0, SU, SU] [(.int (1 : Int32))])) (fun _ k => XS.iload X113.here hx rfl (hb hby at_217) rfl k) ?_
      refine Goes.by (T' := T113) (g' := (mkF m 222 #[l0, l1, l2, l3, l4, l5, SI ia, SI ib, SI ic, l9, l10, l11, SD z1, S2, SD z2, S2, SD z3, S2, l18, l19, SI 1, SI 0, SI 0, SA a, SA ea, SI 0, SU, SU] [])) (fun _ k => XS.ifNo X113.here hx rfl (hb hby at_219) rfl (by decide) k) ?_
      refine Goes.by (T' := T113) (g' := (mkF m 224 #[l0, l1, l2, l3, l4, l5, SI ia, SI ib, SI ic, l9, l10, l11, SD z1, S2, SD z2, S2, SD z3, S2, l18, l19, SI 1, SI 0, SI 0, SA a, SA ea, SI 0, SU, SU] [(.double z1)])) (fun _ k => XS.dload X113.here hx rfl (hb hby at_222) rfl k) ?_
      refine Goes.by (T' := T113) (g' := (mkF m 226 #[l0, l1, l2, l3, l4, l5, SI ia, SI ib, SI ic, l9, l10, l11, SD z1, S2, SD z2, S2, SD z3, S2, l18, l19, SI 1, SI 0, SI 0, SA a, SA ea, SI 0, SD z1, S2] [])) (fun _ k => XS.dstore X113.here hx rfl (hb hby at_224) rfl (l' := #[l0, l1, l2, l3, l4, l5, SI ia, SI ib, SI ic, l9, l10, l11, SD z1, S2, SD z2, S2, SD z3, S2, l18, l19, SI 1, SI 0, SI 0, SA a, SA ea, SI 0, SD z1, S2]) rfl k) ?_
      refine Goes.by (T' := T113) (g' := (mkF m 228 #[l0, l1, l2, l3, l4, l5, SI ia, SI ib, SI ic, l9, l10, l11, SD z1, S2, SD z2, S2, SD z3, S2, l18, l19, SI 1, SI 0, SI 0, SA a, SA ea, SI 0, SD z1, S2] [(.int (0 : Int32))])) (fun _ k => XS.iload X113.here hx rfl (hb hby at_226) rfl k) ?_
      refine Goes.by (T' := T113) (g' := (mkF m 245 #[l0, l1, l2, l3, l4, l5, SI ia, SI ib, SI ic, l9, l10, l11, SD z1, S2, SD z2, S2, SD z3, S2, l18, l19, SI 1, SI 0, SI 0, SA a, SA ea, SI 0, SD z1, S2] [])) (fun _ k => XS.ifYes X113.here hx rfl (pc0 := 228) (pc' := 245) rfl (hb hby at_228) rfl (by decide) (by decide) (by decide) k) ?_
      refine Goes.by (T' := T113) (g' := (mkF m 247 #[l0, l1, l2, l3, l4, l5, SI ia, SI ib, SI ic, l9, l10, l11, SD z1, S2, SD z2, S2, SD z3, S2, l18, l19, SI 1, SI 0, SI 0, SA a, SA ea, SI 0, SD z1, S2] [(.int (0 : Int32))])) (fun _ k => XS.iload X113.here hx rfl (hb hby at_245) rfl k) ?_
      refine Goes.by (T' := T113) (g' := (mkF m 264 #[l0, l1, l2, l3, l4, l5, SI ia, SI ib, SI ic, l9, l10, l11, SD z1, S2, SD z2, S2, SD z3, S2, l18, l19, SI 1, SI 0, SI 0, SA a, SA ea, SI 0, SD z1, S2] [])) (fun _ k => XS.ifYes X113.here hx rfl (pc0 := 247) (pc' := 264) rfl (hb hby at_247) rfl (by decide) (by decide) (by decide) k) ?_
      refine Goes.by (T' := T113) (g' := (mkF m 266 #[l0, l1, l2, l3, l4, l5, SI ia, SI ib, SI ic, l9, l10, l11, SD z1, S2, SD z2, S2, SD z3, S2, l18, l19, SI 1, SI 0, SI 0, SA a, SA ea, SI 0, SD z1, S2] [(.ref ea)])) (fun _ k => XS.aload X113.here hx rfl (hb hby at_264) rfl rfl k) ?_
      refine Goes.by (T' := T113) (g' := (mkF m 268 #[l0, l1, l2, l3, l4, l5, SI ia, SI ib, SI ic, l9, l10, l11, SD z1, S2, SD z2, S2, SD z3, S2, l18, l19, SI 1, SI 0, SI 0, SA a, SA ea, SI 0, SD z1, S2] [(.int (0 : Int32)), (.ref ea)])) (fun _ k => XS.iload X113.here hx rfl (hb hby at_266) rfl k) ?_
      refine Goes.by (T' := T113) (g' := (mkF m 270 #[l0, l1, l2, l3, l4, l5, SI ia, SI ib, SI ic, l9, l10, l11, SD z1, S2, SD z2, S2, SD z3, S2, l18, l19, SI 1, SI 0, SI 0, SA a, SA ea, SI 0, SD z1, S2] [(.double z1), (.int (0 : Int32)), (.ref ea)])) (fun _ k => XS.dload X113.here hx rfl (hb hby at_268) rfl k) ?_
      obtain ⟨T114, h114, X114, e114, W114, V114, st114⟩ := stDS X113 hx hZ e113 V_ea (j := (0 : Int32)) 0 (by decide) (by show 0 < 3; decide) (g := (mkF m 270 #[l0, l1, l2, l3, l4, l5, SI ia, SI ib, SI ic, l9, l10, l11, SD z1, S2, SD z2, S2, SD z3, S2, l18, l19, SI 1, SI 0, SI 0, SA a, SA ea, SI 0, SD z1, S2] [(.double z1), (.int (0 : Int32)), (.ref ea)])) rfl rfl (hb hby at_270)
      have N0 := Fr.snoc X114 N0 ge_ea
      have EA := EA.wr W114
      have FS := FS.other W114 (Or.inl ne_a_ea)
      have FI := FI.other W114 (Or.inl ne_a_ea)
      have FN := FN.other W114 (Or.inl ne_a_ea)
      have VS := VS.other W114 ne_b11_ea
      have VI := VI.other W114 ne_bi_ea
      have Z0 := Nat.le_trans Z0 (Nat.le_of_eq W114.size.symm)
      have V_ea : Sar Z h114 ea .double [(.double z1), (.double (0 : UInt64)), (.double (0 : UInt64))] := V114
      refine Goes.by (T' := T114) (g' := (mkF m 271 #[l0, l1, l2, l3, l4, l5, SI ia, SI ib, SI ic, l9, l10, l11, SD z1, S2, SD z2, S2, SD z3, S2, l18, l19, SI 1, SI 0, SI 0, SA a, SA ea, SI 0, SD z1, S2] [])) st114 ?_
      refine Goes.by (T' := T114) (g' := (mkF m 273 #[l0, l1, l2, l3, l4, l5, SI ia, SI ib, SI ic, l9, l10, l11, SD z1, S2, SD z2, S2, SD z3, S2, l18, l19, SI 1, SI 0, SI 0, SA a, SA ea, SI 0, SD z1, S2] [(.int (0 : Int32))])) (fun _ k => XS.iload X114.here hx rfl (hb hby at_271) rfl k) ?_
      refine Goes.by (T' := T114) (g' := (mkF m 274 #[l0, l1, l2, l3, l4, l5, SI ia, SI ib, SI ic, l9, l10, l11, SD z1, S2, SD z2, S2, SD z3, S2, l18, l19, SI 1, SI 0, SI 0, SA a, SA ea, SI 0, SD z1, S2] [(.int (1 : Int32)), (.int (0 : Int32))])) (fun _ k => XS.iconst X114.here hx rfl (hb hby at_273)  k) ?_
      refine Goes.by (T' := T114) (g' := (mkF m 275 #[l0, l1, l2, l3, l4, l5, SI ia, SI ib, SI ic, l9, l10, l11, SD z1, S2, SD z2, S2, SD z3, S2, l18, l19, SI 1, SI 0, SI 0, SA a, SA ea, SI 0, SD z1, S2] [(.int (1 : Int32))])) (fun _ k => XS.iadd X114.here hx rfl (hb hby at_274) rfl k) ?_
      refine Goes.by (T' := T114) (g' := (mkF m 277 #[l0, l1, l2, l3, l4, l5, SI ia, SI ib, SI ic, l9, l10, l11, SD z1, S2, SD z2, S2, SD z3, S2, l18, l19, SI 1, SI 0, SI 0, SA a, SA ea, SI 1, SD z1, S2] [])) (fun _ k => XS.istore X114.here hx rfl (hb hby at_275) rfl (l' := #[l0, l1, l2, l3, l4, l5, SI ia, SI ib, SI ic, l9, l10, l11, SD z1, S2, SD z2, S2, SD z3, S2, l18, l19, SI 1, SI 0, SI 0, SA a, SA ea, SI 1, SD z1, S2]) rfl k) ?_
      refine Goes.by (T' := T114) (g' := (mkF m 279 #[l0, l1, l2, l3, l4, l5, SI ia, SI ib, SI ic, l9, l10, l11, SD z1, S2, SD z2, S2, SD z3, S2, l18, l19, SI 1, SI 0, SI 0, SA a, SA ea, SI 1, SD z1, S2] [(.int (0 : Int32))])) (fun _ k => XS.iload X114.here hx rfl (hb hby at_277) rfl k) ?_
      refine Goes.by (T' := T114) (g' := (mkF m 325 #[l0, l1, l2, l3, l4, l5, SI ia, SI ib, SI ic, l9, l10, l11, SD z1, S2, SD z2, S2, SD z3, S2, l18, l19, SI 1, SI 0, SI 0, SA a, SA ea, SI 1, SD z1, S2] [])) (fun _ k => XS.ifYes X114.here hx rfl (pc0 := 279) (pc' := 325) rfl (hb hby at_279) rfl (by decide) (by decide) (by decide) k) ?_
      refine Goes.by (T' := T114) (g' := (mkF m 327 #[l0, l1, l2, l3, l4, l5, SI ia, SI ib, SI ic, l9, l10, l11, SD z1, S2, SD z2, S2, SD z3, S2, l18, l19, SI 1, SI 0, SI 0, SA a, SA ea, SI 1, SD z1, S2] [(.int (0 : Int32))])) (fun _ k => XS.iload X114.here hx rfl (hb hby at_325) rfl k) ?_
      refine Goes.by (T' := T114) (g' := (mkF m 357 #[l0, l1, l2, l3, l4, l5, SI ia, SI ib, SI ic, l9, l10, l11, SD z1, S2, SD z2, S2, SD z3, S2, l18, l19, SI 1, SI 0, SI 0, SA a, SA ea, SI 1, SD z1, S2] [])) (fun _ k => XS.ifYes X114.here hx rfl (pc0 := 327) (pc' := 357) rfl (hb hby at_327) rfl (by decide) (by decide) (by decide) k) ?_
      refine Goes.by (T' := T114) (g' := (mkF m 359 #[l0, l1, l2, l3, l4, l5, SI ia, SI ib, SI ic, l9, l10, l11, SD z1, S2, SD z2, S2, SD z3, S2, l18, l19, SI 1, SI 0, SI 0, SA a, SA ea, SI 1, SD z1, S2] [(.ref a)])) (fun _ k => XS.aload X114.here hx rfl (hb hby at_357) rfl rfl k) ?_
      obtain ⟨hq0, v0, hy0, hv0⟩ := hR11.2.2.2.2.2.2 0 ka (by simp)
      obtain ⟨d0, hx0, Dd0⟩ := hR11.2.1 ka hq0
      have fe0 : (own_upd (fun _ => 0) ka w1.toInt) ka = w1.toInt := by simp [own_upd]
      rw [fe0] at Dd0
      exact cmp1 a b11 bi ea _ _ _ _ _ v0 ka d0 w1.toInt _ _ _ _ _ _ _ _ _ _ _ _ _ _ _ _ _ _ _ _ _ _ _ _ _ _ _ (X114.wide (fun x hx _ => hx) (by decide) (by decide)) e114 N0 Z0 EA FS FI FN VS VI V_ea ge_a g11 gi ge_ea na11 nb11 n2 ne_a_ea ne_b11_ea ne_bi_ea hy0 hv0 hx0 Dd0 D_z1
    by_cases hd : f0 = (0 : Int32)
    · refine Goes.by (T' := T110) (g' := (mkF m 164 #[SI y0, SI y1, SI y2, SI y3, SI y4, SI y5, SI ia, SI ib, SI ic, SI ip, SD z0, S2, SD z1, S2, SD z2, S2, SD z3, S2, SI f0, SI 1, SI 1, SI 0, SI 0, SA a, SU, SU, SU, SU] [])) (fun _ k => XS.ifYes X110.here hx rfl (pc0 := 146) (pc' := 164) rfl (hb hby at_146) rfl ((if0 _ _).trans (teq hd).1) (by decide) (by decide) k) ?_
      exact restU bs _ _ _ _ _ _ _ _ _ _ _ _ _ _ _ _ (X110.wide (fun x hx _ => hx) (by decide) (by decide)) e110 N0 Z0 EA FS FI FN VS VI OwnRep.start gs n1 n3
    · refine Goes.by (T' := T110) (g' := (mkF m 149 #[SI y0, SI y1, SI y2, SI y3, SI y4, SI y5, SI ia, SI ib, SI ic, SI ip, SD z0, S2, SD z1, S2, SD z2, S2, SD z3, S2, SI f0, SI 1, SI 1, SI 0, SI 0, SA a, SU, SU, SU, SU] [])) (fun _ k => XS.ifNo X110.here hx rfl (hb hby at_146) rfl ((if0 _ _).trans (feq hd).1) k) ?_
      refine Goes.by (T' := T110) (g' := (mkF m 151 #[SI y0, SI y1, SI y2, SI y3, SI y4, SI y5, SI ia, SI ib, SI ic, SI ip, SD z0, S2, SD z1, S2, SD z2, S2, SD z3, S2, SI f0, SI 1, SI 1, SI 0, SI 0, SA a, SU, SU, SU, SU] [(.ref a)])) (fun _ k => XS.aload X110.here hx rfl (hb hby at_149) rfl rfl k) ?_
      refine Goes.by (T' := T110) (g' := (mkF m 153 #[SI y0, SI y1, SI y2, SI y3, SI y4, SI y5, SI ia, SI ib, SI ic, SI ip, SD z0, S2, SD z1, S2, SD z2, S2, SD z3, S2, SI f0, SI 1, SI 1, SI 0, SI 0, SA a, SU, SU, SU, SU] [(.int ip), (.ref a)])) (fun _ k => XS.iload X110.here hx rfl (hb hby at_151) rfl k) ?_
      refine Goes.by (T' := T110) (g' := (mkF m 155 #[SI y0, SI y1, SI y2, SI y3, SI y4, SI y5, SI ia, SI ib, SI ic, SI ip, SD z0, S2, SD z1, S2, SD z2, S2, SD z3, S2, SI f0, SI 1, SI 1, SI 0, SI 0, SA a, SU, SU, SU, SU] [(.double z0), (.int ip), (.ref a)])) (fun _ k => XS.dload X110.here hx rfl (hb hby at_153) rfl k) ?_
      by_cases hp : kp < 64
      · obtain ⟨v115, T115, L115, X115, hQ115, st115⟩ := callV X110 hx hZ (y := (⟨"com/example/gibbon/gibbon/analysis/SparseSum", "add", "(ID)D"⟩ : MethodName)) hown (hw _ (List.mem_of_getElem? (i := 15) rfl)) (hw _ (List.mem_of_getElem? (i := 16) rfl)) (hw _ (List.mem_of_getElem? (i := 18) rfl)) (hw _ (List.mem_of_getElem? (i := 17) rfl)) (hw _ (List.mem_of_getElem? (i := 19) rfl)) (hw _ (List.mem_of_getElem? (i := 2) rfl)) (by decide) e110 EA (argsL := [(.int ip), (.double z0)]) (rest := []) (W := 0) (rm_addN l Z a0 hw a bs bi (0 : Int32) ip kp z0 w0.toInt (fun _ => 0) [] _ _ T110.heap n0 Z0 EA FS FI FN VS VI OwnRep.start hkp (by omega) D_z0 bw0 (by decide) (by decide) ge_a gs gi n1 n2 n3 (by simpa using hp)) rfl (by decide) (by decide) (by decide) (by decide) (g := (mkF m 155 #[SI y0, SI y1, SI y2, SI y3, SI y4, SI y5, SI ia, SI ib, SI ic, SI ip, SD z0, S2, SD z1, S2, SD z2, S2, SD z3, S2, SI f0, SI 1, SI 1, SI 0, SI 0, SA a, SU, SU, SU, SU] [(.double z0), (.int ip), (.ref a)])) rfl (by rw [hml]; rfl) (lenOf pd3 rfl) rfl (by show 2 * 0 + _ ≤ _; exact Nat.le_of_eq rfl) (hb hby at_155)
        obtain ⟨rq, b2, nq, xc, yc, rfl, -, FS, FI, FN, VS, VI, hR, hl2, hpr, g2, n4, n5, K115, NL115⟩ := hQ115
        have N0 := Fr.app N0 NL115
        have e115 : T115.heap = T115.heap := rfl
        have EA := EA.keep K115
        have Z0 := Nat.le_trans Z0 K115.1
        refine Goes.by (T' := T115) (g' := (mkF m 158 #[SI y0, SI y1, SI y2, SI y3, SI y4, SI y5, SI ia, SI ib, SI ic, SI ip, SD z0, S2, SD z1, S2, SD z2, S2, SD z3, S2, SI f0, SI 1, SI 1, SI 0, SI 0, SA a, SU, SU, SU, SU] [(.double rq)])) st115 ?_
        rw [if_pos rfl] at hR
        obtain rfl : nq = (1 : Int32) := Int32.toInt_inj.mp (by rw [hR.2.2.2.2.1]; rfl)
        refine Goes.by (T' := T115) (g' := (mkF m 159 #[SI y0, SI y1, SI y2, SI y3, SI y4, SI y5, SI ia, SI ib, SI ic, SI ip, SD z0, S2, SD z1, S2, SD z2, S2, SD z3, S2, SI f0, SI 1, SI 1, SI 0, SI 0, SA a, SU, SU, SU, SU] [])) (fun _ k => XS.pop2W X115.here hx rfl (hb hby at_158) rfl rfl k) ?_
        refine Goes.by (T' := T115) (g' := (mkF m 161 #[SI y0, SI y1, SI y2, SI y3, SI y4, SI y5, SI ia, SI ib, SI ic, SI ip, SD z0, S2, SD z1, S2, SD z2, S2, SD z3, S2, SI f0, SI 1, SI 1, SI 0, SI 0, SA a, SU, SU, SU, SU] [(.ref a)])) (fun _ k => XS.aload X115.here hx rfl (hb hby at_159) rfl rfl k) ?_
        obtain ⟨v116, T116, L116, X116, hQ116, st116⟩ := callV X115 hx hZ (y := (⟨"com/example/gibbon/gibbon/analysis/SparseSum", "clear", "()V"⟩ : MethodName)) hown (hw _ (List.mem_of_getElem? (i := 22) rfl)) (hw _ (List.mem_of_getElem? (i := 23) rfl)) (hw _ (List.mem_of_getElem? (i := 25) rfl)) (hw _ (List.mem_of_getElem? (i := 24) rfl)) (hw _ (List.mem_of_getElem? (i := 26) rfl)) (hw _ (List.mem_of_getElem? (i := 2) rfl)) (by decide) e115 EA (argsL := []) (rest := []) (W := 0) (rm_clear l Z a0 hw a b2 bi kp w0.toInt xc yc T115.heap n0 Z0 EA FS FI FN VS VI hR ge_a g2 gi n4 n2 n5) rfl (by decide) (by decide) (by decide) (by decide) (g := (mkF m 161 #[SI y0, SI y1, SI y2, SI y3, SI y4, SI y5, SI ia, SI ib, SI ic, SI ip, SD z0, S2, SD z1, S2, SD z2, S2, SD z3, S2, SI f0, SI 1, SI 1, SI 0, SI 0, SA a, SU, SU, SU, SU] [(.ref a)])) rfl (by rw [hml]; rfl) (lenOf pd2 rfl) rfl (by show 2 * 0 + _ ≤ _; exact Nat.le_of_eq rfl) (hb hby at_161)
        obtain ⟨rfl, -, FS, FI, FN, VS, VI, hR2, K116, NL116⟩ := hQ116
        have N0 := Fr.app N0 NL116
        have e116 : T116.heap = T116.heap := rfl
        have EA := EA.keep K116
        have Z0 := Nat.le_trans Z0 K116.1
        refine Goes.by (T' := T116) (g' := (mkF m 164 #[SI y0, SI y1, SI y2, SI y3, SI y4, SI y5, SI ia, SI ib, SI ic, SI ip, SD z0, S2, SD z1, S2, SD z2, S2, SD z3, S2, SI f0, SI 1, SI 1, SI 0, SI 0, SA a, SU, SU, SU, SU] [])) st116 ?_
        have hlen2 := hR.1
        exact restU b2 _ _ _ _ _ _ _ _ _ _ _ _ _ _ _ _ (X116.wide (fun x hx _ => hx) (by decide) (by decide)) e116 N0 Z0 EA FS FI FN VS VI hR2 g2 n4 n5
      · obtain ⟨v117, T117, L117, X117, hQ117, st117⟩ := callV X110 hx hZ (y := (⟨"com/example/gibbon/gibbon/analysis/SparseSum", "add", "(ID)D"⟩ : MethodName)) hown (hw _ (List.mem_of_getElem? (i := 15) rfl)) (hw _ (List.mem_of_getElem? (i := 16) rfl)) (hw _ (List.mem_of_getElem? (i := 18) rfl)) (hw _ (List.mem_of_getElem? (i := 17) rfl)) (hw _ (List.mem_of_getElem? (i := 19) rfl)) (hw _ (List.mem_of_getElem? (i := 2) rfl)) (by decide) e110 EA (argsL := [(.int ip), (.double z0)]) (rest := []) (W := 0) (rm_addU l Z a0 hw a bs bi (0 : Int32) ip kp z0 w0.toInt (fun _ => 0) [] _ _ T110.heap n0 Z0 EA FS FI FN VS VI OwnRep.start hkp (by omega) D_z0 bw0 (by decide) (by decide) ge_a gs gi n1 n2 n3) rfl (by decide) (by decide) (by decide) (by decide) (g := (mkF m 155 #[SI y0, SI y1, SI y2, SI y3, SI y4, SI y5, SI ia, SI ib, SI ic, SI ip, SD z0, S2, SD z1, S2, SD z2, S2, SD z3, S2, SI f0, SI 1, SI 1, SI 0, SI 0, SA a, SU, SU, SU, SU] [(.double z0), (.int ip), (.ref a)])) rfl (by rw [hml]; rfl) (lenOf pd3 rfl) rfl (by show 2 * 0 + _ ≤ _; exact Nat.le_of_eq rfl) (hb hby at_155)
        obtain ⟨rq, b2, nq, xc, yc, rfl, -, FS, FI, FN, VS, VI, hR, hl2, hpr, g2, n4, n5, K117, NL117⟩ := hQ117
        have N0 := Fr.app N0 NL117
        have e117 : T117.heap = T117.heap := rfl
        have EA := EA.keep K117
        have Z0 := Nat.le_trans Z0 K117.1
        refine Goes.by (T' := T117) (g' := (mkF m 158 #[SI y0, SI y1, SI y2, SI y3, SI y4, SI y5, SI ia, SI ib, SI ic, SI ip, SD z0, S2, SD z1, S2, SD z2, S2, SD z3, S2, SI f0, SI 1, SI 1, SI 0, SI 0, SA a, SU, SU, SU, SU] [(.double rq)])) st117 ?_
        rw [if_pos rfl] at hR
        obtain rfl : nq = (1 : Int32) := Int32.toInt_inj.mp (by rw [hR.2.2.2.2.1]; rfl)
        refine Goes.by (T' := T117) (g' := (mkF m 159 #[SI y0, SI y1, SI y2, SI y3, SI y4, SI y5, SI ia, SI ib, SI ic, SI ip, SD z0, S2, SD z1, S2, SD z2, S2, SD z3, S2, SI f0, SI 1, SI 1, SI 0, SI 0, SA a, SU, SU, SU, SU] [])) (fun _ k => XS.pop2W X117.here hx rfl (hb hby at_158) rfl rfl k) ?_
        refine Goes.by (T' := T117) (g' := (mkF m 161 #[SI y0, SI y1, SI y2, SI y3, SI y4, SI y5, SI ia, SI ib, SI ic, SI ip, SD z0, S2, SD z1, S2, SD z2, S2, SD z3, S2, SI f0, SI 1, SI 1, SI 0, SI 0, SA a, SU, SU, SU, SU] [(.ref a)])) (fun _ k => XS.aload X117.here hx rfl (hb hby at_159) rfl rfl k) ?_
        obtain ⟨v118, T118, L118, X118, hQ118, st118⟩ := callV X117 hx hZ (y := (⟨"com/example/gibbon/gibbon/analysis/SparseSum", "clear", "()V"⟩ : MethodName)) hown (hw _ (List.mem_of_getElem? (i := 22) rfl)) (hw _ (List.mem_of_getElem? (i := 23) rfl)) (hw _ (List.mem_of_getElem? (i := 25) rfl)) (hw _ (List.mem_of_getElem? (i := 24) rfl)) (hw _ (List.mem_of_getElem? (i := 26) rfl)) (hw _ (List.mem_of_getElem? (i := 2) rfl)) (by decide) e117 EA (argsL := []) (rest := []) (W := 0) (rm_clear l Z a0 hw a b2 bi kp w0.toInt xc yc T117.heap n0 Z0 EA FS FI FN VS VI hR ge_a g2 gi n4 n2 n5) rfl (by decide) (by decide) (by decide) (by decide) (g := (mkF m 161 #[SI y0, SI y1, SI y2, SI y3, SI y4, SI y5, SI ia, SI ib, SI ic, SI ip, SD z0, S2, SD z1, S2, SD z2, S2, SD z3, S2, SI f0, SI 1, SI 1, SI 0, SI 0, SA a, SU, SU, SU, SU] [(.ref a)])) rfl (by rw [hml]; rfl) (lenOf pd2 rfl) rfl (by show 2 * 0 + _ ≤ _; exact Nat.le_of_eq rfl) (hb hby at_161)
        obtain ⟨rfl, -, FS, FI, FN, VS, VI, hR2, K118, NL118⟩ := hQ118
        have N0 := Fr.app N0 NL118
        have e118 : T118.heap = T118.heap := rfl
        have EA := EA.keep K118
        have Z0 := Nat.le_trans Z0 K118.1
        refine Goes.by (T' := T118) (g' := (mkF m 164 #[SI y0, SI y1, SI y2, SI y3, SI y4, SI y5, SI ia, SI ib, SI ic, SI ip, SD z0, S2, SD z1, S2, SD z2, S2, SD z3, S2, SI f0, SI 1, SI 1, SI 0, SI 0, SA a, SU, SU, SU, SU] [])) st118 ?_
        have hlen2 := hR.1
        exact restU b2 _ _ _ _ _ _ _ _ _ _ _ _ _ _ _ _ (X118.wide (fun x hx _ => hx) (by decide) (by decide)) e118 N0 Z0 EA FS FI FN VS VI hR2 g2 n4 n5
  · refine Goes.by (T' := s₁) (g' := (mkF m 96 #[SI y0, SI y1, SI y2, SI y3, SI y4, SI y5, SI ia, SI ib, SI ic, SI ip, SD z0, S2, SD z1, S2, SD z2, S2, SD z3, S2, SI f0, SI 2, SU, SU, SU, SU, SU, SU, SU, SU] [])) (fun _ k => XS.istore X0.here hx rfl (hb hby at_94) rfl (l' := #[SI y0, SI y1, SI y2, SI y3, SI y4, SI y5, SI ia, SI ib, SI ic, SI ip, SD z0, S2, SD z1, S2, SD z2, S2, SD z3, S2, SI f0, SI 2, SU, SU, SU, SU, SU, SU, SU, SU]) rfl k) ?_
    refine Goes.by (T' := s₁) (g' := (mkF m 98 #[SI y0, SI y1, SI y2, SI y3, SI y4, SI y5, SI ia, SI ib, SI ic, SI ip, SD z0, S2, SD z1, S2, SD z2, S2, SD z3, S2, SI f0, SI 2, SU, SU, SU, SU, SU, SU, SU, SU] [(.int (2 : Int32))])) (fun _ k => XS.iload X0.here hx rfl (hb hby at_96) rfl k) ?_
    refine Goes.by (T' := s₁) (g' := (mkF m 99 #[SI y0, SI y1, SI y2, SI y3, SI y4, SI y5, SI ia, SI ib, SI ic, SI ip, SD z0, S2, SD z1, S2, SD z2, S2, SD z3, S2, SI f0, SI 2, SU, SU, SU, SU, SU, SU, SU, SU] [(.int (1 : Int32)), (.int (2 : Int32))])) (fun _ k => XS.iconst X0.here hx rfl (hb hby at_98)  k) ?_
    refine Goes.by (T' := s₁) (g' := (mkF m 102 #[SI y0, SI y1, SI y2, SI y3, SI y4, SI y5, SI ia, SI ib, SI ic, SI ip, SD z0, S2, SD z1, S2, SD z2, S2, SD z3, S2, SI f0, SI 2, SU, SU, SU, SU, SU, SU, SU, SU] [])) (fun _ k => XS.icmpNo X0.here hx rfl (hb hby at_99) rfl (by decide) k) ?_
    refine Goes.by (T' := s₁) (g' := (mkF m 103 #[SI y0, SI y1, SI y2, SI y3, SI y4, SI y5, SI ia, SI ib, SI ic, SI ip, SD z0, S2, SD z1, S2, SD z2, S2, SD z3, S2, SI f0, SI 2, SU, SU, SU, SU, SU, SU, SU, SU] [(.int (1 : Int32))])) (fun _ k => XS.iconst X0.here hx rfl (hb hby at_102)  k) ?_
    refine Goes.by (T' := s₁) (g' := (mkF m 107 #[SI y0, SI y1, SI y2, SI y3, SI y4, SI y5, SI ia, SI ib, SI ic, SI ip, SD z0, S2, SD z1, S2, SD z2, S2, SD z3, S2, SI f0, SI 2, SU, SU, SU, SU, SU, SU, SU, SU] [(.int (1 : Int32))])) (fun _ k => XS.goto X0.here hx rfl (pc0 := 103) (pc' := 107) rfl (hb hby at_103) (by decide) (by decide) k) ?_
    refine Goes.by (T' := s₁) (g' := (mkF m 109 #[SI y0, SI y1, SI y2, SI y3, SI y4, SI y5, SI ia, SI ib, SI ic, SI ip, SD z0, S2, SD z1, S2, SD z2, S2, SD z3, S2, SI f0, SI 2, SI 1, SU, SU, SU, SU, SU, SU, SU] [])) (fun _ k => XS.istore X0.here hx rfl (hb hby at_107) rfl (l' := #[SI y0, SI y1, SI y2, SI y3, SI y4, SI y5, SI ia, SI ib, SI ic, SI ip, SD z0, S2, SD z1, S2, SD z2, S2, SD z3, S2, SI f0, SI 2, SI 1, SU, SU, SU, SU, SU, SU, SU]) rfl k) ?_
    refine Goes.by (T' := s₁) (g' := (mkF m 111 #[SI y0, SI y1, SI y2, SI y3, SI y4, SI y5, SI ia, SI ib, SI ic, SI ip, SD z0, S2, SD z1, S2, SD z2, S2, SD z3, S2, SI f0, SI 2, SI 1, SU, SU, SU, SU, SU, SU, SU] [(.int (2 : Int32))])) (fun _ k => XS.iload X0.here hx rfl (hb hby at_109) rfl k) ?_
    refine Goes.by (T' := s₁) (g' := (mkF m 112 #[SI y0, SI y1, SI y2, SI y3, SI y4, SI y5, SI ia, SI ib, SI ic, SI ip, SD z0, S2, SD z1, S2, SD z2, S2, SD z3, S2, SI f0, SI 2, SI 1, SU, SU, SU, SU, SU, SU, SU] [(.int (2 : Int32)), (.int (2 : Int32))])) (fun _ k => XS.iconst X0.here hx rfl (hb hby at_111)  k) ?_
    refine Goes.by (T' := s₁) (g' := (mkF m 115 #[SI y0, SI y1, SI y2, SI y3, SI y4, SI y5, SI ia, SI ib, SI ic, SI ip, SD z0, S2, SD z1, S2, SD z2, S2, SD z3, S2, SI f0, SI 2, SI 1, SU, SU, SU, SU, SU, SU, SU] [])) (fun _ k => XS.icmpNo X0.here hx rfl (hb hby at_112) rfl (by decide) k) ?_
    refine Goes.by (T' := s₁) (g' := (mkF m 116 #[SI y0, SI y1, SI y2, SI y3, SI y4, SI y5, SI ia, SI ib, SI ic, SI ip, SD z0, S2, SD z1, S2, SD z2, S2, SD z3, S2, SI f0, SI 2, SI 1, SU, SU, SU, SU, SU, SU, SU] [(.int (1 : Int32))])) (fun _ k => XS.iconst X0.here hx rfl (hb hby at_115)  k) ?_
    refine Goes.by (T' := s₁) (g' := (mkF m 120 #[SI y0, SI y1, SI y2, SI y3, SI y4, SI y5, SI ia, SI ib, SI ic, SI ip, SD z0, S2, SD z1, S2, SD z2, S2, SD z3, S2, SI f0, SI 2, SI 1, SU, SU, SU, SU, SU, SU, SU] [(.int (1 : Int32))])) (fun _ k => XS.goto X0.here hx rfl (pc0 := 116) (pc' := 120) rfl (hb hby at_116) (by decide) (by decide) k) ?_
    refine Goes.by (T' := s₁) (g' := (mkF m 122 #[SI y0, SI y1, SI y2, SI y3, SI y4, SI y5, SI ia, SI ib, SI ic, SI ip, SD z0, S2, SD z1, S2, SD z2, S2, SD z3, S2, SI f0, SI 2, SI 1, SI 1, SU, SU, SU, SU, SU, SU] [])) (fun _ k => XS.istore X0.here hx rfl (hb hby at_120) rfl (l' := #[SI y0, SI y1, SI y2, SI y3, SI y4, SI y5, SI ia, SI ib, SI ic, SI ip, SD z0, S2, SD z1, S2, SD z2, S2, SD z3, S2, SI f0, SI 2, SI 1, SI 1, SU, SU, SU, SU, SU, SU]) rfl k) ?_
    refine Goes.by (T' := s₁) (g' := (mkF m 124 #[SI y0, SI y1, SI y2, SI y3, SI y4, SI y5, SI ia, SI ib, SI ic, SI ip, SD z0, S2, SD z1, S2, SD z2, S2, SD z3, S2, SI f0, SI 2, SI 1, SI 1, SU, SU, SU, SU, SU, SU] [(.int (2 : Int32))])) (fun _ k => XS.iload X0.here hx rfl (hb hby at_122) rfl k) ?_
    refine Goes.by (T' := s₁) (g' := (mkF m 125 #[SI y0, SI y1, SI y2, SI y3, SI y4, SI y5, SI ia, SI ib, SI ic, SI ip, SD z0, S2, SD z1, S2, SD z2, S2, SD z3, S2, SI f0, SI 2, SI 1, SI 1, SU, SU, SU, SU, SU, SU] [(.int (3 : Int32)), (.int (2 : Int32))])) (fun _ k => XS.iconst X0.here hx rfl (hb hby at_124)  k) ?_
    refine Goes.by (T' := s₁) (g' := (mkF m 132 #[SI y0, SI y1, SI y2, SI y3, SI y4, SI y5, SI ia, SI ib, SI ic, SI ip, SD z0, S2, SD z1, S2, SD z2, S2, SD z3, S2, SI f0, SI 2, SI 1, SI 1, SU, SU, SU, SU, SU, SU] [])) (fun _ k => XS.icmpYes X0.here hx rfl (pc0 := 125) (pc' := 132) rfl (hb hby at_125) rfl (by decide) (by decide) (by decide) k) ?_
    refine Goes.by (T' := s₁) (g' := (mkF m 133 #[SI y0, SI y1, SI y2, SI y3, SI y4, SI y5, SI ia, SI ib, SI ic, SI ip, SD z0, S2, SD z1, S2, SD z2, S2, SD z3, S2, SI f0, SI 2, SI 1, SI 1, SU, SU, SU, SU, SU, SU] [(.int (0 : Int32))])) (fun _ k => XS.iconst X0.here hx rfl (hb hby at_132)  k) ?_
    refine Goes.by (T' := s₁) (g' := (mkF m 135 #[SI y0, SI y1, SI y2, SI y3, SI y4, SI y5, SI ia, SI ib, SI ic, SI ip, SD z0, S2, SD z1, S2, SD z2, S2, SD z3, S2, SI f0, SI 2, SI 1, SI 1, SI 0, SU, SU, SU, SU, SU] [])) (fun _ k => XS.istore X0.here hx rfl (hb hby at_133) rfl (l' := #[SI y0, SI y1, SI y2, SI y3, SI y4, SI y5, SI ia, SI ib, SI ic, SI ip, SD z0, S2, SD z1, S2, SD z2, S2, SD z3, S2, SI f0, SI 2, SI 1, SI 1, SI 0, SU, SU, SU, SU, SU]) rfl k) ?_
    obtain ⟨T119, h119, X119, e119, E119, A119, D119, -, st119⟩ := newO X0 hx hZ hown (hw _ (List.mem_of_getElem? (i := 0) rfl)) (hw _ (List.mem_of_getElem? (i := 1) rfl)) (hw _ (List.mem_of_getElem? (i := 2) rfl)) e0 (g := (mkF m 135 #[SI y0, SI y1, SI y2, SI y3, SI y4, SI y5, SI ia, SI ib, SI ic, SI ip, SD z0, S2, SD z1, S2, SD z2, S2, SD z3, S2, SI f0, SI 2, SI 1, SI 1, SI 0, SU, SU, SU, SU, SU] [])) rfl (hb hby at_135) (by decide) (by decide)
    obtain ⟨a, g119⟩ : ∃ z, z = h0.size := ⟨_, rfl⟩
    rw [← g119] at A119 D119 st119
    have ge_a : n0 ≤ a := Nat.le_trans Z0 (Nat.le_of_eq g119.symm)
    have Z0 := Nat.le_trans Z0 E119.1
    have E_a := A119
    have F_sums_a : Fld Z h119 a "com/example/gibbon/gibbon/analysis/SparseSum" "sums" "[D" .null := D119 (Or.inl (hw _ (List.mem_of_getElem? (i := 11) rfl))) (ty := (.array .double)) (by decide)
    have F_indices_a : Fld Z h119 a "com/example/gibbon/gibbon/analysis/SparseSum" "indices" "[I" .null := D119 (Or.inl (hw _ (List.mem_of_getElem? (i := 14) rfl))) (ty := (.array .int)) (by decide)
    have F_size_a : Fld Z h119 a "com/example/gibbon/gibbon/analysis/SparseSum" "size" "I" (.int (0 : Int32)) := D119 (Or.inl (hw _ (List.mem_of_getElem? (i := 21) rfl))) (ty := .int) (by decide)
    refine Goes.by (T' := T119) (g' := (mkF m 138 #[SI y0, SI y1, SI y2, SI y3, SI y4, SI y5, SI ia, SI ib, SI ic, SI ip, SD z0, S2, SD z1, S2, SD z2, S2, SD z3, S2, SI f0, SI 2, SI 1, SI 1, SI 0, SU, SU, SU, SU, SU] [(.ref a)])) st119 ?_
    refine Goes.by (T' := T119) (g' := (mkF m 139 #[SI y0, SI y1, SI y2, SI y3, SI y4, SI y5, SI ia, SI ib, SI ic, SI ip, SD z0, S2, SD z1, S2, SD z2, S2, SD z3, S2, SI f0, SI 2, SI 1, SI 1, SI 0, SU, SU, SU, SU, SU] [(.ref a), (.ref a)])) (fun _ k => XS.dup X119.here hx rfl (hb hby at_138) rfl rfl k) ?_
    obtain ⟨v120, T120, L120, X120, hQ120, st120⟩ := callI X119 hx hZ (y := (⟨"com/example/gibbon/gibbon/analysis/SparseSum", "<init>", "()V"⟩ : MethodName)) rfl hown (hw _ (List.mem_of_getElem? (i := 3) rfl)) (hw _ (List.mem_of_getElem? (i := 4) rfl)) (hw _ (List.mem_of_getElem? (i := 5) rfl)) (hw _ (List.mem_of_getElem? (i := 2) rfl)) (by decide) e119 (a := a) (argsL := []) (rest := [(.ref a)]) (W := 1) (rm_init l Z a0 hw a h119 n0 Z0 E_a F_sums_a F_indices_a F_size_a ge_a) rfl (by decide) (by decide) (by decide) (by decide) (g := (mkF m 139 #[SI y0, SI y1, SI y2, SI y3, SI y4, SI y5, SI ia, SI ib, SI ic, SI ip, SD z0, S2, SD z1, S2, SD z2, S2, SD z3, S2, SI f0, SI 2, SI 1, SI 1, SI 0, SU, SU, SU, SU, SU] [(.ref a), (.ref a)])) rfl (by rw [hml]; rfl) (lenOf pd2 rfl) rfl (by show 2 * 0 + _ ≤ _; exact Nat.le_of_eq rfl) (hb hby at_139)
    obtain ⟨bs, bi, rfl, EA, FS, FI, FN, VS, VI, gs, gi, n1, n2, n3, K120, NL120⟩ := hQ120
    have N0 := Fr.app N0 NL120
    have e120 : T120.heap = T120.heap := rfl
    have E_a := E_a.keep K120
    have Z0 := Nat.le_trans Z0 K120.1
    refine Goes.by (T' := T120) (g' := (mkF m 142 #[SI y0, SI y1, SI y2, SI y3, SI y4, SI y5, SI ia, SI ib, SI ic, SI ip, SD z0, S2, SD z1, S2, SD z2, S2, SD z3, S2, SI f0, SI 2, SI 1, SI 1, SI 0, SU, SU, SU, SU, SU] [(.ref a)])) st120 ?_
    refine Goes.by (T' := T120) (g' := (mkF m 144 #[SI y0, SI y1, SI y2, SI y3, SI y4, SI y5, SI ia, SI ib, SI ic, SI ip, SD z0, S2, SD z1, S2, SD z2, S2, SD z3, S2, SI f0, SI 2, SI 1, SI 1, SI 0, SA a, SU, SU, SU, SU] [])) (fun _ k => XS.astore X120.here hx rfl (hb hby at_142) rfl rfl (l' := #[SI y0, SI y1, SI y2, SI y3, SI y4, SI y5, SI ia, SI ib, SI ic, SI ip, SD z0, S2, SD z1, S2, SD z2, S2, SD z3, S2, SI f0, SI 2, SI 1, SI 1, SI 0, SA a, SU, SU, SU, SU]) rfl k) ?_
    refine Goes.by (T' := T120) (g' := (mkF m 146 #[SI y0, SI y1, SI y2, SI y3, SI y4, SI y5, SI ia, SI ib, SI ic, SI ip, SD z0, S2, SD z1, S2, SD z2, S2, SD z3, S2, SI f0, SI 2, SI 1, SI 1, SI 0, SA a, SU, SU, SU, SU] [(.int f0)])) (fun _ k => XS.iload X120.here hx rfl (hb hby at_144) rfl k) ?_
    have restU : ∀ (br : Addr) (xr yr : List Value) (l0 l1 l2 l3 l4 l5 l9 l10 l11 l18 l19 : Slot)  (Tj121 : State) (hj121 : Heap) (Lj121 : List Loc), Stand p l e room_1 s m #[(.int y0), (.int y1), (.int y2), (.int y3), (.int y4), (.int y5)] below meth c Tj121 Lj121 4 259 → Tj121.heap = hj121 → Fr n0 Lj121 → n0 ≤ hj121.size → Exa Z hj121 a "com/example/gibbon/gibbon/analysis/SparseSum" → Fld Z hj121 a "com/example/gibbon/gibbon/analysis/SparseSum" "sums" "[D" (.ref br) → Fld Z hj121 a "com/example/gibbon/gibbon/analysis/SparseSum" "indices" "[I" (.ref bi) → Fld Z hj121 a "com/example/gibbon/gibbon/analysis/SparseSum" "size" "I" (.int (0 : Int32)) → Sar Z hj121 br .double xr → Sar Z hj121 bi .int yr → OwnRep (fun _ => 0) [] xr yr 0 → n0 ≤ br → a ≠ br → br ≠ bi → Goes p e below (Fin1 below s room_1 (fun v h L => v = some (.int 1) ∧ Fr n0 L)) Tj121 (mkF m 164 #[l0, l1, l2, l3, l4, l5, SI ia, SI ib, SI ic, l9, l10, l11, SD z1, S2, SD z2, S2, SD z3, S2, l18, l19, SI 1, SI 1, SI 0, SA a, SU, SU, SU, SU] []) := by
      intro br xr yr l0 l1 l2 l3 l4 l5 l9 l10 l11 l18 l19 Tj121 hj121 Lj121 Xj121 ej121 N0 Z0 EA FS FI FN VS VI hR gr n4 n5
      by_cases hab : ia = ib
      · subst hab
        refine Goes.by (T' := Tj121) (g' := (mkF m 166 #[l0, l1, l2, l3, l4, l5, SI ia, SI ia, SI ic, l9, l10, l11, SD z1, S2, SD z2, S2, SD z3, S2, l18, l19, SI 1, SI 1, SI 0, SA a, SU, SU, SU, SU] [(.int (1 : Int32))])) (fun _ k => XS.iload Xj121.here hx rfl (hb hby at_164) rfl k) ?_
        refine Goes.by (T' := Tj121) (g' := (mkF m 169 #[l0, l1, l2, l3, l4, l5, SI ia, SI ia, SI ic, l9, l10, l11, SD z1, S2, SD z2, S2, SD z3, S2, l18, l19, SI 1, SI 1, SI 0, SA a, SU, SU, SU, SU] [])) (fun _ k => XS.ifNo Xj121.here hx rfl (hb hby at_166) rfl (by decide) k) ?_
        refine Goes.by (T' := Tj121) (g' := (mkF m 171 #[l0, l1, l2, l3, l4, l5, SI ia, SI ia, SI ic, l9, l10, l11, SD z1, S2, SD z2, S2, SD z3, S2, l18, l19, SI 1, SI 1, SI 0, SA a, SU, SU, SU, SU] [(.ref a)])) (fun _ k => XS.aload Xj121.here hx rfl (hb hby at_169) rfl rfl k) ?_
        refine Goes.by (T' := Tj121) (g' := (mkF m 173 #[l0, l1, l2, l3, l4, l5, SI ia, SI ia, SI ic, l9, l10, l11, SD z1, S2, SD z2, S2, SD z3, S2, l18, l19, SI 1, SI 1, SI 0, SA a, SU, SU, SU, SU] [(.int ia), (.ref a)])) (fun _ k => XS.iload Xj121.here hx rfl (hb hby at_171) rfl k) ?_
        refine Goes.by (T' := Tj121) (g' := (mkF m 175 #[l0, l1, l2, l3, l4, l5, SI ia, SI ia, SI ic, l9, l10, l11, SD z1, S2, SD z2, S2, SD z3, S2, l18, l19, SI 1, SI 1, SI 0, SA a, SU, SU, SU, SU] [(.double z1), (.int ia), (.ref a)])) (fun _ k => XS.dload Xj121.here hx rfl (hb hby at_173) rfl k) ?_
        obtain ⟨v122, T122, L122, X122, hQ122, st122⟩ := callV Xj121 hx hZ (y := (⟨"com/example/gibbon/gibbon/analysis/SparseSum", "add", "(ID)D"⟩ : MethodName)) hown (hw _ (List.mem_of_getElem? (i := 15) rfl)) (hw _ (List.mem_of_getElem? (i := 16) rfl)) (hw _ (List.mem_of_getElem? (i := 18) rfl)) (hw _ (List.mem_of_getElem? (i := 17) rfl)) (hw _ (List.mem_of_getElem? (i := 19) rfl)) (hw _ (List.mem_of_getElem? (i := 2) rfl)) (by decide) ej121 EA (argsL := [(.int ia), (.double z1)]) (rest := []) (W := 0) (rm_addU l Z a0 hw a br bi (0 : Int32) ia ka z1 w1.toInt (fun _ => 0) [] _ _ hj121 n0 Z0 EA FS FI FN VS VI hR hka (by omega) D_z1 bw1 (by decide) (by simp) ge_a gr gi n4 n2 n5) rfl (by decide) (by decide) (by decide) (by decide) (g := (mkF m 175 #[l0, l1, l2, l3, l4, l5, SI ia, SI ia, SI ic, l9, l10, l11, SD z1, S2, SD z2, S2, SD z3, S2, l18, l19, SI 1, SI 1, SI 0, SA a, SU, SU, SU, SU] [(.double z1), (.int ia), (.ref a)])) rfl (by rw [hml]; rfl) (lenOf pd3 rfl) rfl (by show 2 * 0 + _ ≤ _; exact Nat.le_of_eq rfl) (hb hby at_175)
        obtain ⟨rq11, b11, nq11, x11, y11, rfl, -, FS, FI, FN, VS, VI, hR11, hl11, hpr11, g11, na11, nb11, K122, NL122⟩ := hQ122
        have N0 := Fr.app N0 NL122
        have e122 : T122.heap = T122.heap := rfl
        have EA := EA.keep K122
        have Z0 := Nat.le_trans Z0 K122.1
        refine Goes.by (T' := T122) (g' := (mkF m 178 #[l0, l1, l2, l3, l4, l5, SI ia, SI ia, SI ic, l9, l10, l11, SD z1, S2, SD z2, S2, SD z3, S2, l18, l19, SI 1, SI 1, SI 0, SA a, SU, SU, SU, SU] [(.double rq11)])) st122 ?_
        rw [if_pos rfl] at hR11
        obtain rfl : nq11 = (1 : Int32) := Int32.toInt_inj.mp (by rw [hR11.2.2.2.2.1]; rfl)
        refine Goes.by (T' := T122) (g' := (mkF m 179 #[l0, l1, l2, l3, l4, l5, SI ia, SI ia, SI ic, l9, l10, l11, SD z1, S2, SD z2, S2, SD z3, S2, l18, l19, SI 1, SI 1, SI 0, SA a, SU, SU, SU, SU] [])) (fun _ k => XS.pop2W X122.here hx rfl (hb hby at_178) rfl rfl k) ?_
        refine Goes.by (T' := T122) (g' := (mkF m 181 #[l0, l1, l2, l3, l4, l5, SI ia, SI ia, SI ic, l9, l10, l11, SD z1, S2, SD z2, S2, SD z3, S2, l18, l19, SI 1, SI 1, SI 0, SA a, SU, SU, SU, SU] [(.int (1 : Int32))])) (fun _ k => XS.iload X122.here hx rfl (hb hby at_179) rfl k) ?_
        refine Goes.by (T' := T122) (g' := (mkF m 184 #[l0, l1, l2, l3, l4, l5, SI ia, SI ia, SI ic, l9, l10, l11, SD z1, S2, SD z2, S2, SD z3, S2, l18, l19, SI 1, SI 1, SI 0, SA a, SU, SU, SU, SU] [])) (fun _ k => XS.ifNo X122.here hx rfl (hb hby at_181) rfl (by decide) k) ?_
        refine Goes.by (T' := T122) (g' := (mkF m 186 #[l0, l1, l2, l3, l4, l5, SI ia, SI ia, SI ic, l9, l10, l11, SD z1, S2, SD z2, S2, SD z3, S2, l18, l19, SI 1, SI 1, SI 0, SA a, SU, SU, SU, SU] [(.ref a)])) (fun _ k => XS.aload X122.here hx rfl (hb hby at_184) rfl rfl k) ?_
        refine Goes.by (T' := T122) (g' := (mkF m 188 #[l0, l1, l2, l3, l4, l5, SI ia, SI ia, SI ic, l9, l10, l11, SD z1, S2, SD z2, S2, SD z3, S2, l18, l19, SI 1, SI 1, SI 0, SA a, SU, SU, SU, SU] [(.int ia), (.ref a)])) (fun _ k => XS.iload X122.here hx rfl (hb hby at_186) rfl k) ?_
        refine Goes.by (T' := T122) (g' := (mkF m 190 #[l0, l1, l2, l3, l4, l5, SI ia, SI ia, SI ic, l9, l10, l11, SD z1, S2, SD z2, S2, SD z3, S2, l18, l19, SI 1, SI 1, SI 0, SA a, SU, SU, SU, SU] [(.double z2), (.int ia), (.ref a)])) (fun _ k => XS.dload X122.here hx rfl (hb hby at_188) rfl k) ?_
        have fv2 : (own_upd (fun _ => 0) ka w1.toInt) ka = w1.toInt := by simp [own_upd]
        obtain ⟨v123, T123, L123, X123, hQ123, st123⟩ := callV X122 hx hZ (y := (⟨"com/example/gibbon/gibbon/analysis/SparseSum", "add", "(ID)D"⟩ : MethodName)) hown (hw _ (List.mem_of_getElem? (i := 15) rfl)) (hw _ (List.mem_of_getElem? (i := 16) rfl)) (hw _ (List.mem_of_getElem? (i := 18) rfl)) (hw _ (List.mem_of_getElem? (i := 17) rfl)) (hw _ (List.mem_of_getElem? (i := 19) rfl)) (hw _ (List.mem_of_getElem? (i := 2) rfl)) (by decide) e122 EA (argsL := [(.int ia), (.double z2)]) (rest := []) (W := 0) (rm_addU l Z a0 hw a b11 bi (1 : Int32) ia ka z2 w2.toInt (own_upd (fun _ => 0) ka w1.toInt) ([] ++ [ka]) _ _ T122.heap n0 Z0 EA FS FI FN VS VI hR11 hka (by omega) D_z2 bw2 (by rw [fv2]; omega) (by simp) ge_a g11 gi na11 n2 nb11) rfl (by decide) (by decide) (by decide) (by decide) (g := (mkF m 190 #[l0, l1, l2, l3, l4, l5, SI ia, SI ia, SI ic, l9, l10, l11, SD z1, S2, SD z2, S2, SD z3, S2, l18, l19, SI 1, SI 1, SI 0, SA a, SU, SU, SU, SU] [(.double z2), (.int ia), (.ref a)])) rfl (by rw [hml]; rfl) (lenOf pd3 rfl) rfl (by show 2 * 0 + _ ≤ _; exact Nat.le_of_eq rfl) (hb hby at_190)
        obtain ⟨rq12, b12, nq12, x12, y12, rfl, -, FS, FI, FN, VS, VI, hR12, hl12, hpr12, g12, na12, nb12, K123, NL123⟩ := hQ123
        have N0 := Fr.app N0 NL123
        have e123 : T123.heap = T123.heap := rfl
        have EA := EA.keep K123
        have Z0 := Nat.le_trans Z0 K123.1
        refine Goes.by (T' := T123) (g' := (mkF m 193 #[l0, l1, l2, l3, l4, l5, SI ia, SI ia, SI ic, l9, l10, l11, SD z1, S2, SD z2, S2, SD z3, S2, l18, l19, SI 1, SI 1, SI 0, SA a, SU, SU, SU, SU] [(.double rq12)])) st123 ?_
        rw [if_neg (by rw [fv2]; omega)] at hR12
        obtain rfl : nq12 = (1 : Int32) := Int32.toInt_inj.mp (by rw [hR12.2.2.2.2.1]; rfl)
        refine Goes.by (T' := T123) (g' := (mkF m 194 #[l0, l1, l2, l3, l4, l5, SI ia, SI ia, SI ic, l9, l10, l11, SD z1, S2, SD z2, S2, SD z3, S2, l18, l19, SI 1, SI 1, SI 0, SA a, SU, SU, SU, SU] [])) (fun _ k => XS.pop2W X123.here hx rfl (hb hby at_193) rfl rfl k) ?_
        refine Goes.by (T' := T123) (g' := (mkF m 196 #[l0, l1, l2, l3, l4, l5, SI ia, SI ia, SI ic, l9, l10, l11, SD z1, S2, SD z2, S2, SD z3, S2, l18, l19, SI 1, SI 1, SI 0, SA a, SU, SU, SU, SU] [(.int (0 : Int32))])) (fun _ k => XS.iload X123.here hx rfl (hb hby at_194) rfl k) ?_
        refine Goes.by (T' := T123) (g' := (mkF m 209 #[l0, l1, l2, l3, l4, l5, SI ia, SI ia, SI ic, l9, l10, l11, SD z1, S2, SD z2, S2, SD z3, S2, l18, l19, SI 1, SI 1, SI 0, SA a, SU, SU, SU, SU] [])) (fun _ k => XS.ifYes X123.here hx rfl (pc0 := 196) (pc' := 209) rfl (hb hby at_196) rfl (by decide) (by decide) (by decide) k) ?_
        refine Goes.by (T' := T123) (g' := (mkF m 210 #[l0, l1, l2, l3, l4, l5, SI ia, SI ia, SI ic, l9, l10, l11, SD z1, S2, SD z2, S2, SD z3, S2, l18, l19, SI 1, SI 1, SI 0, SA a, SU, SU, SU, SU] [(.int (3 : Int32))])) (fun _ k => XS.iconst X123.here hx rfl (hb hby at_209)  k) ?_
        obtain ⟨T124, h124, k124, X124, e124, E124, A124, st124⟩ := newP X123 hx hZ (hw _ (List.mem_of_getElem? (i := 9) rfl)) e123 (g := (mkF m 210 #[l0, l1, l2, l3, l4, l5, SI ia, SI ia, SI ic, l9, l10, l11, SD z1, S2, SD z2, S2, SD z3, S2, l18, l19, SI 1, SI 1, SI 0, SA a, SU, SU, SU, SU] [(.int (3 : Int32))])) rfl (hb hby at_210) rfl (by decide) (cap := 3) (by decide) (by decide) (by decide) (by decide)
        obtain ⟨ea, g124⟩ : ∃ z, z = T123.heap.size := ⟨_, rfl⟩
        rw [← g124] at A124 st124
        have ne_a_ea : a ≠ ea := fun q => Nat.lt_irrefl _ (Nat.lt_of_lt_of_eq EA.lt (g124.symm.trans q.symm))
        have ne_b12_ea : b12 ≠ ea := fun q => Nat.lt_irrefl _ (Nat.lt_of_lt_of_eq VS.lt (g124.symm.trans q.symm))
        have ne_bi_ea : bi ≠ ea := fun q => Nat.lt_irrefl _ (Nat.lt_of_lt_of_eq VI.lt (g124.symm.trans q.symm))
        have ge_ea : n0 ≤ ea := Nat.le_trans Z0 (Nat.le_of_eq g124.symm)
        have EA := EA.ext E124
        have FS := FS.ext E124
        have FI := FI.ext E124
        have FN := FN.ext E124
        have VS := VS.ext E124
        have VI := VI.ext E124
        have Z0 := Nat.le_trans Z0 E124.1
        have V_ea : Sar Z h124 ea .double [(.double (0 : UInt64)), (.double (0 : UInt64)), (.double (0 : UInt64))] := Sar.new (n := 3) A124 (by decide)
        refine Goes.by (T' := T124) (g' := (mkF m 212 #[l0, l1, l2, l3, l4, l5, SI ia, SI ia, SI ic, l9, l10, l11, SD z1, S2, SD z2, S2, SD z3, S2, l18, l19, SI 1, SI 1, SI 0, SA a, SU, SU, SU, SU] [(.ref ea)])) st124 ?_
        refine Goes.by (T' := T124) (g' := (mkF m 214 #[l0, l1, l2, l3, l4, l5, SI ia, SI ia, SI ic, l9, l10, l11, SD z1, S2, SD z2, S2, SD z3, S2, l18, l19, SI 1, SI 1, SI 0, SA a, SA ea, SU, SU, SU] [])) (fun _ k => XS.astore X124.here hx rfl (hb hby at_212) rfl rfl (l' := #[l0, l1, l2, l3, l4, l5, SI ia, SI ia, SI ic, l9, l10, l11, SD z1, S2, SD z2, S2, SD z3, S2, l18, l19, SI 1, SI 1, SI 0, SA a, SA ea, SU, SU, SU]) rfl k) ?_
        refine Goes.by (T' := T124) (g' := (mkF m 215 #[l0, l1, l2, l3, l4, l5, SI ia, SI ia, SI ic, l9, l10, l11, SD z1, S2, SD z2, S2, SD z3, S2, l18, l19, SI 1, SI 1, SI 0, SA a, SA ea, SU, SU, SU] [(.int (0 : Int32))])) (fun _ k => XS.iconst X124.here hx rfl (hb hby at_214)  k) ?_
        refine Goes.by (T' := T124) (g' := (mkF m 217 #[l0, l1, l2, l3, l4, l5, SI ia, SI ia, SI ic, l9, l10, l11, SD z1, S2, SD z2, S2, SD z3, S2, l18, l19, SI 1, SI 1, SI 0, SA a, SA ea, SI 0, SU, SU] [])) (fun _ k => XS.istore X124.here hx rfl (hb hby at_215) rfl (l' := #[l0, l1, l2, l3, l4, l5, SI ia, SI ia, SI ic, l9, l10, l11, SD z1, S2, SD z2, S2, SD z3, S2, l18, l19, SI 1, SI 1, SI 0, SA a, SA ea, SI 0, SU, SU]) rfl k) ?_
        refine Goes.by (T' := T124) (g' := (mkF m 219 #[l0, l1, l2, l3, l4, l5, SI ia, SI ia, SI ic, l9, l10, l11, SD z1, S2, SD z2, S2, SD z3, S2, l18, l19, SI 1, SI 1, SI 0, SA a, SA ea, SI 0, SU, SU] [(.int (1 : Int32))])) (fun _ k => XS.iload X124.here hx rfl (hb hby at_217) rfl k) ?_
        refine Goes.by (T' := T124) (g' := (mkF m 222 #[l0, l1, l2, l3, l4, l5, SI ia, SI ia, SI ic, l9, l10, l11, SD z1, S2, SD z2, S2, SD z3, S2, l18, l19, SI 1, SI 1, SI 0, SA a, SA ea, SI 0, SU, SU] [])) (fun _ k => XS.ifNo X124.here hx rfl (hb hby at_219) rfl (by decide) k) ?_
        refine Goes.by (T' := T124) (g' := (mkF m 224 #[l0, l1, l2, l3, l4, l5, SI ia, SI ia, SI ic, l9, l10, l11, SD z1, S2, SD z2, S2, SD z3, S2, l18, l19, SI 1, SI 1, SI 0, SA a, SA ea, SI 0, SU, SU] [(.double z1)])) (fun _ k => XS.dload X124.here hx rfl (hb hby at_222) rfl k) ?_
        refine Goes.by (T' := T124) (g' := (mkF m 226 #[l0, l1, l2, l3, l4, l5, SI ia, SI ia, SI ic, l9, l10, l11, SD z1, S2, SD z2, S2, SD z3, S2, l18, l19, SI 1, SI 1, SI 0, SA a, SA ea, SI 0, SD z1, S2] [])) (fun _ k => XS.dstore X124.here hx rfl (hb hby at_224) rfl (l' := #[l0, l1, l2, l3, l4, l5, SI ia, SI ia, SI ic, l9, l10, l11, SD z1, S2, SD z2, S2, SD z3, S2, l18, l19, SI 1, SI 1, SI 0, SA a, SA ea, SI 0, SD z1, S2]) rfl k) ?_
        refine Goes.by (T' := T124) (g' := (mkF m 228 #[l0, l1, l2, l3, l4, l5, SI ia, SI ia, SI ic, l9, l10, l11, SD z1, S2, SD z2, S2, SD z3, S2, l18, l19, SI 1, SI 1, SI 0, SA a, SA ea, SI 0, SD z1, S2] [(.int (1 : Int32))])) (fun _ k => XS.iload X124.here hx rfl (hb hby at_226) rfl k) ?_
        refine Goes.by (T' := T124) (g' := (mkF m 231 #[l0, l1, l2, l3, l4, l5, SI ia, SI ia, SI ic, l9, l10, l11, SD z1, S2, SD z2, S2, SD z3, S2, l18, l19, SI 1, SI 1, SI 0, SA a, SA ea, SI 0, SD z1, S2] [])) (fun _ k => XS.ifNo X124.here hx rfl (hb hby at_228) rfl (by decide) k) ?_
        refine Goes.by (T' := T124) (g' := (mkF m 233 #[l0, l1, l2, l3, l4, l5, SI ia, SI ia, SI ic, l9, l10, l11, SD z1, S2, SD z2, S2, SD z3, S2, l18, l19, SI 1, SI 1, SI 0, SA a, SA ea, SI 0, SD z1, S2] [(.int ia)])) (fun _ k => XS.iload X124.here hx rfl (hb hby at_231) rfl k) ?_
        refine Goes.by (T' := T124) (g' := (mkF m 235 #[l0, l1, l2, l3, l4, l5, SI ia, SI ia, SI ic, l9, l10, l11, SD z1, S2, SD z2, S2, SD z3, S2, l18, l19, SI 1, SI 1, SI 0, SA a, SA ea, SI 0, SD z1, S2] [(.int ia), (.int ia)])) (fun _ k => XS.iload X124.here hx rfl (hb hby at_233) rfl k) ?_
        refine Goes.by (T' := T124) (g' := (mkF m 238 #[l0, l1, l2, l3, l4, l5, SI ia, SI ia, SI ic, l9, l10, l11, SD z1, S2, SD z2, S2, SD z3, S2, l18, l19, SI 1, SI 1, SI 0, SA a, SA ea, SI 0, SD z1, S2] [])) (fun _ k => XS.icmpNo X124.here hx rfl (hb hby at_235) rfl (teq rfl).2 k) ?_
        refine Goes.by (T' := T124) (g' := (mkF m 240 #[l0, l1, l2, l3, l4, l5, SI ia, SI ia, SI ic, l9, l10, l11, SD z1, S2, SD z2, S2, SD z3, S2, l18, l19, SI 1, SI 1, SI 0, SA a, SA ea, SI 0, SD z1, S2] [(.double z1)])) (fun _ k => XS.dload X124.here hx rfl (hb hby at_238) rfl k) ?_
        refine Goes.by (T' := T124) (g' := (mkF m 242 #[l0, l1, l2, l3, l4, l5, SI ia, SI ia, SI ic, l9, l10, l11, SD z1, S2, SD z2, S2, SD z3, S2, l18, l19, SI 1, SI 1, SI 0, SA a, SA ea, SI 0, SD z1, S2] [(.double z2), (.double z1)])) (fun _ k => XS.dload X124.here hx rfl (hb hby at_240) rfl k) ?_
        obtain ⟨t1, q_t1⟩ : ∃ zz, FP.dadd z1 z2 = zz := ⟨_, rfl⟩
        have D_t1 : Core.DInt (w1.toInt + w2.toInt) t1 := DInt_add q_t1 D_z1 D_z2 (by omega)
        refine Goes.by (T' := T124) (g' := (mkF m 243 #[l0, l1, l2, l3, l4, l5, SI ia, SI ia, SI ic, l9, l10, l11, SD z1, S2, SD z2, S2, SD z3, S2, l18, l19, SI 1, SI 1, SI 0, SA a, SA ea, SI 0, SD z1, S2] [(.double t1)])) (fun _ k => XS.daddS X124.here hx rfl (hb hby at_242) rfl (by rw [q_t1]; exact DInt_nn D_t1) q_t1 k) ?_
        refine Goes.by (T' := T124) (g' := (mkF m 245 #[l0, l1, l2, l3, l4, l5, SI ia, SI ia, SI ic, l9, l10, l11, SD z1, S2, SD z2, S2, SD z3, S2, l18, l19, SI 1, SI 1, SI 0, SA a, SA ea, SI 0, SD t1, S2] [])) (fun _ k => XS.dstore X124.here hx rfl (hb hby at_243) rfl (l' := #[l0, l1, l2, l3, l4, l5, SI ia, SI ia, SI ic, l9, l10, l11, SD z1, S2, SD z2, S2, SD z3, S2, l18, l19, SI 1, SI 1, SI 0, SA a, SA ea, SI 0, SD t1, S2]) rfl k) ?_
        refine Goes.by (T' := T124) (g' := (mkF m 247 #[l0, l1, l2, l3, l4, l5, SI ia, SI ia, SI ic, l9, l10, l11, SD z1, S2, SD z2, S2, SD z3, S2, l18, l19, SI 1, SI 1, SI 0, SA a, SA ea, SI 0, SD t1, S2] [(.int (0 : Int32))])) (fun _ k => XS.iload X124.here hx rfl (hb hby at_245) rfl k) ?_
        refine Goes.by (T' := T124) (g' := (mkF m 264 #[l0, l1, l2, l3, l4, l5, SI ia, SI ia, SI ic, l9, l10, l11, SD z1, S2, SD z2, S2, SD z3, S2, l18, l19, SI 1, SI 1, SI 0, SA a, SA ea, SI 0, SD t1, S2] [])) (fun _ k => XS.ifYes X124.here hx rfl (pc0 := 247) (pc' := 264) rfl (hb hby at_247) rfl (by decide) (by decide) (by decide) k) ?_
        refine Goes.by (T' := T124) (g' := (mkF m 266 #[l0, l1, l2, l3, l4, l5, SI ia, SI ia, SI ic, l9, l10, l11, SD z1, S2, SD z2, S2, SD z3, S2, l18, l19, SI 1, SI 1, SI 0, SA a, SA ea, SI 0, SD t1, S2] [(.ref ea)])) (fun _ k => XS.aload X124.here hx rfl (hb hby at_264) rfl rfl k) ?_
        refine Goes.by (T' := T124) (g' := (mkF m 268 #[l0, l1, l2, l3, l4, l5, SI ia, SI ia, SI ic, l9, l10, l11, SD z1, S2, SD z2, S2, SD z3, S2, l18, l19, SI 1, SI 1, SI 0, SA a, SA ea, SI 0, SD t1, S2] [(.int (0 : Int32)), (.ref ea)])) (fun _ k => XS.iload X124.here hx rfl (hb hby at_266) rfl k) ?_
        refine Goes.by (T' := T124) (g' := (mkF m 270 #[l0, l1, l2, l3, l4, l5, SI ia, SI ia, SI ic, l9, l10, l11, SD z1, S2, SD z2, S2, SD z3, S2, l18, l19, SI 1, SI 1, SI 0, SA a, SA ea, SI 0, SD t1, S2] [(.double t1), (.int (0 : Int32)), (.ref ea)])) (fun _ k => XS.dload X124.here hx rfl (hb hby at_268) rfl k) ?_
        obtain ⟨T125, h125, X125, e125, W125, V125, st125⟩ := stDS X124 hx hZ e124 V_ea (j := (0 : Int32)) 0 (by decide) (by show 0 < 3; decide) (g := (mkF m 270 #[l0, l1, l2, l3, l4, l5, SI ia, SI ia, SI ic, l9, l10, l11, SD z1, S2, SD z2, S2, SD z3, S2, l18, l19, SI 1, SI 1, SI 0, SA a, SA ea, SI 0, SD t1, S2] [(.double t1), (.int (0 : Int32)), (.ref ea)])) rfl rfl (hb hby at_270)
        have N0 := Fr.snoc X125 N0 ge_ea
        have EA := EA.wr W125
        have FS := FS.other W125 (Or.inl ne_a_ea)
        have FI := FI.other W125 (Or.inl ne_a_ea)
        have FN := FN.other W125 (Or.inl ne_a_ea)
        have VS := VS.other W125 ne_b12_ea
        have VI := VI.other W125 ne_bi_ea
        have Z0 := Nat.le_trans Z0 (Nat.le_of_eq W125.size.symm)
        have V_ea : Sar Z h125 ea .double [(.double t1), (.double (0 : UInt64)), (.double (0 : UInt64))] := V125
        refine Goes.by (T' := T125) (g' := (mkF m 271 #[l0, l1, l2, l3, l4, l5, SI ia, SI ia, SI ic, l9, l10, l11, SD z1, S2, SD z2, S2, SD z3, S2, l18, l19, SI 1, SI 1, SI 0, SA a, SA ea, SI 0, SD t1, S2] [])) st125 ?_
        refine Goes.by (T' := T125) (g' := (mkF m 273 #[l0, l1, l2, l3, l4, l5, SI ia, SI ia, SI ic, l9, l10, l11, SD z1, S2, SD z2, S2, SD z3, S2, l18, l19, SI 1, SI 1, SI 0, SA a, SA ea, SI 0, SD t1, S2] [(.int (0 : Int32))])) (fun _ k => XS.iload X125.here hx rfl (hb hby at_271) rfl k) ?_
        refine Goes.by (T' := T125) (g' := (mkF m 274 #[l0, l1, l2, l3, l4, l5, SI ia, SI ia, SI ic, l9, l10, l11, SD z1, S2, SD z2, S2, SD z3, S2, l18, l19, SI 1, SI 1, SI 0, SA a, SA ea, SI 0, SD t1, S2] [(.int (1 : Int32)), (.int (0 : Int32))])) (fun _ k => XS.iconst X125.here hx rfl (hb hby at_273)  k) ?_
        refine Goes.by (T' := T125) (g' := (mkF m 275 #[l0, l1, l2, l3, l4, l5, SI ia, SI ia, SI ic, l9, l10, l11, SD z1, S2, SD z2, S2, SD z3, S2, l18, l19, SI 1, SI 1, SI 0, SA a, SA ea, SI 0, SD t1, S2] [(.int (1 : Int32))])) (fun _ k => XS.iadd X125.here hx rfl (hb hby at_274) rfl k) ?_
        refine Goes.by (T' := T125) (g' := (mkF m 277 #[l0, l1, l2, l3, l4, l5, SI ia, SI ia, SI ic, l9, l10, l11, SD z1, S2, SD z2, S2, SD z3, S2, l18, l19, SI 1, SI 1, SI 0, SA a, SA ea, SI 1, SD t1, S2] [])) (fun _ k => XS.istore X125.here hx rfl (hb hby at_275) rfl (l' := #[l0, l1, l2, l3, l4, l5, SI ia, SI ia, SI ic, l9, l10, l11, SD z1, S2, SD z2, S2, SD z3, S2, l18, l19, SI 1, SI 1, SI 0, SA a, SA ea, SI 1, SD t1, S2]) rfl k) ?_
        refine Goes.by (T' := T125) (g' := (mkF m 279 #[l0, l1, l2, l3, l4, l5, SI ia, SI ia, SI ic, l9, l10, l11, SD z1, S2, SD z2, S2, SD z3, S2, l18, l19, SI 1, SI 1, SI 0, SA a, SA ea, SI 1, SD t1, S2] [(.int (1 : Int32))])) (fun _ k => XS.iload X125.here hx rfl (hb hby at_277) rfl k) ?_
        refine Goes.by (T' := T125) (g' := (mkF m 282 #[l0, l1, l2, l3, l4, l5, SI ia, SI ia, SI ic, l9, l10, l11, SD z1, S2, SD z2, S2, SD z3, S2, l18, l19, SI 1, SI 1, SI 0, SA a, SA ea, SI 1, SD t1, S2] [])) (fun _ k => XS.ifNo X125.here hx rfl (hb hby at_279) rfl (by decide) k) ?_
        refine Goes.by (T' := T125) (g' := (mkF m 284 #[l0, l1, l2, l3, l4, l5, SI ia, SI ia, SI ic, l9, l10, l11, SD z1, S2, SD z2, S2, SD z3, S2, l18, l19, SI 1, SI 1, SI 0, SA a, SA ea, SI 1, SD t1, S2] [(.int ia)])) (fun _ k => XS.iload X125.here hx rfl (hb hby at_282) rfl k) ?_
        refine Goes.by (T' := T125) (g' := (mkF m 286 #[l0, l1, l2, l3, l4, l5, SI ia, SI ia, SI ic, l9, l10, l11, SD z1, S2, SD z2, S2, SD z3, S2, l18, l19, SI 1, SI 1, SI 0, SA a, SA ea, SI 1, SD t1, S2] [(.int ia), (.int ia)])) (fun _ k => XS.iload X125.here hx rfl (hb hby at_284) rfl k) ?_
        refine Goes.by (T' := T125) (g' := (mkF m 325 #[l0, l1, l2, l3, l4, l5, SI ia, SI ia, SI ic, l9, l10, l11, SD z1, S2, SD z2, S2, SD z3, S2, l18, l19, SI 1, SI 1, SI 0, SA a, SA ea, SI 1, SD t1, S2] [])) (fun _ k => XS.icmpYes X125.here hx rfl (pc0 := 286) (pc' := 325) rfl (hb hby at_286) rfl (teq rfl).1 (by decide) (by decide) k) ?_
        refine Goes.by (T' := T125) (g' := (mkF m 327 #[l0, l1, l2, l3, l4, l5, SI ia, SI ia, SI ic, l9, l10, l11, SD z1, S2, SD z2, S2, SD z3, S2, l18, l19, SI 1, SI 1, SI 0, SA a, SA ea, SI 1, SD t1, S2] [(.int (0 : Int32))])) (fun _ k => XS.iload X125.here hx rfl (hb hby at_325) rfl k) ?_
        refine Goes.by (T' := T125) (g' := (mkF m 357 #[l0, l1, l2, l3, l4, l5, SI ia, SI ia, SI ic, l9, l10, l11, SD z1, S2, SD z2, S2, SD z3, S2, l18, l19, SI 1, SI 1, SI 0, SA a, SA ea, SI 1, SD t1, S2] [])) (fun _ k => XS.ifYes X125.here hx rfl (pc0 := 327) (pc' := 357) rfl (hb hby at_327) rfl (by decide) (by decide) (by decide) k) ?_
        refine Goes.by (T' := T125) (g' := (mkF m 359 #[l0, l1, l2, l3, l4, l5, SI ia, SI ia, SI ic, l9, l10, l11, SD z1, S2, SD z2, S2, SD z3, S2, l18, l19, SI 1, SI 1, SI 0, SA a, SA ea, SI 1, SD t1, S2] [(.ref a)])) (fun _ k => XS.aload X125.here hx rfl (hb hby at_357) rfl rfl k) ?_
        obtain ⟨hq0, v0, hy0, hv0⟩ := hR12.2.2.2.2.2.2 0 ka (by simp)
        obtain ⟨d0, hx0, Dd0⟩ := hR12.2.1 ka hq0
        have fe0 : (own_upd (own_upd (fun _ => 0) ka w1.toInt) ka w2.toInt) ka = w1.toInt + w2.toInt := by simp [own_upd]
        rw [fe0] at Dd0
        exact cmp1 a b12 bi ea _ _ _ _ _ v0 ka d0 (w1.toInt + w2.toInt) _ _ _ _ _ _ _ _ _ _ _ _ _ _ _ _ _ _ _ _ _ _ _ _ _ _ _ (X125.wide (fun x hx _ => hx) (by decide) (by decide)) e125 N0 Z0 EA FS FI FN VS VI V_ea ge_a g12 gi ge_ea na12 nb12 n2 ne_a_ea ne_b12_ea ne_bi_ea hy0 hv0 hx0 Dd0 D_t1
      · have nkab : ka ≠ kb := fun q => hab (Int32.toInt_inj.mp (by rw [hka, hkb, q]))
        refine Goes.by (T' := Tj121) (g' := (mkF m 166 #[l0, l1, l2, l3, l4, l5, SI ia, SI ib, SI ic, l9, l10, l11, SD z1, S2, SD z2, S2, SD z3, S2, l18, l19, SI 1, SI 1, SI 0, SA a, SU, SU, SU, SU] [(.int (1 : Int32))])) (fun _ k => XS.iload Xj121.here hx rfl (hb hby at_164) rfl k) ?_
        refine Goes.by (T' := Tj121) (g' := (mkF m 169 #[l0, l1, l2, l3, l4, l5, SI ia, SI ib, SI ic, l9, l10, l11, SD z1, S2, SD z2, S2, SD z3, S2, l18, l19, SI 1, SI 1, SI 0, SA a, SU, SU, SU, SU] [])) (fun _ k => XS.ifNo Xj121.here hx rfl (hb hby at_166) rfl (by decide) k) ?_
        refine Goes.by (T' := Tj121) (g' := (mkF m 171 #[l0, l1, l2, l3, l4, l5, SI ia, SI ib, SI ic, l9, l10, l11, SD z1, S2, SD z2, S2, SD z3, S2, l18, l19, SI 1, SI 1, SI 0, SA a, SU, SU, SU, SU] [(.ref a)])) (fun _ k => XS.aload Xj121.here hx rfl (hb hby at_169) rfl rfl k) ?_
        refine Goes.by (T' := Tj121) (g' := (mkF m 173 #[l0, l1, l2, l3, l4, l5, SI ia, SI ib, SI ic, l9, l10, l11, SD z1, S2, SD z2, S2, SD z3, S2, l18, l19, SI 1, SI 1, SI 0, SA a, SU, SU, SU, SU] [(.int ia), (.ref a)])) (fun _ k => XS.iload Xj121.here hx rfl (hb hby at_171) rfl k) ?_
        refine Goes.by (T' := Tj121) (g' := (mkF m 175 #[l0, l1, l2, l3, l4, l5, SI ia, SI ib, SI ic, l9, l10, l11, SD z1, S2, SD z2, S2, SD z3, S2, l18, l19, SI 1, SI 1, SI 0, SA a, SU, SU, SU, SU] [(.double z1), (.int ia), (.ref a)])) (fun _ k => XS.dload Xj121.here hx rfl (hb hby at_173) rfl k) ?_
        obtain ⟨v126, T126, L126, X126, hQ126, st126⟩ := callV Xj121 hx hZ (y := (⟨"com/example/gibbon/gibbon/analysis/SparseSum", "add", "(ID)D"⟩ : MethodName)) hown (hw _ (List.mem_of_getElem? (i := 15) rfl)) (hw _ (List.mem_of_getElem? (i := 16) rfl)) (hw _ (List.mem_of_getElem? (i := 18) rfl)) (hw _ (List.mem_of_getElem? (i := 17) rfl)) (hw _ (List.mem_of_getElem? (i := 19) rfl)) (hw _ (List.mem_of_getElem? (i := 2) rfl)) (by decide) ej121 EA (argsL := [(.int ia), (.double z1)]) (rest := []) (W := 0) (rm_addU l Z a0 hw a br bi (0 : Int32) ia ka z1 w1.toInt (fun _ => 0) [] _ _ hj121 n0 Z0 EA FS FI FN VS VI hR hka (by omega) D_z1 bw1 (by decide) (by simp) ge_a gr gi n4 n2 n5) rfl (by decide) (by decide) (by decide) (by decide) (g := (mkF m 175 #[l0, l1, l2, l3, l4, l5, SI ia, SI ib, SI ic, l9, l10, l11, SD z1, S2, SD z2, S2, SD z3, S2, l18, l19, SI 1, SI 1, SI 0, SA a, SU, SU, SU, SU] [(.double z1), (.int ia), (.ref a)])) rfl (by rw [hml]; rfl) (lenOf pd3 rfl) rfl (by show 2 * 0 + _ ≤ _; exact Nat.le_of_eq rfl) (hb hby at_175)
        obtain ⟨rq11, b11, nq11, x11, y11, rfl, -, FS, FI, FN, VS, VI, hR11, hl11, hpr11, g11, na11, nb11, K126, NL126⟩ := hQ126
        have N0 := Fr.app N0 NL126
        have e126 : T126.heap = T126.heap := rfl
        have EA := EA.keep K126
        have Z0 := Nat.le_trans Z0 K126.1
        refine Goes.by (T' := T126) (g' := (mkF m 178 #[l0, l1, l2, l3, l4, l5, SI ia, SI ib, SI ic, l9, l10, l11, SD z1, S2, SD z2, S2, SD z3, S2, l18, l19, SI 1, SI 1, SI 0, SA a, SU, SU, SU, SU] [(.double rq11)])) st126 ?_
        rw [if_pos rfl] at hR11
        obtain rfl : nq11 = (1 : Int32) := Int32.toInt_inj.mp (by rw [hR11.2.2.2.2.1]; rfl)
        refine Goes.by (T' := T126) (g' := (mkF m 179 #[l0, l1, l2, l3, l4, l5, SI ia, SI ib, SI ic, l9, l10, l11, SD z1, S2, SD z2, S2, SD z3, S2, l18, l19, SI 1, SI 1, SI 0, SA a, SU, SU, SU, SU] [])) (fun _ k => XS.pop2W X126.here hx rfl (hb hby at_178) rfl rfl k) ?_
        refine Goes.by (T' := T126) (g' := (mkF m 181 #[l0, l1, l2, l3, l4, l5, SI ia, SI ib, SI ic, l9, l10, l11, SD z1, S2, SD z2, S2, SD z3, S2, l18, l19, SI 1, SI 1, SI 0, SA a, SU, SU, SU, SU] [(.int (1 : Int32))])) (fun _ k => XS.iload X126.here hx rfl (hb hby at_179) rfl k) ?_
        refine Goes.by (T' := T126) (g' := (mkF m 184 #[l0, l1, l2, l3, l4, l5, SI ia, SI ib, SI ic, l9, l10, l11, SD z1, S2, SD z2, S2, SD z3, S2, l18, l19, SI 1, SI 1, SI 0, SA a, SU, SU, SU, SU] [])) (fun _ k => XS.ifNo X126.here hx rfl (hb hby at_181) rfl (by decide) k) ?_
        refine Goes.by (T' := T126) (g' := (mkF m 186 #[l0, l1, l2, l3, l4, l5, SI ia, SI ib, SI ic, l9, l10, l11, SD z1, S2, SD z2, S2, SD z3, S2, l18, l19, SI 1, SI 1, SI 0, SA a, SU, SU, SU, SU] [(.ref a)])) (fun _ k => XS.aload X126.here hx rfl (hb hby at_184) rfl rfl k) ?_
        refine Goes.by (T' := T126) (g' := (mkF m 188 #[l0, l1, l2, l3, l4, l5, SI ia, SI ib, SI ic, l9, l10, l11, SD z1, S2, SD z2, S2, SD z3, S2, l18, l19, SI 1, SI 1, SI 0, SA a, SU, SU, SU, SU] [(.int ib), (.ref a)])) (fun _ k => XS.iload X126.here hx rfl (hb hby at_186) rfl k) ?_
        refine Goes.by (T' := T126) (g' := (mkF m 190 #[l0, l1, l2, l3, l4, l5, SI ia, SI ib, SI ic, l9, l10, l11, SD z1, S2, SD z2, S2, SD z3, S2, l18, l19, SI 1, SI 1, SI 0, SA a, SU, SU, SU, SU] [(.double z2), (.int ib), (.ref a)])) (fun _ k => XS.dload X126.here hx rfl (hb hby at_188) rfl k) ?_
        have fv2 : (own_upd (fun _ => 0) ka w1.toInt) kb = 0 := by simp [own_upd, nkab, nkab.symm]
        obtain ⟨v127, T127, L127, X127, hQ127, st127⟩ := callV X126 hx hZ (y := (⟨"com/example/gibbon/gibbon/analysis/SparseSum", "add", "(ID)D"⟩ : MethodName)) hown (hw _ (List.mem_of_getElem? (i := 15) rfl)) (hw _ (List.mem_of_getElem? (i := 16) rfl)) (hw _ (List.mem_of_getElem? (i := 18) rfl)) (hw _ (List.mem_of_getElem? (i := 17) rfl)) (hw _ (List.mem_of_getElem? (i := 19) rfl)) (hw _ (List.mem_of_getElem? (i := 2) rfl)) (by decide) e126 EA (argsL := [(.int ib), (.double z2)]) (rest := []) (W := 0) (rm_addU l Z a0 hw a b11 bi (1 : Int32) ib kb z2 w2.toInt (own_upd (fun _ => 0) ka w1.toInt) ([] ++ [ka]) _ _ T126.heap n0 Z0 EA FS FI FN VS VI hR11 hkb (by omega) D_z2 bw2 (by rw [fv2]; omega) (by simp) ge_a g11 gi na11 n2 nb11) rfl (by decide) (by decide) (by decide) (by decide) (g := (mkF m 190 #[l0, l1, l2, l3, l4, l5, SI ia, SI ib, SI ic, l9, l10, l11, SD z1, S2, SD z2, S2, SD z3, S2, l18, l19, SI 1, SI 1, SI 0, SA a, SU, SU, SU, SU] [(.double z2), (.int ib), (.ref a)])) rfl (by rw [hml]; rfl) (lenOf pd3 rfl) rfl (by show 2 * 0 + _ ≤ _; exact Nat.le_of_eq rfl) (hb hby at_190)
        obtain ⟨rq12, b12, nq12, x12, y12, rfl, -, FS, FI, FN, VS, VI, hR12, hl12, hpr12, g12, na12, nb12, K127, NL127⟩ := hQ127
        have N0 := Fr.app N0 NL127
        have e127 : T127.heap = T127.heap := rfl
        have EA := EA.keep K127
        have Z0 := Nat.le_trans Z0 K127.1
        refine Goes.by (T' := T127) (g' := (mkF m 193 #[l0, l1, l2, l3, l4, l5, SI ia, SI ib, SI ic, l9, l10, l11, SD z1, S2, SD z2, S2, SD z3, S2, l18, l19, SI 1, SI 1, SI 0, SA a, SU, SU, SU, SU] [(.double rq12)])) st127 ?_
        rw [if_pos fv2] at hR12
        obtain rfl : nq12 = (2 : Int32) := Int32.toInt_inj.mp (by rw [hR12.2.2.2.2.1]; rfl)
        refine Goes.by (T' := T127) (g' := (mkF m 194 #[l0, l1, l2, l3, l4, l5, SI ia, SI ib, SI ic, l9, l10, l11, SD z1, S2, SD z2, S2, SD z3, S2, l18, l19, SI 1, SI 1, SI 0, SA a, SU, SU, SU, SU] [])) (fun _ k => XS.pop2W X127.here hx rfl (hb hby at_193) rfl rfl k) ?_
        refine Goes.by (T' := T127) (g' := (mkF m 196 #[l0, l1, l2, l3, l4, l5, SI ia, SI ib, SI ic, l9, l10, l11, SD z1, S2, SD z2, S2, SD z3, S2, l18, l19, SI 1, SI 1, SI 0, SA a, SU, SU, SU, SU] [(.int (0 : Int32))])) (fun _ k => XS.iload X127.here hx rfl (hb hby at_194) rfl k) ?_
        refine Goes.by (T' := T127) (g' := (mkF m 209 #[l0, l1, l2, l3, l4, l5, SI ia, SI ib, SI ic, l9, l10, l11, SD z1, S2, SD z2, S2, SD z3, S2, l18, l19, SI 1, SI 1, SI 0, SA a, SU, SU, SU, SU] [])) (fun _ k => XS.ifYes X127.here hx rfl (pc0 := 196) (pc' := 209) rfl (hb hby at_196) rfl (by decide) (by decide) (by decide) k) ?_
        refine Goes.by (T' := T127) (g' := (mkF m 210 #[l0, l1, l2, l3, l4, l5, SI ia, SI ib, SI ic, l9, l10, l11, SD z1, S2, SD z2, S2, SD z3, S2, l18, l19, SI 1, SI 1, SI 0, SA a, SU, SU, SU, SU] [(.int (3 : Int32))])) (fun _ k => XS.iconst X127.here hx rfl (hb hby at_209)  k) ?_
        obtain ⟨T128, h128, k128, X128, e128, E128, A128, st128⟩ := newP X127 hx hZ (hw _ (List.mem_of_getElem? (i := 9) rfl)) e127 (g := (mkF m 210 #[l0, l1, l2, l3, l4, l5, SI ia, SI ib, SI ic, l9, l10, l11, SD z1, S2, SD z2, S2, SD z3, S2, l18, l19, SI 1, SI 1, SI 0, SA a, SU, SU, SU, SU] [(.int (3 : Int32))])) rfl (hb hby at_210) rfl (by decide) (cap := 3) (by decide) (by decide) (by decide) (by decide)
        obtain ⟨ea, g128⟩ : ∃ z, z = T127.heap.size := ⟨_, rfl⟩
        rw [← g128] at A128 st128
        have ne_a_ea : a ≠ ea := fun q => Nat.lt_irrefl _ (Nat.lt_of_lt_of_eq EA.lt (g128.symm.trans q.symm))
        have ne_b12_ea : b12 ≠ ea := fun q => Nat.lt_irrefl _ (Nat.lt_of_lt_of_eq VS.lt (g128.symm.trans q.symm))
        have ne_bi_ea : bi ≠ ea := fun q => Nat.lt_irrefl _ (Nat.lt_of_lt_of_eq VI.lt (g128.symm.trans q.symm))
        have ge_ea : n0 ≤ ea := Nat.le_trans Z0 (Nat.le_of_eq g128.symm)
        have EA := EA.ext E128
        have FS := FS.ext E128
        have FI := FI.ext E128
        have FN := FN.ext E128
        have VS := VS.ext E128
        have VI := VI.ext E128
        have Z0 := Nat.le_trans Z0 E128.1
        have V_ea : Sar Z h128 ea .double [(.double (0 : UInt64)), (.double (0 : UInt64)), (.double (0 : UInt64))] := Sar.new (n := 3) A128 (by decide)
        refine Goes.by (T' := T128) (g' := (mkF m 212 #[l0, l1, l2, l3, l4, l5, SI ia, SI ib, SI ic, l9, l10, l11, SD z1, S2, SD z2, S2, SD z3, S2, l18, l19, SI 1, SI 1, SI 0, SA a, SU, SU, SU, SU] [(.ref ea)])) st128 ?_
        refine Goes.by (T' := T128) (g' := (mkF m 214 #[l0, l1, l2, l3, l4, l5, SI ia, SI ib, SI ic, l9, l10, l11, SD z1, S2, SD z2, S2, SD z3, S2, l18, l19, SI 1, SI 1, SI 0, SA a, SA ea, SU, SU, SU] [])) (fun _ k => XS.astore X128.here hx rfl (hb hby at_212) rfl rfl (l' := #[l0, l1, l2, l3, l4, l5, SI ia, SI ib, SI ic, l9, l10, l11, SD z1, S2, SD z2, S2, SD z3, S2, l18, l19, SI 1, SI 1, SI 0, SA a, SA ea, SU, SU, SU]) rfl k) ?_
        refine Goes.by (T' := T128) (g' := (mkF m 215 #[l0, l1, l2, l3, l4, l5, SI ia, SI ib, SI ic, l9, l10, l11, SD z1, S2, SD z2, S2, SD z3, S2, l18, l19, SI 1, SI 1, SI 0, SA a, SA ea, SU, SU, SU] [(.int (0 : Int32))])) (fun _ k => XS.iconst X128.here hx rfl (hb hby at_214)  k) ?_
        refine Goes.by (T' := T128) (g' := (mkF m 217 #[l0, l1, l2, l3, l4, l5, SI ia, SI ib, SI ic, l9, l10, l11, SD z1, S2, SD z2, S2, SD z3, S2, l18, l19, SI 1, SI 1, SI 0, SA a, SA ea, SI 0, SU, SU] [])) (fun _ k => XS.istore X128.here hx rfl (hb hby at_215) rfl (l' := #[l0, l1, l2, l3, l4, l5, SI ia, SI ib, SI ic, l9, l10, l11, SD z1, S2, SD z2, S2, SD z3, S2, l18, l19, SI 1, SI 1, SI 0, SA a, SA ea, SI 0, SU, SU]) rfl k) ?_
        refine Goes.by (T' := T128) (g' := (mkF m 219 #[l0, l1, l2, l3, l4, l5, SI ia, SI ib, SI ic, l9, l10, l11, SD z1, S2, SD z2, S2, SD z3, S2, l18, l19, SI 1, SI 1, SI 0, SA a, SA ea, SI 0, SU, SU] [(.int (1 : Int32))])) (fun _ k => XS.iload X128.here hx rfl (hb hby at_217) rfl k) ?_
        refine Goes.by (T' := T128) (g' := (mkF m 222 #[l0, l1, l2, l3, l4, l5, SI ia, SI ib, SI ic, l9, l10, l11, SD z1, S2, SD z2, S2, SD z3, S2, l18, l19, SI 1, SI 1, SI 0, SA a, SA ea, SI 0, SU, SU] [])) (fun _ k => XS.ifNo X128.here hx rfl (hb hby at_219) rfl (by decide) k) ?_
        refine Goes.by (T' := T128) (g' := (mkF m 224 #[l0, l1, l2, l3, l4, l5, SI ia, SI ib, SI ic, l9, l10, l11, SD z1, S2, SD z2, S2, SD z3, S2, l18, l19, SI 1, SI 1, SI 0, SA a, SA ea, SI 0, SU, SU] [(.double z1)])) (fun _ k => XS.dload X128.here hx rfl (hb hby at_222) rfl k) ?_
        refine Goes.by (T' := T128) (g' := (mkF m 226 #[l0, l1, l2, l3, l4, l5, SI ia, SI ib, SI ic, l9, l10, l11, SD z1, S2, SD z2, S2, SD z3, S2, l18, l19, SI 1, SI 1, SI 0, SA a, SA ea, SI 0, SD z1, S2] [])) (fun _ k => XS.dstore X128.here hx rfl (hb hby at_224) rfl (l' := #[l0, l1, l2, l3, l4, l5, SI ia, SI ib, SI ic, l9, l10, l11, SD z1, S2, SD z2, S2, SD z3, S2, l18, l19, SI 1, SI 1, SI 0, SA a, SA ea, SI 0, SD z1, S2]) rfl k) ?_
        refine Goes.by (T' := T128) (g' := (mkF m 228 #[l0, l1, l2, l3, l4, l5, SI ia, SI ib, SI ic, l9, l10, l11, SD z1, S2, SD z2, S2, SD z3, S2, l18, l19, SI 1, SI 1, SI 0, SA a, SA ea, SI 0, SD z1, S2] [(.int (1 : Int32))])) (fun _ k => XS.iload X128.here hx rfl (hb hby at_226) rfl k) ?_
        refine Goes.by (T' := T128) (g' := (mkF m 231 #[l0, l1, l2, l3, l4, l5, SI ia, SI ib, SI ic, l9, l10, l11, SD z1, S2, SD z2, S2, SD z3, S2, l18, l19, SI 1, SI 1, SI 0, SA a, SA ea, SI 0, SD z1, S2] [])) (fun _ k => XS.ifNo X128.here hx rfl (hb hby at_228) rfl (by decide) k) ?_
        refine Goes.by (T' := T128) (g' := (mkF m 233 #[l0, l1, l2, l3, l4, l5, SI ia, SI ib, SI ic, l9, l10, l11, SD z1, S2, SD z2, S2, SD z3, S2, l18, l19, SI 1, SI 1, SI 0, SA a, SA ea, SI 0, SD z1, S2] [(.int ib)])) (fun _ k => XS.iload X128.here hx rfl (hb hby at_231) rfl k) ?_
        refine Goes.by (T' := T128) (g' := (mkF m 235 #[l0, l1, l2, l3, l4, l5, SI ia, SI ib, SI ic, l9, l10, l11, SD z1, S2, SD z2, S2, SD z3, S2, l18, l19, SI 1, SI 1, SI 0, SA a, SA ea, SI 0, SD z1, S2] [(.int ia), (.int ib)])) (fun _ k => XS.iload X128.here hx rfl (hb hby at_233) rfl k) ?_
        refine Goes.by (T' := T128) (g' := (mkF m 245 #[l0, l1, l2, l3, l4, l5, SI ia, SI ib, SI ic, l9, l10, l11, SD z1, S2, SD z2, S2, SD z3, S2, l18, l19, SI 1, SI 1, SI 0, SA a, SA ea, SI 0, SD z1, S2] [])) (fun _ k => XS.icmpYes X128.here hx rfl (pc0 := 235) (pc' := 245) rfl (hb hby at_235) rfl (feq (fun q => hab q.symm)).2 (by decide) (by decide) k) ?_
        refine Goes.by (T' := T128) (g' := (mkF m 247 #[l0, l1, l2, l3, l4, l5, SI ia, SI ib, SI ic, l9, l10, l11, SD z1, S2, SD z2, S2, SD z3, S2, l18, l19, SI 1, SI 1, SI 0, SA a, SA ea, SI 0, SD z1, S2] [(.int (0 : Int32))])) (fun _ k => XS.iload X128.here hx rfl (hb hby at_245) rfl k) ?_
        refine Goes.by (T' := T128) (g' := (mkF m 264 #[l0, l1, l2, l3, l4, l5, SI ia, SI ib, SI ic, l9, l10, l11, SD z1, S2, SD z2, S2, SD z3, S2, l18, l19, SI 1, SI 1, SI 0, SA a, SA ea, SI 0, SD z1, S2] [])) (fun _ k => XS.ifYes X128.here hx rfl (pc0 := 247) (pc' := 264) rfl (hb hby at_247) rfl (by decide) (by decide) (by decide) k) ?_
        refine Goes.by (T' := T128) (g' := (mkF m 266 #[l0, l1, l2, l3, l4, l5, SI ia, SI ib, SI ic, l9, l10, l11, SD z1, S2, SD z2, S2, SD z3, S2, l18, l19, SI 1, SI 1, SI 0, SA a, SA ea, SI 0, SD z1, S2] [(.ref ea)])) (fun _ k => XS.aload X128.here hx rfl (hb hby at_264) rfl rfl k) ?_
        refine Goes.by (T' := T128) (g' := (mkF m 268 #[l0, l1, l2, l3, l4, l5, SI ia, SI ib, SI ic, l9, l10, l11, SD z1, S2, SD z2, S2, SD z3, S2, l18, l19, SI 1, SI 1, SI 0, SA a, SA ea, SI 0, SD z1, S2] [(.int (0 : Int32)), (.ref ea)])) (fun _ k => XS.iload X128.here hx rfl (hb hby at_266) rfl k) ?_
        refine Goes.by (T' := T128) (g' := (mkF m 270 #[l0, l1, l2, l3, l4, l5, SI ia, SI ib, SI ic, l9, l10, l11, SD z1, S2, SD z2, S2, SD z3, S2, l18, l19, SI 1, SI 1, SI 0, SA a, SA ea, SI 0, SD z1, S2] [(.double z1), (.int (0 : Int32)), (.ref ea)])) (fun _ k => XS.dload X128.here hx rfl (hb hby at_268) rfl k) ?_
        obtain ⟨T129, h129, X129, e129, W129, V129, st129⟩ := stDS X128 hx hZ e128 V_ea (j := (0 : Int32)) 0 (by decide) (by show 0 < 3; decide) (g := (mkF m 270 #[l0, l1, l2, l3, l4, l5, SI ia, SI ib, SI ic, l9, l10, l11, SD z1, S2, SD z2, S2, SD z3, S2, l18, l19, SI 1, SI 1, SI 0, SA a, SA ea, SI 0, SD z1, S2] [(.double z1), (.int (0 : Int32)), (.ref ea)])) rfl rfl (hb hby at_270)
        have N0 := Fr.snoc X129 N0 ge_ea
        have EA := EA.wr W129
        have FS := FS.other W129 (Or.inl ne_a_ea)
        have FI := FI.other W129 (Or.inl ne_a_ea)
        have FN := FN.other W129 (Or.inl ne_a_ea)
        have VS := VS.other W129 ne_b12_ea
        have VI := VI.other W129 ne_bi_ea
        have Z0 := Nat.le_trans Z0 (Nat.le_of_eq W129.size.symm)
        have V_ea : Sar Z h129 ea .double [(.double z1), (.double (0 : UInt64)), (.double (0 : UInt64))] := V129
        refine Goes.by (T' := T129) (g' := (mkF m 271 #[l0, l1, l2, l3, l4, l5, SI ia, SI ib, SI ic, l9, l10, l11, SD z1, S2, SD z2, S2, SD z3, S2, l18, l19, SI 1, SI 1, SI 0, SA a, SA ea, SI 0, SD z1, S2] [])) st129 ?_
        refine Goes.by (T' := T129) (g' := (mkF m 273 #[l0, l1, l2, l3, l4, l5, SI ia, SI ib, SI ic, l9, l10, l11, SD z1, S2, SD z2, S2, SD z3, S2, l18, l19, SI 1, SI 1, SI 0, SA a, SA ea, SI 0, SD z1, S2] [(.int (0 : Int32))])) (fun _ k => XS.iload X129.here hx rfl (hb hby at_271) rfl k) ?_
        refine Goes.by (T' := T129) (g' := (mkF m 274 #[l0, l1, l2, l3, l4, l5, SI ia, SI ib, SI ic, l9, l10, l11, SD z1, S2, SD z2, S2, SD z3, S2, l18, l19, SI 1, SI 1, SI 0, SA a, SA ea, SI 0, SD z1, S2] [(.int (1 : Int32)), (.int (0 : Int32))])) (fun _ k => XS.iconst X129.here hx rfl (hb hby at_273)  k) ?_
        refine Goes.by (T' := T129) (g' := (mkF m 275 #[l0, l1, l2, l3, l4, l5, SI ia, SI ib, SI ic, l9, l10, l11, SD z1, S2, SD z2, S2, SD z3, S2, l18, l19, SI 1, SI 1, SI 0, SA a, SA ea, SI 0, SD z1, S2] [(.int (1 : Int32))])) (fun _ k => XS.iadd X129.here hx rfl (hb hby at_274) rfl k) ?_
        refine Goes.by (T' := T129) (g' := (mkF m 277 #[l0, l1, l2, l3, l4, l5, SI ia, SI ib, SI ic, l9, l10, l11, SD z1, S2, SD z2, S2, SD z3, S2, l18, l19, SI 1, SI 1, SI 0, SA a, SA ea, SI 1, SD z1, S2] [])) (fun _ k => XS.istore X129.here hx rfl (hb hby at_275) rfl (l' := #[l0, l1, l2, l3, l4, l5, SI ia, SI ib, SI ic, l9, l10, l11, SD z1, S2, SD z2, S2, SD z3, S2, l18, l19, SI 1, SI 1, SI 0, SA a, SA ea, SI 1, SD z1, S2]) rfl k) ?_
        refine Goes.by (T' := T129) (g' := (mkF m 279 #[l0, l1, l2, l3, l4, l5, SI ia, SI ib, SI ic, l9, l10, l11, SD z1, S2, SD z2, S2, SD z3, S2, l18, l19, SI 1, SI 1, SI 0, SA a, SA ea, SI 1, SD z1, S2] [(.int (1 : Int32))])) (fun _ k => XS.iload X129.here hx rfl (hb hby at_277) rfl k) ?_
        refine Goes.by (T' := T129) (g' := (mkF m 282 #[l0, l1, l2, l3, l4, l5, SI ia, SI ib, SI ic, l9, l10, l11, SD z1, S2, SD z2, S2, SD z3, S2, l18, l19, SI 1, SI 1, SI 0, SA a, SA ea, SI 1, SD z1, S2] [])) (fun _ k => XS.ifNo X129.here hx rfl (hb hby at_279) rfl (by decide) k) ?_
        refine Goes.by (T' := T129) (g' := (mkF m 284 #[l0, l1, l2, l3, l4, l5, SI ia, SI ib, SI ic, l9, l10, l11, SD z1, S2, SD z2, S2, SD z3, S2, l18, l19, SI 1, SI 1, SI 0, SA a, SA ea, SI 1, SD z1, S2] [(.int ib)])) (fun _ k => XS.iload X129.here hx rfl (hb hby at_282) rfl k) ?_
        refine Goes.by (T' := T129) (g' := (mkF m 286 #[l0, l1, l2, l3, l4, l5, SI ia, SI ib, SI ic, l9, l10, l11, SD z1, S2, SD z2, S2, SD z3, S2, l18, l19, SI 1, SI 1, SI 0, SA a, SA ea, SI 1, SD z1, S2] [(.int ia), (.int ib)])) (fun _ k => XS.iload X129.here hx rfl (hb hby at_284) rfl k) ?_
        refine Goes.by (T' := T129) (g' := (mkF m 289 #[l0, l1, l2, l3, l4, l5, SI ia, SI ib, SI ic, l9, l10, l11, SD z1, S2, SD z2, S2, SD z3, S2, l18, l19, SI 1, SI 1, SI 0, SA a, SA ea, SI 1, SD z1, S2] [])) (fun _ k => XS.icmpNo X129.here hx rfl (hb hby at_286) rfl (feq (fun q => hab q.symm)).1 k) ?_
        refine Goes.by (T' := T129) (g' := (mkF m 291 #[l0, l1, l2, l3, l4, l5, SI ia, SI ib, SI ic, l9, l10, l11, SD z1, S2, SD z2, S2, SD z3, S2, l18, l19, SI 1, SI 1, SI 0, SA a, SA ea, SI 1, SD z1, S2] [(.double z2)])) (fun _ k => XS.dload X129.here hx rfl (hb hby at_289) rfl k) ?_
        refine Goes.by (T' := T129) (g' := (mkF m 293 #[l0, l1, l2, l3, l4, l5, SI ia, SI ib, SI ic, l9, l10, l11, SD z1, S2, SD z2, S2, SD z3, S2, l18, l19, SI 1, SI 1, SI 0, SA a, SA ea, SI 1, SD z2, S2] [])) (fun _ k => XS.dstore X129.here hx rfl (hb hby at_291) rfl (l' := #[l0, l1, l2, l3, l4, l5, SI ia, SI ib, SI ic, l9, l10, l11, SD z1, S2, SD z2, S2, SD z3, S2, l18, l19, SI 1, SI 1, SI 0, SA a, SA ea, SI 1, SD z2, S2]) rfl k) ?_
        refine Goes.by (T' := T129) (g' := (mkF m 295 #[l0, l1, l2, l3, l4, l5, SI ia, SI ib, SI ic, l9, l10, l11, SD z1, S2, SD z2, S2, SD z3, S2, l18, l19, SI 1, SI 1, SI 0, SA a, SA ea, SI 1, SD z2, S2] [(.int (0 : Int32))])) (fun _ k => XS.iload X129.here hx rfl (hb hby at_293) rfl k) ?_
        refine Goes.by (T' := T129) (g' := (mkF m 312 #[l0, l1, l2, l3, l4, l5, SI ia, SI ib, SI ic, l9, l10, l11, SD z1, S2, SD z2, S2, SD z3, S2, l18, l19, SI 1, SI 1, SI 0, SA a, SA ea, SI 1, SD z2, S2] [])) (fun _ k => XS.ifYes X129.here hx rfl (pc0 := 295) (pc' := 312) rfl (hb hby at_295) rfl (by decide) (by decide) (by decide) k) ?_
        refine Goes.by (T' := T129) (g' := (mkF m 314 #[l0, l1, l2, l3, l4, l5, SI ia, SI ib, SI ic, l9, l10, l11, SD z1, S2, SD z2, S2, SD z3, S2, l18, l19, SI 1, SI 1, SI 0, SA a, SA ea, SI 1, SD z2, S2] [(.ref ea)])) (fun _ k => XS.aload X129.here hx rfl (hb hby at_312) rfl rfl k) ?_
        refine Goes.by (T' := T129) (g' := (mkF m 316 #[l0, l1, l2, l3, l4, l5, SI ia, SI ib, SI ic, l9, l10, l11, SD z1, S2, SD z2, S2, SD z3, S2, l18, l19, SI 1, SI 1, SI 0, SA a, SA ea, SI 1, SD z2, S2] [(.int (1 : Int32)), (.ref ea)])) (fun _ k => XS.iload X129.here hx rfl (hb hby at_314) rfl k) ?_
        refine Goes.by (T' := T129) (g' := (mkF m 318 #[l0, l1, l2, l3, l4, l5, SI ia, SI ib, SI ic, l9, l10, l11, SD z1, S2, SD z2, S2, SD z3, S2, l18, l19, SI 1, SI 1, SI 0, SA a, SA ea, SI 1, SD z2, S2] [(.double z2), (.int (1 : Int32)), (.ref ea)])) (fun _ k => XS.dload X129.here hx rfl (hb hby at_316) rfl k) ?_
        obtain ⟨T130, h130, X130, e130, W130, V130, st130⟩ := stDS X129 hx hZ e129 V_ea (j := (1 : Int32)) 1 (by decide) (by show 1 < 3; decide) (g := (mkF m 318 #[l0, l1, l2, l3, l4, l5, SI ia, SI ib, SI ic, l9, l10, l11, SD z1, S2, SD z2, S2, SD z3, S2, l18, l19, SI 1, SI 1, SI 0, SA a, SA ea, SI 1, SD z2, S2] [(.double z2), (.int (1 : Int32)), (.ref ea)])) rfl rfl (hb hby at_318)
        have N0 := Fr.snoc X130 N0 ge_ea
        have EA := EA.wr W130
        have FS := FS.other W130 (Or.inl ne_a_ea)
        have FI := FI.other W130 (Or.inl ne_a_ea)
        have FN := FN.other W130 (Or.inl ne_a_ea)
        have VS := VS.other W130 ne_b12_ea
        have VI := VI.other W130 ne_bi_ea
        have Z0 := Nat.le_trans Z0 (Nat.le_of_eq W130.size.symm)
        have V_ea : Sar Z h130 ea .double [(.double z1), (.double z2), (.double (0 : UInt64))] := V130
        refine Goes.by (T' := T130) (g' := (mkF m 319 #[l0, l1, l2, l3, l4, l5, SI ia, SI ib, SI ic, l9, l10, l11, SD z1, S2, SD z2, S2, SD z3, S2, l18, l19, SI 1, SI 1, SI 0, SA a, SA ea, SI 1, SD z2, S2] [])) st130 ?_
        refine Goes.by (T' := T130) (g' := (mkF m 321 #[l0, l1, l2, l3, l4, l5, SI ia, SI ib, SI ic, l9, l10, l11, SD z1, S2, SD z2, S2, SD z3, S2, l18, l19, SI 1, SI 1, SI 0, SA a, SA ea, SI 1, SD z2, S2] [(.int (1 : Int32))])) (fun _ k => XS.iload X130.here hx rfl (hb hby at_319) rfl k) ?_
        refine Goes.by (T' := T130) (g' := (mkF m 322 #[l0, l1, l2, l3, l4, l5, SI ia, SI ib, SI ic, l9, l10, l11, SD z1, S2, SD z2, S2, SD z3, S2, l18, l19, SI 1, SI 1, SI 0, SA a, SA ea, SI 1, SD z2, S2] [(.int (1 : Int32)), (.int (1 : Int32))])) (fun _ k => XS.iconst X130.here hx rfl (hb hby at_321)  k) ?_
        refine Goes.by (T' := T130) (g' := (mkF m 323 #[l0, l1, l2, l3, l4, l5, SI ia, SI ib, SI ic, l9, l10, l11, SD z1, S2, SD z2, S2, SD z3, S2, l18, l19, SI 1, SI 1, SI 0, SA a, SA ea, SI 1, SD z2, S2] [(.int (2 : Int32))])) (fun _ k => XS.iadd X130.here hx rfl (hb hby at_322) rfl k) ?_
        refine Goes.by (T' := T130) (g' := (mkF m 325 #[l0, l1, l2, l3, l4, l5, SI ia, SI ib, SI ic, l9, l10, l11, SD z1, S2, SD z2, S2, SD z3, S2, l18, l19, SI 1, SI 1, SI 0, SA a, SA ea, SI 2, SD z2, S2] [])) (fun _ k => XS.istore X130.here hx rfl (hb hby at_323) rfl (l' := #[l0, l1, l2, l3, l4, l5, SI ia, SI ib, SI ic, l9, l10, l11, SD z1, S2, SD z2, S2, SD z3, S2, l18, l19, SI 1, SI 1, SI 0, SA a, SA ea, SI 2, SD z2, S2]) rfl k) ?_
        refine Goes.by (T' := T130) (g' := (mkF m 327 #[l0, l1, l2, l3, l4, l5, SI ia, SI ib, SI ic, l9, l10, l11, SD z1, S2, SD z2, S2, SD z3, S2, l18, l19, SI 1, SI 1, SI 0, SA a, SA ea, SI 2, SD z2, S2] [(.int (0 : Int32))])) (fun _ k => XS.iload X130.here hx rfl (hb hby at_325) rfl k) ?_
        refine Goes.by (T' := T130) (g' := (mkF m 357 #[l0, l1, l2, l3, l4, l5, SI ia, SI ib, SI ic, l9, l10, l11, SD z1, S2, SD z2, S2, SD z3, S2, l18, l19, SI 1, SI 1, SI 0, SA a, SA ea, SI 2, SD z2, S2] [])) (fun _ k => XS.ifYes X130.here hx rfl (pc0 := 327) (pc' := 357) rfl (hb hby at_327) rfl (by decide) (by decide) (by decide) k) ?_
        refine Goes.by (T' := T130) (g' := (mkF m 359 #[l0, l1, l2, l3, l4, l5, SI ia, SI ib, SI ic, l9, l10, l11, SD z1, S2, SD z2, S2, SD z3, S2, l18, l19, SI 1, SI 1, SI 0, SA a, SA ea, SI 2, SD z2, S2] [(.ref a)])) (fun _ k => XS.aload X130.here hx rfl (hb hby at_357) rfl rfl k) ?_
        obtain ⟨hq0, v0, hy0, hv0⟩ := hR12.2.2.2.2.2.2 0 ka (by simp)
        obtain ⟨d0, hx0, Dd0⟩ := hR12.2.1 ka hq0
        have fe0 : (own_upd (own_upd (fun _ => 0) ka w1.toInt) kb w2.toInt) ka = w1.toInt := by simp [own_upd, nkab, nkab.symm]
        rw [fe0] at Dd0
        obtain ⟨hq1, v1, hy1, hv1⟩ := hR12.2.2.2.2.2.2 1 kb (by simp)
        obtain ⟨d1, hx1, Dd1⟩ := hR12.2.1 kb hq1
        have fe1 : (own_upd (own_upd (fun _ => 0) ka w1.toInt) kb w2.toInt) kb = w2.toInt := by simp [own_upd, nkab, nkab.symm]
        rw [fe1] at Dd1
        exact cmp2 a b12 bi ea _ _ _ _ _ v0 ka d0 w1.toInt v1 kb d1 w2.toInt _ _ _ _ _ _ _ _ _ _ _ _ _ _ _ _ _ _ _ _ _ _ _ _ _ _ _ (X130.wide (fun x hx _ => hx) (by decide) (by decide)) e130 N0 Z0 EA FS FI FN VS VI V_ea ge_a g12 gi ge_ea na12 nb12 n2 ne_a_ea ne_b12_ea ne_bi_ea hy0 hv0 hx0 Dd0 D_z1 hy1 hv1 hx1 Dd1 D_z2
    by_cases hd : f0 = (0 : Int32)
    · refine Goes.by (T' := T120) (g' := (mkF m 164 #[SI y0, SI y1, SI y2, SI y3, SI y4, SI y5, SI ia, SI ib, SI ic, SI ip, SD z0, S2, SD z1, S2, SD z2, S2, SD z3, S2, SI f0, SI 2, SI 1, SI 1, SI 0, SA a, SU, SU, SU, SU] [])) (fun _ k => XS.ifYes X120.here hx rfl (pc0 := 146) (pc' := 164) rfl (hb hby at_146) rfl ((if0 _ _).trans (teq hd).1) (by decide) (by decide) k) ?_
      exact restU bs _ _ _ _ _ _ _ _ _ _ _ _ _ _ _ _ (X120.wide (fun x hx _ => hx) (by decide) (by decide)) e120 N0 Z0 EA FS FI FN VS VI OwnRep.start gs n1 n3
    · refine Goes.by (T' := T120) (g' := (mkF m 149 #[SI y0, SI y1, SI y2, SI y3, SI y4, SI y5, SI ia, SI ib, SI ic, SI ip, SD z0, S2, SD z1, S2, SD z2, S2, SD z3, S2, SI f0, SI 2, SI 1, SI 1, SI 0, SA a, SU, SU, SU, SU] [])) (fun _ k => XS.ifNo X120.here hx rfl (hb hby at_146) rfl ((if0 _ _).trans (feq hd).1) k) ?_
      refine Goes.by (T' := T120) (g' := (mkF m 151 #[SI y0, SI y1, SI y2, SI y3, SI y4, SI y5, SI ia, SI ib, SI ic, SI ip, SD z0, S2, SD z1, S2, SD z2, S2, SD z3, S2, SI f0, SI 2, SI 1, SI 1, SI 0, SA a, SU, SU, SU, SU] [(.ref a)])) (fun _ k => XS.aload X120.here hx rfl (hb hby at_149) rfl rfl k) ?_
      refine Goes.by (T' := T120) (g' := (mkF m 153 #[SI y0, SI y1, SI y2, SI y3, SI y4, SI y5, SI ia, SI ib, SI ic, SI ip, SD z0, S2, SD z1, S2, SD z2, S2, SD z3, S2, SI f0, SI 2, SI 1, SI 1, SI 0, SA a, SU, SU, SU, SU] [(.int ip), (.ref a)])) (fun _ k => XS.iload X120.here hx rfl (hb hby at_151) rfl k) ?_
      refine Goes.by (T' := T120) (g' := (mkF m 155 #[SI y0, SI y1, SI y2, SI y3, SI y4, SI y5, SI ia, SI ib, SI ic, SI ip, SD z0, S2, SD z1, S2, SD z2, S2, SD z3, S2, SI f0, SI 2, SI 1, SI 1, SI 0, SA a, SU, SU, SU, SU] [(.double z0), (.int ip), (.ref a)])) (fun _ k => XS.dload X120.here hx rfl (hb hby at_153) rfl k) ?_
      by_cases hp : kp < 64
      · obtain ⟨v131, T131, L131, X131, hQ131, st131⟩ := callV X120 hx hZ (y := (⟨"com/example/gibbon/gibbon/analysis/SparseSum", "add", "(ID)D"⟩ : MethodName)) hown (hw _ (List.mem_of_getElem? (i := 15) rfl)) (hw _ (List.mem_of_getElem? (i := 16) rfl)) (hw _ (List.mem_of_getElem? (i := 18) rfl)) (hw _ (List.mem_of_getElem? (i := 17) rfl)) (hw _ (List.mem_of_getElem? (i := 19) rfl)) (hw _ (List.mem_of_getElem? (i := 2) rfl)) (by decide) e120 EA (argsL := [(.int ip), (.double z0)]) (rest := []) (W := 0) (rm_addN l Z a0 hw a bs bi (0 : Int32) ip kp z0 w0.toInt (fun _ => 0) [] _ _ T120.heap n0 Z0 EA FS FI FN VS VI OwnRep.start hkp (by omega) D_z0 bw0 (by decide) (by decide) ge_a gs gi n1 n2 n3 (by simpa using hp)) rfl (by decide) (by decide) (by decide) (by decide) (g := (mkF m 155 #[SI y0, SI y1, SI y2, SI y3, SI y4, SI y5, SI ia, SI ib, SI ic, SI ip, SD z0, S2, SD z1, S2, SD z2, S2, SD z3, S2, SI f0, SI 2, SI 1, SI 1, SI 0, SA a, SU, SU, SU, SU] [(.double z0), (.int ip), (.ref a)])) rfl (by rw [hml]; rfl) (lenOf pd3 rfl) rfl (by show 2 * 0 + _ ≤ _; exact Nat.le_of_eq rfl) (hb hby at_155)
        obtain ⟨rq, b2, nq, xc, yc, rfl, -, FS, FI, FN, VS, VI, hR, hl2, hpr, g2, n4, n5, K131, NL131⟩ := hQ131
        have N0 := Fr.app N0 NL131
        have e131 : T131.heap = T131.heap := rfl
        have EA := EA.keep K131
        have Z0 := Nat.le_trans Z0 K131.1
        refine Goes.by (T' := T131) (g' := (mkF m 158 #[SI y0, SI y1, SI y2, SI y3, SI y4, SI y5, SI ia, SI ib, SI ic, SI ip, SD z0, S2, SD z1, S2, SD z2, S2, SD z3, S2, SI f0, SI 2, SI 1, SI 1, SI 0, SA a, SU, SU, SU, SU] [(.double rq)])) st131 ?_
        rw [if_pos rfl] at hR
        obtain rfl : nq = (1 : Int32) := Int32.toInt_inj.mp (by rw [hR.2.2.2.2.1]; rfl)
        refine Goes.by (T' := T131) (g' := (mkF m 159 #[SI y0, SI y1, SI y2, SI y3, SI y4, SI y5, SI ia, SI ib, SI ic, SI ip, SD z0, S2, SD z1, S2, SD z2, S2, SD z3, S2, SI f0, SI 2, SI 1, SI 1, SI 0, SA a, SU, SU, SU, SU] [])) (fun _ k => XS.pop2W X131.here hx rfl (hb hby at_158) rfl rfl k) ?_
        refine Goes.by (T' := T131) (g' := (mkF m 161 #[SI y0, SI y1, SI y2, SI y3, SI y4, SI y5, SI ia, SI ib, SI ic, SI ip, SD z0, S2, SD z1, S2, SD z2, S2, SD z3, S2, SI f0, SI 2, SI 1, SI 1, SI 0, SA a, SU, SU, SU, SU] [(.ref a)])) (fun _ k => XS.aload X131.here hx rfl (hb hby at_159) rfl rfl k) ?_
        obtain ⟨v132, T132, L132, X132, hQ132, st132⟩ := callV X131 hx hZ (y := (⟨"com/example/gibbon/gibbon/analysis/SparseSum", "clear", "()V"⟩ : MethodName)) hown (hw _ (List.mem_of_getElem? (i := 22) rfl)) (hw _ (List.mem_of_getElem? (i := 23) rfl)) (hw _ (List.mem_of_getElem? (i := 25) rfl)) (hw _ (List.mem_of_getElem? (i := 24) rfl)) (hw _ (List.mem_of_getElem? (i := 26) rfl)) (hw _ (List.mem_of_getElem? (i := 2) rfl)) (by decide) e131 EA (argsL := []) (rest := []) (W := 0) (rm_clear l Z a0 hw a b2 bi kp w0.toInt xc yc T131.heap n0 Z0 EA FS FI FN VS VI hR ge_a g2 gi n4 n2 n5) rfl (by decide) (by decide) (by decide) (by decide) (g := (mkF m 161 #[SI y0, SI y1, SI y2, SI y3, SI y4, SI y5, SI ia, SI ib, SI ic, SI ip, SD z0, S2, SD z1, S2, SD z2, S2, SD z3, S2, SI f0, SI 2, SI 1, SI 1, SI 0, SA a, SU, SU, SU, SU] [(.ref a)])) rfl (by rw [hml]; rfl) (lenOf pd2 rfl) rfl (by show 2 * 0 + _ ≤ _; exact Nat.le_of_eq rfl) (hb hby at_161)
        obtain ⟨rfl, -, FS, FI, FN, VS, VI, hR2, K132, NL132⟩ := hQ132
        have N0 := Fr.app N0 NL132
        have e132 : T132.heap = T132.heap := rfl
        have EA := EA.keep K132
        have Z0 := Nat.le_trans Z0 K132.1
        refine Goes.by (T' := T132) (g' := (mkF m 164 #[SI y0, SI y1, SI y2, SI y3, SI y4, SI y5, SI ia, SI ib, SI ic, SI ip, SD z0, S2, SD z1, S2, SD z2, S2, SD z3, S2, SI f0, SI 2, SI 1, SI 1, SI 0, SA a, SU, SU, SU, SU] [])) st132 ?_
        have hlen2 := hR.1
        exact restU b2 _ _ _ _ _ _ _ _ _ _ _ _ _ _ _ _ (X132.wide (fun x hx _ => hx) (by decide) (by decide)) e132 N0 Z0 EA FS FI FN VS VI hR2 g2 n4 n5
      · obtain ⟨v133, T133, L133, X133, hQ133, st133⟩ := callV X120 hx hZ (y := (⟨"com/example/gibbon/gibbon/analysis/SparseSum", "add", "(ID)D"⟩ : MethodName)) hown (hw _ (List.mem_of_getElem? (i := 15) rfl)) (hw _ (List.mem_of_getElem? (i := 16) rfl)) (hw _ (List.mem_of_getElem? (i := 18) rfl)) (hw _ (List.mem_of_getElem? (i := 17) rfl)) (hw _ (List.mem_of_getElem? (i := 19) rfl)) (hw _ (List.mem_of_getElem? (i := 2) rfl)) (by decide) e120 EA (argsL := [(.int ip), (.double z0)]) (rest := []) (W := 0) (rm_addU l Z a0 hw a bs bi (0 : Int32) ip kp z0 w0.toInt (fun _ => 0) [] _ _ T120.heap n0 Z0 EA FS FI FN VS VI OwnRep.start hkp (by omega) D_z0 bw0 (by decide) (by decide) ge_a gs gi n1 n2 n3) rfl (by decide) (by decide) (by decide) (by decide) (g := (mkF m 155 #[SI y0, SI y1, SI y2, SI y3, SI y4, SI y5, SI ia, SI ib, SI ic, SI ip, SD z0, S2, SD z1, S2, SD z2, S2, SD z3, S2, SI f0, SI 2, SI 1, SI 1, SI 0, SA a, SU, SU, SU, SU] [(.double z0), (.int ip), (.ref a)])) rfl (by rw [hml]; rfl) (lenOf pd3 rfl) rfl (by show 2 * 0 + _ ≤ _; exact Nat.le_of_eq rfl) (hb hby at_155)
        obtain ⟨rq, b2, nq, xc, yc, rfl, -, FS, FI, FN, VS, VI, hR, hl2, hpr, g2, n4, n5, K133, NL133⟩ := hQ133
        have N0 := Fr.app N0 NL133
        have e133 : T133.heap = T133.heap := rfl
        have EA := EA.keep K133
        have Z0 := Nat.le_trans Z0 K133.1
        refine Goes.by (T' := T133) (g' := (mkF m 158 #[SI y0, SI y1, SI y2, SI y3, SI y4, SI y5, SI ia, SI ib, SI ic, SI ip, SD z0, S2, SD z1, S2, SD z2, S2, SD z3, S2, SI f0, SI 2, SI 1, SI 1, SI 0, SA a, SU, SU, SU, SU] [(.double rq)])) st133 ?_
        rw [if_pos rfl] at hR
        obtain rfl : nq = (1 : Int32) := Int32.toInt_inj.mp (by rw [hR.2.2.2.2.1]; rfl)
        refine Goes.by (T' := T133) (g' := (mkF m 159 #[SI y0, SI y1, SI y2, SI y3, SI y4, SI y5, SI ia, SI ib, SI ic, SI ip, SD z0, S2, SD z1, S2, SD z2, S2, SD z3, S2, SI f0, SI 2, SI 1, SI 1, SI 0, SA a, SU, SU, SU, SU] [])) (fun _ k => XS.pop2W X133.here hx rfl (hb hby at_158) rfl rfl k) ?_
        refine Goes.by (T' := T133) (g' := (mkF m 161 #[SI y0, SI y1, SI y2, SI y3, SI y4, SI y5, SI ia, SI ib, SI ic, SI ip, SD z0, S2, SD z1, S2, SD z2, S2, SD z3, S2, SI f0, SI 2, SI 1, SI 1, SI 0, SA a, SU, SU, SU, SU] [(.ref a)])) (fun _ k => XS.aload X133.here hx rfl (hb hby at_159) rfl rfl k) ?_
        obtain ⟨v134, T134, L134, X134, hQ134, st134⟩ := callV X133 hx hZ (y := (⟨"com/example/gibbon/gibbon/analysis/SparseSum", "clear", "()V"⟩ : MethodName)) hown (hw _ (List.mem_of_getElem? (i := 22) rfl)) (hw _ (List.mem_of_getElem? (i := 23) rfl)) (hw _ (List.mem_of_getElem? (i := 25) rfl)) (hw _ (List.mem_of_getElem? (i := 24) rfl)) (hw _ (List.mem_of_getElem? (i := 26) rfl)) (hw _ (List.mem_of_getElem? (i := 2) rfl)) (by decide) e133 EA (argsL := []) (rest := []) (W := 0) (rm_clear l Z a0 hw a b2 bi kp w0.toInt xc yc T133.heap n0 Z0 EA FS FI FN VS VI hR ge_a g2 gi n4 n2 n5) rfl (by decide) (by decide) (by decide) (by decide) (g := (mkF m 161 #[SI y0, SI y1, SI y2, SI y3, SI y4, SI y5, SI ia, SI ib, SI ic, SI ip, SD z0, S2, SD z1, S2, SD z2, S2, SD z3, S2, SI f0, SI 2, SI 1, SI 1, SI 0, SA a, SU, SU, SU, SU] [(.ref a)])) rfl (by rw [hml]; rfl) (lenOf pd2 rfl) rfl (by show 2 * 0 + _ ≤ _; exact Nat.le_of_eq rfl) (hb hby at_161)
        obtain ⟨rfl, -, FS, FI, FN, VS, VI, hR2, K134, NL134⟩ := hQ134
        have N0 := Fr.app N0 NL134
        have e134 : T134.heap = T134.heap := rfl
        have EA := EA.keep K134
        have Z0 := Nat.le_trans Z0 K134.1
        refine Goes.by (T' := T134) (g' := (mkF m 164 #[SI y0, SI y1, SI y2, SI y3, SI y4, SI y5, SI ia, SI ib, SI ic, SI ip, SD z0, S2, SD z1, S2, SD z2, S2, SD z3, S2, SI f0, SI 2, SI 1, SI 1, SI 0, SA a, SU, SU, SU, SU] [])) st134 ?_
        have hlen2 := hR.1
        exact restU b2 _ _ _ _ _ _ _ _ _ _ _ _ _ _ _ _ (X134.wide (fun x hx _ => hx) (by decide) (by decide)) e134 N0 Z0 EA FS FI FN VS VI hR2 g2 n4 n5
  · refine Goes.by (T' := s₁) (g' := (mkF m 96 #[SI y0, SI y1, SI y2, SI y3, SI y4, SI y5, SI ia, SI ib, SI ic, SI ip, SD z0, S2, SD z1, S2, SD z2, S2, SD z3, S2, SI f0, SI 3, SU, SU, SU, SU, SU, SU, SU, SU] [])) (fun _ k => XS.istore X0.here hx rfl (hb hby at_94) rfl (l' := #[SI y0, SI y1, SI y2, SI y3, SI y4, SI y5, SI ia, SI ib, SI ic, SI ip, SD z0, S2, SD z1, S2, SD z2, S2, SD z3, S2, SI f0, SI 3, SU, SU, SU, SU, SU, SU, SU, SU]) rfl k) ?_
    refine Goes.by (T' := s₁) (g' := (mkF m 98 #[SI y0, SI y1, SI y2, SI y3, SI y4, SI y5, SI ia, SI ib, SI ic, SI ip, SD z0, S2, SD z1, S2, SD z2, S2, SD z3, S2, SI f0, SI 3, SU, SU, SU, SU, SU, SU, SU, SU] [(.int (3 : Int32))])) (fun _ k => XS.iload X0.here hx rfl (hb hby at_96) rfl k) ?_
    refine Goes.by (T' := s₁) (g' := (mkF m 99 #[SI y0, SI y1, SI y2, SI y3, SI y4, SI y5, SI ia, SI ib, SI ic, SI ip, SD z0, S2, SD z1, S2, SD z2, S2, SD z3, S2, SI f0, SI 3, SU, SU, SU, SU, SU, SU, SU, SU] [(.int (1 : Int32)), (.int (3 : Int32))])) (fun _ k => XS.iconst X0.here hx rfl (hb hby at_98)  k) ?_
    refine Goes.by (T' := s₁) (g' := (mkF m 102 #[SI y0, SI y1, SI y2, SI y3, SI y4, SI y5, SI ia, SI ib, SI ic, SI ip, SD z0, S2, SD z1, S2, SD z2, S2, SD z3, S2, SI f0, SI 3, SU, SU, SU, SU, SU, SU, SU, SU] [])) (fun _ k => XS.icmpNo X0.here hx rfl (hb hby at_99) rfl (by decide) k) ?_
    refine Goes.by (T' := s₁) (g' := (mkF m 103 #[SI y0, SI y1, SI y2, SI y3, SI y4, SI y5, SI ia, SI ib, SI ic, SI ip, SD z0, S2, SD z1, S2, SD z2, S2, SD z3, S2, SI f0, SI 3, SU, SU, SU, SU, SU, SU, SU, SU] [(.int (1 : Int32))])) (fun _ k => XS.iconst X0.here hx rfl (hb hby at_102)  k) ?_
    refine Goes.by (T' := s₁) (g' := (mkF m 107 #[SI y0, SI y1, SI y2, SI y3, SI y4, SI y5, SI ia, SI ib, SI ic, SI ip, SD z0, S2, SD z1, S2, SD z2, S2, SD z3, S2, SI f0, SI 3, SU, SU, SU, SU, SU, SU, SU, SU] [(.int (1 : Int32))])) (fun _ k => XS.goto X0.here hx rfl (pc0 := 103) (pc' := 107) rfl (hb hby at_103) (by decide) (by decide) k) ?_
    refine Goes.by (T' := s₁) (g' := (mkF m 109 #[SI y0, SI y1, SI y2, SI y3, SI y4, SI y5, SI ia, SI ib, SI ic, SI ip, SD z0, S2, SD z1, S2, SD z2, S2, SD z3, S2, SI f0, SI 3, SI 1, SU, SU, SU, SU, SU, SU, SU] [])) (fun _ k => XS.istore X0.here hx rfl (hb hby at_107) rfl (l' := #[SI y0, SI y1, SI y2, SI y3, SI y4, SI y5, SI ia, SI ib, SI ic, SI ip, SD z0, S2, SD z1, S2, SD z2, S2, SD z3, S2, SI f0, SI 3, SI 1, SU, SU, SU, SU, SU, SU, SU]) rfl k) ?_
    refine Goes.by (T' := s₁) (g' := (mkF m 111 #[SI y0, SI y1, SI y2, SI y3, SI y4, SI y5, SI ia, SI ib, SI ic, SI ip, SD z0, S2, SD z1, S2, SD z2, S2, SD z3, S2, SI f0, SI 3, SI 1, SU, SU, SU, SU, SU, SU, SU] [(.int (3 : Int32))])) (fun _ k => XS.iload X0.here hx rfl (hb hby at_109) rfl k) ?_
    refine Goes.by (T' := s₁) (g' := (mkF m 112 #[SI y0, SI y1, SI y2, SI y3, SI y4, SI y5, SI ia, SI ib, SI ic, SI ip, SD z0, S2, SD z1, S2, SD z2, S2, SD z3, S2, SI f0, SI 3, SI 1, SU, SU, SU, SU, SU, SU, SU] [(.int (2 : Int32)), (.int (3 : Int32))])) (fun _ k => XS.iconst X0.here hx rfl (hb hby at_111)  k) ?_
    refine Goes.by (T' := s₁) (g' := (mkF m 115 #[SI y0, SI y1, SI y2, SI y3, SI y4, SI y5, SI ia, SI ib, SI ic, SI ip, SD z0, S2, SD z1, S2, SD z2, S2, SD z3, S2, SI f0, SI 3, SI 1, SU, SU, SU, SU, SU, SU, SU] [])) (fun _ k => XS.icmpNo X0.here hx rfl (hb hby at_112) rfl (by decide) k) ?_
    refine Goes.by (T' := s₁) (g' := (mkF m 116 #[SI y0, SI y1, SI y2, SI y3, SI y4, SI y5, SI ia, SI ib, SI ic, SI ip, SD z0, S2, SD z1, S2, SD z2, S2, SD z3, S2, SI f0, SI 3, SI 1, SU, SU, SU, SU, SU, SU, SU] [(.int (1 : Int32))])) (fun _ k => XS.iconst X0.here hx rfl (hb hby at_115)  k) ?_
    refine Goes.by (T' := s₁) (g' := (mkF m 120 #[SI y0, SI y1, SI y2, SI y3, SI y4, SI y5, SI ia, SI ib, SI ic, SI ip, SD z0, S2, SD z1, S2, SD z2, S2, SD z3, S2, SI f0, SI 3, SI 1, SU, SU, SU, SU, SU, SU, SU] [(.int (1 : Int32))])) (fun _ k => XS.goto X0.here hx rfl (pc0 := 116) (pc' := 120) rfl (hb hby at_116) (by decide) (by decide) k) ?_
    refine Goes.by (T' := s₁) (g' := (mkF m 122 #[SI y0, SI y1, SI y2, SI y3, SI y4, SI y5, SI ia, SI ib, SI ic, SI ip, SD z0, S2, SD z1, S2, SD z2, S2, SD z3, S2, SI f0, SI 3, SI 1, SI 1, SU, SU, SU, SU, SU, SU] [])) (fun _ k => XS.istore X0.here hx rfl (hb hby at_120) rfl (l' := #[SI y0, SI y1, SI y2, SI y3, SI y4, SI y5, SI ia, SI ib, SI ic, SI ip, SD z0, S2, SD z1, S2, SD z2, S2, SD z3, S2, SI f0, SI 3, SI 1, SI 1, SU, SU, SU, SU, SU, SU]) rfl k) ?_
    refine Goes.by (T' := s₁) (g' := (mkF m 124 #[SI y0, SI y1, SI y2, SI y3, SI y4, SI y5, SI ia, SI ib, SI ic, SI ip, SD z0, S2, SD z1, S2, SD z2, S2, SD z3, S2, SI f0, SI 3, SI 1, SI 1, SU, SU, SU, SU, SU, SU] [(.int (3 : Int32))])) (fun _ k => XS.iload X0.here hx rfl (hb hby at_122) rfl k) ?_
    refine Goes.by (T' := s₁) (g' := (mkF m 125 #[SI y0, SI y1, SI y2, SI y3, SI y4, SI y5, SI ia, SI ib, SI ic, SI ip, SD z0, S2, SD z1, S2, SD z2, S2, SD z3, S2, SI f0, SI 3, SI 1, SI 1, SU, SU, SU, SU, SU, SU] [(.int (3 : Int32)), (.int (3 : Int32))])) (fun _ k => XS.iconst X0.here hx rfl (hb hby at_124)  k) ?_
    refine Goes.by (T' := s₁) (g' := (mkF m 128 #[SI y0, SI y1, SI y2, SI y3, SI y4, SI y5, SI ia, SI ib, SI ic, SI ip, SD z0, S2, SD z1, S2, SD z2, S2, SD z3, S2, SI f0, SI 3, SI 1, SI 1, SU, SU, SU, SU, SU, SU] [])) (fun _ k => XS.icmpNo X0.here hx rfl (hb hby at_125) rfl (by decide) k) ?_
    refine Goes.by (T' := s₁) (g' := (mkF m 129 #[SI y0, SI y1, SI y2, SI y3, SI y4, SI y5, SI ia, SI ib, SI ic, SI ip, SD z0, S2, SD z1, S2, SD z2, S2, SD z3, S2, SI f0, SI 3, SI 1, SI 1, SU, SU, SU, SU, SU, SU] [(.int (1 : Int32))])) (fun _ k => XS.iconst X0.here hx rfl (hb hby at_128)  k) ?_
    refine Goes.by (T' := s₁) (g' := (mkF m 133 #[SI y0, SI y1, SI y2, SI y3, SI y4, SI y5, SI ia, SI ib, SI ic, SI ip, SD z0, S2, SD z1, S2, SD z2, S2, SD z3, S2, SI f0, SI 3, SI 1, SI 1, SU, SU, SU, SU, SU, SU] [(.int (1 : Int32))])) (fun _ k => XS.goto X0.here hx rfl (pc0 := 129) (pc' := 133) rfl (hb hby at_129) (by decide) (by decide) k) ?_
    refine Goes.by (T' := s₁) (g' := (mkF m 135 #[SI y0, SI y1, SI y2, SI y3, SI y4, SI y5, SI ia, SI ib, SI ic, SI ip, SD z0, S2, SD z1, S2, SD z2, S2, SD z3, S2, SI f0, SI 3, SI 1, SI 1, SI 1, SU, SU, SU, SU, SU] [])) (fun _ k => XS.istore X0.here hx rfl (hb hby at_133) rfl (l' := #[SI y0, SI y1, SI y2, SI y3, SI y4, SI y5, SI ia, SI ib, SI ic, SI ip, SD z0, S2, SD z1, S2, SD z2, S2, SD z3, S2, SI f0, SI 3, SI 1, SI 1, SI 1, SU, SU, SU, SU, SU]) rfl k) ?_
    obtain ⟨T135, h135, X135, e135, E135, A135, D135, -, st135⟩ := newO X0 hx hZ hown (hw _ (List.mem_of_getElem? (i := 0) rfl)) (hw _ (List.mem_of_getElem? (i := 1) rfl)) (hw _ (List.mem_of_getElem? (i := 2) rfl)) e0 (g := (mkF m 135 #[SI y0, SI y1, SI y2, SI y3, SI y4, SI y5, SI ia, SI ib, SI ic, SI ip, SD z0, S2, SD z1, S2, SD z2, S2, SD z3, S2, SI f0, SI 3, SI 1, SI 1, SI 1, SU, SU, SU, SU, SU] [])) rfl (hb hby at_135) (by decide) (by decide)
    obtain ⟨a, g135⟩ : ∃ z, z = h0.size := ⟨_, rfl⟩
    rw [← g135] at A135 D135 st135
    have ge_a : n0 ≤ a := Nat.le_trans Z0 (Nat.le_of_eq g135.symm)
    have Z0 := Nat.le_trans Z0 E135.1
    have E_a := A135
    have F_sums_a : Fld Z h135 a "com/example/gibbon/gibbon/analysis/SparseSum" "sums" "[D" .null := D135 (Or.inl (hw _ (List.mem_of_getElem? (i := 11) rfl))) (ty := (.array .double)) (by decide)
    have F_indices_a : Fld Z h135 a "com/example/gibbon/gibbon/analysis/SparseSum" "indices" "[I" .null := D135 (Or.inl (hw _ (List.mem_of_getElem? (i := 14) rfl))) (ty := (.array .int)) (by decide)
    have F_size_a : Fld Z h135 a "com/example/gibbon/gibbon/analysis/SparseSum" "size" "I" (.int (0 : Int32)) := D135 (Or.inl (hw _ (List.mem_of_getElem? (i := 21) rfl))) (ty := .int) (by decide)
    refine Goes.by (T' := T135) (g' := (mkF m 138 #[SI y0, SI y1, SI y2, SI y3, SI y4, SI y5, SI ia, SI ib, SI ic, SI ip, SD z0, S2, SD z1, S2, SD z2, S2, SD z3, S2, SI f0, SI 3, SI 1, SI 1, SI 1, SU, SU, SU, SU, SU] [(.ref a)])) st135 ?_
    refine Goes.by (T' := T135) (g' := (mkF m 139 #[SI y0, SI y1, SI y2, SI y3, SI y4, SI y5, SI ia, SI ib, SI ic, SI ip, SD z0, S2, SD z1, S2, SD z2, S2, SD z3, S2, SI f0, SI 3, SI 1, SI 1, SI 1, SU, SU, SU, SU, SU] [(.ref a), (.ref a)])) (fun _ k => XS.dup X135.here hx rfl (hb hby at_138) rfl rfl k) ?_
    obtain ⟨v136, T136, L136, X136, hQ136, st136⟩ := callI X135 hx hZ (y := (⟨"com/example/gibbon/gibbon/analysis/SparseSum", "<init>", "()V"⟩ : MethodName)) rfl hown (hw _ (List.mem_of_getElem? (i := 3) rfl)) (hw _ (List.mem_of_getElem? (i := 4) rfl)) (hw _ (List.mem_of_getElem? (i := 5) rfl)) (hw _ (List.mem_of_getElem? (i := 2) rfl)) (by decide) e135 (a := a) (argsL := []) (rest := [(.ref a)]) (W := 1) (rm_init l Z a0 hw a h135 n0 Z0 E_a F_sums_a F_indices_a F_size_a ge_a) rfl (by decide) (by decide) (by decide) (by decide) (g := (mkF m 139 #[SI y0, SI y1, SI y2, SI y3, SI y4, SI y5, SI ia, SI ib, SI ic, SI ip, SD z0, S2, SD z1, S2, SD z2, S2, SD z3, S2, SI f0, SI 3, SI 1, SI 1, SI 1, SU, SU, SU, SU, SU] [(.ref a), (.ref a)])) rfl (by rw [hml]; rfl) (lenOf pd2 rfl) rfl (by show 2 * 0 + _ ≤ _; exact Nat.le_of_eq rfl) (hb hby at_139)
    obtain ⟨bs, bi, rfl, EA, FS, FI, FN, VS, VI, gs, gi, n1, n2, n3, K136, NL136⟩ := hQ136
    have N0 := Fr.app N0 NL136
    have e136 : T136.heap = T136.heap := rfl
    have E_a := E_a.keep K136
    have Z0 := Nat.le_trans Z0 K136.1
    refine Goes.by (T' := T136) (g' := (mkF m 142 #[SI y0, SI y1, SI y2, SI y3, SI y4, SI y5, SI ia, SI ib, SI ic, SI ip, SD z0, S2, SD z1, S2, SD z2, S2, SD z3, S2, SI f0, SI 3, SI 1, SI 1, SI 1, SU, SU, SU, SU, SU] [(.ref a)])) st136 ?_
    refine Goes.by (T' := T136) (g' := (mkF m 144 #[SI y0, SI y1, SI y2, SI y3, SI y4, SI y5, SI ia, SI ib, SI ic, SI ip, SD z0, S2, SD z1, S2, SD z2, S2, SD z3, S2, SI f0, SI 3, SI 1, SI 1, SI 1, SA a, SU, SU, SU, SU] [])) (fun _ k => XS.astore X136.here hx rfl (hb hby at_142) rfl rfl (l' := #[SI y0, SI y1, SI y2, SI y3, SI y4, SI y5, SI ia, SI ib, SI ic, SI ip, SD z0, S2, SD z1, S2, SD z2, S2, SD z3, S2, SI f0, SI 3, SI 1, SI 1, SI 1, SA a, SU, SU, SU, SU]) rfl k) ?_
    refine Goes.by (T' := T136) (g' := (mkF m 146 #[SI y0, SI y1, SI y2, SI y3, SI y4, SI y5, SI ia, SI ib, SI ic, SI ip, SD z0, S2, SD z1, S2, SD z2, S2, SD z3, S2, SI f0, SI 3, SI 1, SI 1, SI 1, SA a, SU, SU, SU, SU] [(.int f0)])) (fun _ k => XS.iload X136.here hx rfl (hb hby at_144) rfl k) ?_
    have restU : ∀ (br : Addr) (xr yr : List Value) (l0 l1 l2 l3 l4 l5 l9 l10 l11 l18 l19 : Slot)  (Tj137 : State) (hj137 : Heap) (Lj137 : List Loc), Stand p l e room_1 s m #[(.int y0), (.int y1), (.int y2), (.int y3), (.int y4), (.int y5)] below meth c Tj137 Lj137 4 131 → Tj137.heap = hj137 → Fr n0 Lj137 → n0 ≤ hj137.size → Exa Z hj137 a "com/example/gibbon/gibbon/analysis/SparseSum" → Fld Z hj137 a "com/example/gibbon/gibbon/analysis/SparseSum" "sums" "[D" (.ref br) → Fld Z hj137 a "com/example/gibbon/gibbon/analysis/SparseSum" "indices" "[I" (.ref bi) → Fld Z hj137 a "com/example/gibbon/gibbon/analysis/SparseSum" "size" "I" (.int (0 : Int32)) → Sar Z hj137 br .double xr → Sar Z hj137 bi .int yr → OwnRep (fun _ => 0) [] xr yr 0 → n0 ≤ br → a ≠ br → br ≠ bi → Goes p e below (Fin1 below s room_1 (fun v h L => v = some (.int 1) ∧ Fr n0 L)) Tj137 (mkF m 164 #[l0, l1, l2, l3, l4, l5, SI ia, SI ib, SI ic, l9, l10, l11, SD z1, S2, SD z2, S2, SD z3, S2, l18, l19, SI 1, SI 1, SI 1, SA a, SU, SU, SU, SU] []) := by
      intro br xr yr l0 l1 l2 l3 l4 l5 l9 l10 l11 l18 l19 Tj137 hj137 Lj137 Xj137 ej137 N0 Z0 EA FS FI FN VS VI hR gr n4 n5
      by_cases hab : ia = ib
      · subst hab
        by_cases hac : ia = ic
        · subst hac
          refine Goes.by (T' := Tj137) (g' := (mkF m 166 #[l0, l1, l2, l3, l4, l5, SI ia, SI ia, SI ia, l9, l10, l11, SD z1, S2, SD z2, S2, SD z3, S2, l18, l19, SI 1, SI 1, SI 1, SA a, SU, SU, SU, SU] [(.int (1 : Int32))])) (fun _ k => XS.iload Xj137.here hx rfl (hb hby at_164) rfl k) ?_
          refine Goes.by (T' := Tj137) (g' := (mkF m 169 #[l0, l1, l2, l3, l4, l5, SI ia, SI ia, SI ia, l9, l10, l11, SD z1, S2, SD z2, S2, SD z3, S2, l18, l19, SI 1, SI 1, SI 1, SA a, SU, SU, SU, SU] [])) (fun _ k => XS.ifNo Xj137.here hx rfl (hb hby at_166) rfl (by decide) k) ?_
          refine Goes.by (T' := Tj137) (g' := (mkF m 171 #[l0, l1, l2, l3, l4, l5, SI ia, SI ia, SI ia, l9, l10, l11, SD z1, S2, SD z2, S2, SD z3, S2, l18, l19, SI 1, SI 1, SI 1, SA a, SU, SU, SU, SU] [(.ref a)])) (fun _ k => XS.aload Xj137.here hx rfl (hb hby at_169) rfl rfl k) ?_
          refine Goes.by (T' := Tj137) (g' := (mkF m 173 #[l0, l1, l2, l3, l4, l5, SI ia, SI ia, SI ia, l9, l10, l11, SD z1, S2, SD z2, S2, SD z3, S2, l18, l19, SI 1, SI 1, SI 1, SA a, SU, SU, SU, SU] [(.int ia), (.ref a)])) (fun _ k => XS.iload Xj137.here hx rfl (hb hby at_171) rfl k) ?_
          refine Goes.by (T' := Tj137) (g' := (mkF m 175 #[l0, l1, l2, l3, l4, l5, SI ia, SI ia, SI ia, l9, l10, l11, SD z1, S2, SD z2, S2, SD z3, S2, l18, l19, SI 1, SI 1, SI 1, SA a, SU, SU, SU, SU] [(.double z1), (.int ia), (.ref a)])) (fun _ k => XS.dload Xj137.here hx rfl (hb hby at_173) rfl k) ?_
          obtain ⟨v138, T138, L138, X138, hQ138, st138⟩ := callV Xj137 hx hZ (y := (⟨"com/example/gibbon/gibbon/analysis/SparseSum", "add", "(ID)D"⟩ : MethodName)) hown (hw _ (List.mem_of_getElem? (i := 15) rfl)) (hw _ (List.mem_of_getElem? (i := 16) rfl)) (hw _ (List.mem_of_getElem? (i := 18) rfl)) (hw _ (List.mem_of_getElem? (i := 17) rfl)) (hw _ (List.mem_of_getElem? (i := 19) rfl)) (hw _ (List.mem_of_getElem? (i := 2) rfl)) (by decide) ej137 EA (argsL := [(.int ia), (.double z1)]) (rest := []) (W := 0) (rm_addU l Z a0 hw a br bi (0 : Int32) ia ka z1 w1.toInt (fun _ => 0) [] _ _ hj137 n0 Z0 EA FS FI FN VS VI hR hka (by omega) D_z1 bw1 (by decide) (by simp) ge_a gr gi n4 n2 n5) rfl (by decide) (by decide) (by decide) (by decide) (g := (mkF m 175 #[l0, l1, l2, l3, l4, l5, SI ia, SI ia, SI ia, l9, l10, l11, SD z1, S2, SD z2, S2, SD z3, S2, l18, l19, SI 1, SI 1, SI 1, SA a, SU, SU, SU, SU] [(.double z1), (.int ia), (.ref a)])) rfl (by rw [hml]; rfl) (lenOf pd3 rfl) rfl (by show 2 * 0 + _ ≤ _; exact Nat.le_of_eq rfl) (hb hby at_175)
          obtain ⟨rq11, b11, nq11, x11, y11, rfl, -, FS, FI, FN, VS, VI, hR11, hl11, hpr11, g11, na11, nb11, K138, NL138⟩ := hQ138
          have N0 := Fr.app N0 NL138
          have e138 : T138.heap = T138.heap := rfl
          have EA := EA.keep K138
          have Z0 := Nat.le_trans Z0 K138.1
          refine Goes.by (T' := T138) (g' := (mkF m 178 #[l0, l1, l2, l3, l4, l5, SI ia, SI ia, SI ia, l9, l10, l11, SD z1, S2, SD z2, S2, SD z3, S2, l18, l19, SI 1, SI 1, SI 1, SA a, SU, SU, SU, SU] [(.double rq11)])) st138 ?_
          rw [if_pos rfl] at hR11
          obtain rfl : nq11 = (1 : Int32) := Int32.toInt_inj.mp (by rw [hR11.2.2.2.2.1]; rfl)
          refine Goes.by (T' := T138) (g' := (mkF m 179 #[l0, l1, l2, l3, l4, l5, SI ia, SI ia, SI ia, l9, l10, l11, SD z1, S2, SD z2, S2, SD z3, S2, l18, l19, SI 1, SI 1, SI 1, SA a, SU, SU, SU, SU] [])) (fun _ k => XS.pop2W X138.here hx rfl (hb hby at_178) rfl rfl k) ?_
          refine Goes.by (T' := T138) (g' := (mkF m 181 #[l0, l1, l2, l3, l4, l5, SI ia, SI ia, SI ia, l9, l10, l11, SD z1, S2, SD z2, S2, SD z3, S2, l18, l19, SI 1, SI 1, SI 1, SA a, SU, SU, SU, SU] [(.int (1 : Int32))])) (fun _ k => XS.iload X138.here hx rfl (hb hby at_179) rfl k) ?_
          refine Goes.by (T' := T138) (g' := (mkF m 184 #[l0, l1, l2, l3, l4, l5, SI ia, SI ia, SI ia, l9, l10, l11, SD z1, S2, SD z2, S2, SD z3, S2, l18, l19, SI 1, SI 1, SI 1, SA a, SU, SU, SU, SU] [])) (fun _ k => XS.ifNo X138.here hx rfl (hb hby at_181) rfl (by decide) k) ?_
          refine Goes.by (T' := T138) (g' := (mkF m 186 #[l0, l1, l2, l3, l4, l5, SI ia, SI ia, SI ia, l9, l10, l11, SD z1, S2, SD z2, S2, SD z3, S2, l18, l19, SI 1, SI 1, SI 1, SA a, SU, SU, SU, SU] [(.ref a)])) (fun _ k => XS.aload X138.here hx rfl (hb hby at_184) rfl rfl k) ?_
          refine Goes.by (T' := T138) (g' := (mkF m 188 #[l0, l1, l2, l3, l4, l5, SI ia, SI ia, SI ia, l9, l10, l11, SD z1, S2, SD z2, S2, SD z3, S2, l18, l19, SI 1, SI 1, SI 1, SA a, SU, SU, SU, SU] [(.int ia), (.ref a)])) (fun _ k => XS.iload X138.here hx rfl (hb hby at_186) rfl k) ?_
          refine Goes.by (T' := T138) (g' := (mkF m 190 #[l0, l1, l2, l3, l4, l5, SI ia, SI ia, SI ia, l9, l10, l11, SD z1, S2, SD z2, S2, SD z3, S2, l18, l19, SI 1, SI 1, SI 1, SA a, SU, SU, SU, SU] [(.double z2), (.int ia), (.ref a)])) (fun _ k => XS.dload X138.here hx rfl (hb hby at_188) rfl k) ?_
          have fv2 : (own_upd (fun _ => 0) ka w1.toInt) ka = w1.toInt := by simp [own_upd]
          obtain ⟨v139, T139, L139, X139, hQ139, st139⟩ := callV X138 hx hZ (y := (⟨"com/example/gibbon/gibbon/analysis/SparseSum", "add", "(ID)D"⟩ : MethodName)) hown (hw _ (List.mem_of_getElem? (i := 15) rfl)) (hw _ (List.mem_of_getElem? (i := 16) rfl)) (hw _ (List.mem_of_getElem? (i := 18) rfl)) (hw _ (List.mem_of_getElem? (i := 17) rfl)) (hw _ (List.mem_of_getElem? (i := 19) rfl)) (hw _ (List.mem_of_getElem? (i := 2) rfl)) (by decide) e138 EA (argsL := [(.int ia), (.double z2)]) (rest := []) (W := 0) (rm_addU l Z a0 hw a b11 bi (1 : Int32) ia ka z2 w2.toInt (own_upd (fun _ => 0) ka w1.toInt) ([] ++ [ka]) _ _ T138.heap n0 Z0 EA FS FI FN VS VI hR11 hka (by omega) D_z2 bw2 (by rw [fv2]; omega) (by simp) ge_a g11 gi na11 n2 nb11) rfl (by decide) (by decide) (by decide) (by decide) (g := (mkF m 190 #[l0, l1, l2, l3, l4, l5, SI ia, SI ia, SI ia, l9, l10, l11, SD z1, S2, SD z2, S2, SD z3, S2, l18, l19, SI 1, SI 1, SI 1, SA a, SU, SU, SU, SU] [(.double z2), (.int ia), (.ref a)])) rfl (by rw [hml]; rfl) (lenOf pd3 rfl) rfl (by show 2 * 0 + _ ≤ _; exact Nat.le_of_eq rfl) (hb hby at_190)
          obtain ⟨rq12, b12, nq12, x12, y12, rfl, -, FS, FI, FN, VS, VI, hR12, hl12, hpr12, g12, na12, nb12, K139, NL139⟩ := hQ139
          have N0 := Fr.app N0 NL139
          have e139 : T139.heap = T139.heap := rfl
          have EA := EA.keep K139
          have Z0 := Nat.le_trans Z0 K139.1
          refine Goes.by (T' := T139) (g' := (mkF m 193 #[l0, l1, l2, l3, l4, l5, SI ia, SI ia, SI ia, l9, l10, l11, SD z1, S2, SD z2, S2, SD z3, S2, l18, l19, SI 1, SI 1, SI 1, SA a, SU, SU, SU, SU] [(.double rq12)])) st139 ?_
          rw [if_neg (by rw [fv2]; omega)] at hR12
          obtain rfl : nq12 = (1 : Int32) := Int32.toInt_inj.mp (by rw [hR12.2.2.2.2.1]; rfl)
          refine Goes.by (T' := T139) (g' := (mkF m 194 #[l0, l1, l2, l3, l4, l5, SI ia, SI ia, SI ia, l9, l10, l11, SD z1, S2, SD z2, S2, SD z3, S2, l18, l19, SI 1, SI 1, SI 1, SA a, SU, SU, SU, SU] [])) (fun _ k => XS.pop2W X139.here hx rfl (hb hby at_193) rfl rfl k) ?_
          refine Goes.by (T' := T139) (g' := (mkF m 196 #[l0, l1, l2, l3, l4, l5, SI ia, SI ia, SI ia, l9, l10, l11, SD z1, S2, SD z2, S2, SD z3, S2, l18, l19, SI 1, SI 1, SI 1, SA a, SU, SU, SU, SU] [(.int (1 : Int32))])) (fun _ k => XS.iload X139.here hx rfl (hb hby at_194) rfl k) ?_
          refine Goes.by (T' := T139) (g' := (mkF m 199 #[l0, l1, l2, l3, l4, l5, SI ia, SI ia, SI ia, l9, l10, l11, SD z1, S2, SD z2, S2, SD z3, S2, l18, l19, SI 1, SI 1, SI 1, SA a, SU, SU, SU, SU] [])) (fun _ k => XS.ifNo X139.here hx rfl (hb hby at_196) rfl (by decide) k) ?_
          refine Goes.by (T' := T139) (g' := (mkF m 201 #[l0, l1, l2, l3, l4, l5, SI ia, SI ia, SI ia, l9, l10, l11, SD z1, S2, SD z2, S2, SD z3, S2, l18, l19, SI 1, SI 1, SI 1, SA a, SU, SU, SU, SU] [(.ref a)])) (fun _ k => XS.aload X139.here hx rfl (hb hby at_199) rfl rfl k) ?_
          refine Goes.by (T' := T139) (g' := (mkF m 203 #[l0, l1, l2, l3, l4, l5, SI ia, SI ia, SI ia, l9, l10, l11, SD z1, S2, SD z2, S2, SD z3, S2, l18, l19, SI 1, SI 1, SI 1, SA a, SU, SU, SU, SU] [(.int ia), (.ref a)])) (fun _ k => XS.iload X139.here hx rfl (hb hby at_201) rfl k) ?_
          refine Goes.by (T' := T139) (g' := (mkF m 205 #[l0, l1, l2, l3, l4, l5, SI ia, SI ia, SI ia, l9, l10, l11, SD z1, S2, SD z2, S2, SD z3, S2, l18, l19, SI 1, SI 1, SI 1, SA a, SU, SU, SU, SU] [(.double z3), (.int ia), (.ref a)])) (fun _ k => XS.dload X139.here hx rfl (hb hby at_203) rfl k) ?_
          have fv3 : (own_upd (own_upd (fun _ => 0) ka w1.toInt) ka w2.toInt) ka = w1.toInt + w2.toInt := by simp [own_upd]
          obtain ⟨v140, T140, L140, X140, hQ140, st140⟩ := callV X139 hx hZ (y := (⟨"com/example/gibbon/gibbon/analysis/SparseSum", "add", "(ID)D"⟩ : MethodName)) hown (hw _ (List.mem_of_getElem? (i := 15) rfl)) (hw _ (List.mem_of_getElem? (i := 16) rfl)) (hw _ (List.mem_of_getElem? (i := 18) rfl)) (hw _ (List.mem_of_getElem? (i := 17) rfl)) (hw _ (List.mem_of_getElem? (i := 19) rfl)) (hw _ (List.mem_of_getElem? (i := 2) rfl)) (by decide) e139 EA (argsL := [(.int ia), (.double z3)]) (rest := []) (W := 0) (rm_addU l Z a0 hw a b12 bi (1 : Int32) ia ka z3 w3.toInt (own_upd (own_upd (fun _ => 0) ka w1.toInt) ka w2.toInt) ([] ++ [ka]) _ _ T139.heap n0 Z0 EA FS FI FN VS VI hR12 hka (by omega) D_z3 bw3 (by rw [fv3]; omega) (by simp) ge_a g12 gi na12 n2 nb12) rfl (by decide) (by decide) (by decide) (by decide) (g := (mkF m 205 #[l0, l1, l2, l3, l4, l5, SI ia, SI ia, SI ia, l9, l10, l11, SD z1, S2, SD z2, S2, SD z3, S2, l18, l19, SI 1, SI 1, SI 1, SA a, SU, SU, SU, SU] [(.double z3), (.int ia), (.ref a)])) rfl (by rw [hml]; rfl) (lenOf pd3 rfl) rfl (by show 2 * 0 + _ ≤ _; exact Nat.le_of_eq rfl) (hb hby at_205)
          obtain ⟨rq13, b13, nq13, x13, y13, rfl, -, FS, FI, FN, VS, VI, hR13, hl13, hpr13, g13, na13, nb13, K140, NL140⟩ := hQ140
          have N0 := Fr.app N0 NL140
          have e140 : T140.heap = T140.heap := rfl
          have EA := EA.keep K140
          have Z0 := Nat.le_trans Z0 K140.1
          refine Goes.by (T' := T140) (g' := (mkF m 208 #[l0, l1, l2, l3, l4, l5, SI ia, SI ia, SI ia, l9, l10, l11, SD z1, S2, SD z2, S2, SD z3, S2, l18, l19, SI 1, SI 1, SI 1, SA a, SU, SU, SU, SU] [(.double rq13)])) st140 ?_
          rw [if_neg (by rw [fv3]; omega)] at hR13
          obtain rfl : nq13 = (1 : Int32) := Int32.toInt_inj.mp (by rw [hR13.2.2.2.2.1]; rfl)
          refine Goes.by (T' := T140) (g' := (mkF m 209 #[l0, l1, l2, l3, l4, l5, SI ia, SI ia, SI ia, l9, l10, l11, SD z1, S2, SD z2, S2, SD z3, S2, l18, l19, SI 1, SI 1, SI 1, SA a, SU, SU, SU, SU] [])) (fun _ k => XS.pop2W X140.here hx rfl (hb hby at_208) rfl rfl k) ?_
          refine Goes.by (T' := T140) (g' := (mkF m 210 #[l0, l1, l2, l3, l4, l5, SI ia, SI ia, SI ia, l9, l10, l11, SD z1, S2, SD z2, S2, SD z3, S2, l18, l19, SI 1, SI 1, SI 1, SA a, SU, SU, SU, SU] [(.int (3 : Int32))])) (fun _ k => XS.iconst X140.here hx rfl (hb hby at_209)  k) ?_
          obtain ⟨T141, h141, k141, X141, e141, E141, A141, st141⟩ := newP X140 hx hZ (hw _ (List.mem_of_getElem? (i := 9) rfl)) e140 (g := (mkF m 210 #[l0, l1, l2, l3, l4, l5, SI ia, SI ia, SI ia, l9, l10, l11, SD z1, S2, SD z2, S2, SD z3, S2, l18, l19, SI 1, SI 1, SI 1, SA a, SU, SU, SU, SU] [(.int (3 : Int32))])) rfl (hb hby at_210) rfl (by decide) (cap := 3) (by decide) (by decide) (by decide) (by decide)
          obtain ⟨ea, g141⟩ : ∃ z, z = T140.heap.size := ⟨_, rfl⟩
          rw [← g141] at A141 st141
          have ne_a_ea : a ≠ ea := fun q => Nat.lt_irrefl _ (Nat.lt_of_lt_of_eq EA.lt (g141.symm.trans q.symm))
          have ne_b13_ea : b13 ≠ ea := fun q => Nat.lt_irrefl _ (Nat.lt_of_lt_of_eq VS.lt (g141.symm.trans q.symm))
          have ne_bi_ea : bi ≠ ea := fun q => Nat.lt_irrefl _ (Nat.lt_of_lt_of_eq VI.lt (g141.symm.trans q.symm))
          have ge_ea : n0 ≤ ea := Nat.le_trans Z0 (Nat.le_of_eq g141.symm)
          have EA := EA.ext E141
          have FS := FS.ext E141
          have FI := FI.ext E141
          have FN := FN.ext E141
          have VS := VS.ext E141
          have VI := VI.ext E141
          have Z0 := Nat.le_trans Z0 E141.1
          have V_ea : Sar Z h141 ea .double [(.double (0 : UInt64)), (.double (0 : UInt64)), (.double (0 : UInt64))] := Sar.new (n := 3) A141 (by decide)
          refine Goes.by (T' := T141) (g' := (mkF m 212 #[l0, l1, l2, l3, l4, l5, SI ia, SI ia, SI ia, l9, l10, l11, SD z1, S2, SD z2, S2, SD z3, S2, l18, l19, SI 1, SI 1, SI 1, SA a, SU, SU, SU, SU] [(.ref ea)])) st141 ?_
          refine Goes.by (T' := T141) (g' := (mkF m 214 #[l0, l1, l2, l3, l4, l5, SI ia, SI ia, SI ia, l9, l10, l11, SD z1, S2, SD z2, S2, SD z3, S2, l18, l19, SI 1, SI 1, SI 1, SA a, SA ea, SU, SU, SU] [])) (fun _ k => XS.astore X141.here hx rfl (hb hby at_212) rfl rfl (l' := #[l0, l1, l2, l3, l4, l5, SI ia, SI ia, SI ia, l9, l10, l11, SD z1, S2, SD z2, S2, SD z3, S2, l18, l19, SI 1, SI 1, SI 1, SA a, SA ea, SU, SU, SU]) rfl k) ?_
          refine Goes.by (T' := T141) (g' := (mkF m 215 #[l0, l1, l2, l3, l4, l5, SI ia, SI ia, SI ia, l9, l10, l11, SD z1, S2, SD z2, S2, SD z3, S2, l18, l19, SI 1, SI 1, SI 1, SA a, SA ea, SU, SU, SU] [(.int (0 : Int32))])) (fun _ k => XS.iconst X141.here hx rfl (hb hby at_214)  k) ?_
          refine Goes.by (T' := T141) (g' := (mkF m 217 #[l0, l1, l2, l3, l4, l5, SI ia, SI ia, SI ia, l9, l10, l11, SD z1, S2, SD z2, S2, SD z3, S2, l18, l19, SI 1, SI 1, SI 1, SA a, SA ea, SI 0, SU, SU] [])) (fun _ k => XS.istore X141.here hx rfl (hb hby at_215) rfl (l' := #[l0, l1, l2, l3, l4, l5, SI ia, SI ia, SI ia, l9, l10, l11, SD z1, S2, SD z2, S2, SD z3, S2, l18, l19, SI 1, SI 1, SI 1, SA a, SA ea, SI 0, SU, SU]) rfl k) ?_
          refine Goes.by (T' := T141) (g' := (mkF m 219 #[l0, l1, l2, l3, l4, l5, SI ia, SI ia, SI ia, l9, l10, l11, SD z1, S2, SD z2, S2, SD z3, S2, l18, l19, SI 1, SI 1, SI 1, SA a, SA ea, SI 0, SU, SU] [(.int (1 : Int32))])) (fun _ k => XS.iload X141.here hx rfl (hb hby at_217) rfl k) ?_
          refine Goes.by (T' := T141) (g' := (mkF m 222 #[l0, l1, l2, l3, l4, l5, SI ia, SI ia, SI ia, l9, l10, l11, SD z1, S2, SD z2, S2, SD z3, S2, l18, l19, SI 1, SI 1, SI 1, SA a, SA ea, SI 0, SU, SU] [])) (fun _ k => XS.ifNo X141.here hx rfl (hb hby at_219) rfl (by decide) k) ?_
          refine Goes.by (T' := T141) (g' := (mkF m 224 #[l0, l1, l2, l3, l4, l5, SI ia, SI ia, SI ia, l9, l10, l11, SD z1, S2, SD z2, S2, SD z3, S2, l18, l19, SI 1, SI 1, SI 1, SA a, SA ea, SI 0, SU, SU] [(.double z1)])) (fun _ k => XS.dload X141.here hx rfl (hb hby at_222) rfl k) ?_
          refine Goes.by (T' := T141) (g' := (mkF m 226 #[l0, l1, l2, l3, l4, l5, SI ia, SI ia, SI ia, l9, l10, l11, SD z1, S2, SD z2, S2, SD z3, S2, l18, l19, SI 1, SI 1, SI 1, SA a, SA ea, SI 0, SD z1, S2] [])) (fun _ k => XS.dstore X141.here hx rfl (hb hby at_224) rfl (l' := #[l0, l1, l2, l3, l4, l5, SI ia, SI ia, SI ia, l9, l10, l11, SD z1, S2, SD z2, S2, SD z3, S2, l18, l19, SI 1, SI 1, SI 1, SA a, SA ea, SI 0, SD z1, S2]) rfl k) ?_
          refine Goes.by (T' := T141) (g' := (mkF m 228 #[l0, l1, l2, l3, l4, l5, SI ia, SI ia, SI ia, l9, l10, l11, SD z1, S2, SD z2, S2, SD z3, S2, l18, l19, SI 1, SI 1, SI 1, SA a, SA ea, SI 0, SD z1, S2] [(.int (1 : Int32))])) (fun _ k => XS.iload X141.here hx rfl (hb hby at_226) rfl k) ?_
          refine Goes.by (T' := T141) (g' := (mkF m 231 #[l0, l1, l2, l3, l4, l5, SI ia, SI ia, SI ia, l9, l10, l11, SD z1, S2, SD z2, S2, SD z3, S2, l18, l19, SI 1, SI 1, SI 1, SA a, SA ea, SI 0, SD z1, S2] [])) (fun _ k => XS.ifNo X141.here hx rfl (hb hby at_228) rfl (by decide) k) ?_
          refine Goes.by (T' := T141) (g' := (mkF m 233 #[l0, l1, l2, l3, l4, l5, SI ia, SI ia, SI ia, l9, l10, l11, SD z1, S2, SD z2, S2, SD z3, S2, l18, l19, SI 1, SI 1, SI 1, SA a, SA ea, SI 0, SD z1, S2] [(.int ia)])) (fun _ k => XS.iload X141.here hx rfl (hb hby at_231) rfl k) ?_
          refine Goes.by (T' := T141) (g' := (mkF m 235 #[l0, l1, l2, l3, l4, l5, SI ia, SI ia, SI ia, l9, l10, l11, SD z1, S2, SD z2, S2, SD z3, S2, l18, l19, SI 1, SI 1, SI 1, SA a, SA ea, SI 0, SD z1, S2] [(.int ia), (.int ia)])) (fun _ k => XS.iload X141.here hx rfl (hb hby at_233) rfl k) ?_
          refine Goes.by (T' := T141) (g' := (mkF m 238 #[l0, l1, l2, l3, l4, l5, SI ia, SI ia, SI ia, l9, l10, l11, SD z1, S2, SD z2, S2, SD z3, S2, l18, l19, SI 1, SI 1, SI 1, SA a, SA ea, SI 0, SD z1, S2] [])) (fun _ k => XS.icmpNo X141.here hx rfl (hb hby at_235) rfl (teq rfl).2 k) ?_
          refine Goes.by (T' := T141) (g' := (mkF m 240 #[l0, l1, l2, l3, l4, l5, SI ia, SI ia, SI ia, l9, l10, l11, SD z1, S2, SD z2, S2, SD z3, S2, l18, l19, SI 1, SI 1, SI 1, SA a, SA ea, SI 0, SD z1, S2] [(.double z1)])) (fun _ k => XS.dload X141.here hx rfl (hb hby at_238) rfl k) ?_
          refine Goes.by (T' := T141) (g' := (mkF m 242 #[l0, l1, l2, l3, l4, l5, SI ia, SI ia, SI ia, l9, l10, l11, SD z1, S2, SD z2, S2, SD z3, S2, l18, l19, SI 1, SI 1, SI 1, SA a, SA ea, SI 0, SD z1, S2] [(.double z2), (.double z1)])) (fun _ k => XS.dload X141.here hx rfl (hb hby at_240) rfl k) ?_
          obtain ⟨t1, q_t1⟩ : ∃ zz, FP.dadd z1 z2 = zz := ⟨_, rfl⟩
          have D_t1 : Core.DInt (w1.toInt + w2.toInt) t1 := DInt_add q_t1 D_z1 D_z2 (by omega)
          refine Goes.by (T' := T141) (g' := (mkF m 243 #[l0, l1, l2, l3, l4, l5, SI ia, SI ia, SI ia, l9, l10, l11, SD z1, S2, SD z2, S2, SD z3, S2, l18, l19, SI 1, SI 1, SI 1, SA a, SA ea, SI 0, SD z1, S2] [(.double t1)])) (fun _ k => XS.daddS X141.here hx rfl (hb hby at_242) rfl (by rw [q_t1]; exact DInt_nn D_t1) q_t1 k) ?_
          refine Goes.by (T' := T141) (g' := (mkF m 245 #[l0, l1, l2, l3, l4, l5, SI ia, SI ia, SI ia, l9, l10, l11, SD z1, S2, SD z2, S2, SD z3, S2, l18, l19, SI 1, SI 1, SI 1, SA a, SA ea, SI 0, SD t1, S2] [])) (fun _ k => XS.dstore X141.here hx rfl (hb hby at_243) rfl (l' := #[l0, l1, l2, l3, l4, l5, SI ia, SI ia, SI ia, l9, l10, l11, SD z1, S2, SD z2, S2, SD z3, S2, l18, l19, SI 1, SI 1, SI 1, SA a, SA ea, SI 0, SD t1, S2]) rfl k) ?_
          refine Goes.by (T' := T141) (g' := (mkF m 247 #[l0, l1, l2, l3, l4, l5, SI ia, SI ia, SI ia, l9, l10, l11, SD z1, S2, SD z2, S2, SD z3, S2, l18, l19, SI 1, SI 1, SI 1, SA a, SA ea, SI 0, SD t1, S2] [(.int (1 : Int32))])) (fun _ k => XS.iload X141.here hx rfl (hb hby at_245) rfl k) ?_
          refine Goes.by (T' := T141) (g' := (mkF m 250 #[l0, l1, l2, l3, l4, l5, SI ia, SI ia, SI ia, l9, l10, l11, SD z1, S2, SD z2, S2, SD z3, S2, l18, l19, SI 1, SI 1, SI 1, SA a, SA ea, SI 0, SD t1, S2] [])) (fun _ k => XS.ifNo X141.here hx rfl (hb hby at_247) rfl (by decide) k) ?_
          refine Goes.by (T' := T141) (g' := (mkF m 252 #[l0, l1, l2, l3, l4, l5, SI ia, SI ia, SI ia, l9, l10, l11, SD z1, S2, SD z2, S2, SD z3, S2, l18, l19, SI 1, SI 1, SI 1, SA a, SA ea, SI 0, SD t1, S2] [(.int ia)])) (fun _ k => XS.iload X141.here hx rfl (hb hby at_250) rfl k) ?_
          refine Goes.by (T' := T141) (g' := (mkF m 254 #[l0, l1, l2, l3, l4, l5, SI ia, SI ia, SI ia, l9, l10, l11, SD z1, S2, SD z2, S2, SD z3, S2, l18, l19, SI 1, SI 1, SI 1, SA a, SA ea, SI 0, SD t1, S2] [(.int ia), (.int ia)])) (fun _ k => XS.iload X141.here hx rfl (hb hby at_252) rfl k) ?_
          refine Goes.by (T' := T141) (g' := (mkF m 257 #[l0, l1, l2, l3, l4, l5, SI ia, SI ia, SI ia, l9, l10, l11, SD z1, S2, SD z2, S2, SD z3, S2, l18, l19, SI 1, SI 1, SI 1, SA a, SA ea, SI 0, SD t1, S2] [])) (fun _ k => XS.icmpNo X141.here hx rfl (hb hby at_254) rfl (teq rfl).2 k) ?_
          refine Goes.by (T' := T141) (g' := (mkF m 259 #[l0, l1, l2, l3, l4, l5, SI ia, SI ia, SI ia, l9, l10, l11, SD z1, S2, SD z2, S2, SD z3, S2, l18, l19, SI 1, SI 1, SI 1, SA a, SA ea, SI 0, SD t1, S2] [(.double t1)])) (fun _ k => XS.dload X141.here hx rfl (hb hby at_257) rfl k) ?_
          refine Goes.by (T' := T141) (g' := (mkF m 261 #[l0, l1, l2, l3, l4, l5, SI ia, SI ia, SI ia, l9, l10, l11, SD z1, S2, SD z2, S2, SD z3, S2, l18, l19, SI 1, SI 1, SI 1, SA a, SA ea, SI 0, SD t1, S2] [(.double z3), (.double t1)])) (fun _ k => XS.dload X141.here hx rfl (hb hby at_259) rfl k) ?_
          obtain ⟨t2, q_t2⟩ : ∃ zz, FP.dadd t1 z3 = zz := ⟨_, rfl⟩
          have D_t2 : Core.DInt ((w1.toInt + w2.toInt) + w3.toInt) t2 := DInt_add q_t2 D_t1 D_z3 (by omega)
          refine Goes.by (T' := T141) (g' := (mkF m 262 #[l0, l1, l2, l3, l4, l5, SI ia, SI ia, SI ia, l9, l10, l11, SD z1, S2, SD z2, S2, SD z3, S2, l18, l19, SI 1, SI 1, SI 1, SA a, SA ea, SI 0, SD t1, S2] [(.double t2)])) (fun _ k => XS.daddS X141.here hx rfl (hb hby at_261) rfl (by rw [q_t2]; exact DInt_nn D_t2) q_t2 k) ?_
          refine Goes.by (T' := T141) (g' := (mkF m 264 #[l0, l1, l2, l3, l4, l5, SI ia, SI ia, SI ia, l9, l10, l11, SD z1, S2, SD z2, S2, SD z3, S2, l18, l19, SI 1, SI 1, SI 1, SA a, SA ea, SI 0, SD t2, S2] [])) (fun _ k => XS.dstore X141.here hx rfl (hb hby at_262) rfl (l' := #[l0, l1, l2, l3, l4, l5, SI ia, SI ia, SI ia, l9, l10, l11, SD z1, S2, SD z2, S2, SD z3, S2, l18, l19, SI 1, SI 1, SI 1, SA a, SA ea, SI 0, SD t2, S2]) rfl k) ?_
          refine Goes.by (T' := T141) (g' := (mkF m 266 #[l0, l1, l2, l3, l4, l5, SI ia, SI ia, SI ia, l9, l10, l11, SD z1, S2, SD z2, S2, SD z3, S2, l18, l19, SI 1, SI 1, SI 1, SA a, SA ea, SI 0, SD t2, S2] [(.ref ea)])) (fun _ k => XS.aload X141.here hx rfl (hb hby at_264) rfl rfl k) ?_
          refine Goes.by (T' := T141) (g' := (mkF m 268 #[l0, l1, l2, l3, l4, l5, SI ia, SI ia, SI ia, l9, l10, l11, SD z1, S2, SD z2, S2, SD z3, S2, l18, l19, SI 1, SI 1, SI 1, SA a, SA ea, SI 0, SD t2, S2] [(.int (0 : Int32)), (.ref ea)])) (fun _ k => XS.iload X141.here hx rfl (hb hby at_266) rfl k) ?_
          refine Goes.by (T' := T141) (g' := (mkF m 270 #[l0, l1, l2, l3, l4, l5, SI ia, SI ia, SI ia, l9, l10, l11, SD z1, S2, SD z2, S2, SD z3, S2, l18, l19, SI 1, SI 1, SI 1, SA a, SA ea, SI 0, SD t2, S2] [(.double t2), (.int (0 : Int32)), (.ref ea)])) (fun _ k => XS.dload X141.here hx rfl (hb hby at_268) rfl k) ?_
          obtain ⟨T142, h142, X142, e142, W142, V142, st142⟩ := stDS X141 hx hZ e141 V_ea (j := (0 : Int32)) 0 (by decide) (by show 0 < 3; decide) (g := (mkF m 270 #[l0, l1, l2, l3, l4, l5, SI ia, SI ia, SI ia, l9, l10, l11, SD z1, S2, SD z2, S2, SD z3, S2, l18, l19, SI 1, SI 1, SI 1, SA a, SA ea, SI 0, SD t2, S2] [(.double t2), (.int (0 : Int32)), (.ref ea)])) rfl rfl (hb hby at_270)
          have N0 := Fr.snoc X142 N0 ge_ea
          have EA := EA.wr W142
          have FS := FS.other W142 (Or.inl ne_a_ea)
          have FI := FI.other W142 (Or.inl ne_a_ea)
          have FN := FN.other W142 (Or.inl ne_a_ea)
          have VS := VS.other W142 ne_b13_ea
          have VI := VI.other W142 ne_bi_ea
          have Z0 := Nat.le_trans Z0 (Nat.le_of_eq W142.size.symm)
          have V_ea : Sar Z h142 ea .double [(.double t2), (.double (0 : UInt64)), (.double (0 : UInt64))] := V142
          refine Goes.by (T' := T142) (g' := (mkF m 271 #[l0, l1, l2, l3, l4, l5, SI ia, SI ia, SI ia, l9, l10, l11, SD z1, S2, SD z2, S2, SD z3, S2, l18, l19, SI 1, SI 1, SI 1, SA a, SA ea, SI 0, SD t2, S2] [])) st142 ?_
          refine Goes.by (T' := T142) (g' := (mkF m 273 #[l0, l1, l2, l3, l4, l5, SI ia, SI ia, SI ia, l9, l10, l11, SD z1, S2, SD z2, S2, SD z3, S2, l18, l19, SI 1, SI 1, SI 1, SA a, SA ea, SI 0, SD t2, S2] [(.int (0 : Int32))])) (fun _ k => XS.iload X142.here hx rfl (hb hby at_271) rfl k) ?_
          refine Goes.by (T' := T142) (g' := (mkF m 274 #[l0, l1, l2, l3, l4, l5, SI ia, SI ia, SI ia, l9, l10, l11, SD z1, S2, SD z2, S2, SD z3, S2, l18, l19, SI 1, SI 1, SI 1, SA a, SA ea, SI 0, SD t2, S2] [(.int (1 : Int32)), (.int (0 : Int32))])) (fun _ k => XS.iconst X142.here hx rfl (hb hby at_273)  k) ?_
          refine Goes.by (T' := T142) (g' := (mkF m 275 #[l0, l1, l2, l3, l4, l5, SI ia, SI ia, SI ia, l9, l10, l11, SD z1, S2, SD z2, S2, SD z3, S2, l18, l19, SI 1, SI 1, SI 1, SA a, SA ea, SI 0, SD t2, S2] [(.int (1 : Int32))])) (fun _ k => XS.iadd X142.here hx rfl (hb hby at_274) rfl k) ?_
          refine Goes.by (T' := T142) (g' := (mkF m 277 #[l0, l1, l2, l3, l4, l5, SI ia, SI ia, SI ia, l9, l10, l11, SD z1, S2, SD z2, S2, SD z3, S2, l18, l19, SI 1, SI 1, SI 1, SA a, SA ea, SI 1, SD t2, S2] [])) (fun _ k => XS.istore X142.here hx rfl (hb hby at_275) rfl (l' := #[l0, l1, l2, l3, l4, l5, SI ia, SI ia, SI ia, l9, l10, l11, SD z1, S2, SD z2, S2, SD z3, S2, l18, l19, SI 1, SI 1, SI 1, SA a, SA ea, SI 1, SD t2, S2]) rfl k) ?_
          refine Goes.by (T' := T142) (g' := (mkF m 279 #[l0, l1, l2, l3, l4, l5, SI ia, SI ia, SI ia, l9, l10, l11, SD z1, S2, SD z2, S2, SD z3, S2, l18, l19, SI 1, SI 1, SI 1, SA a, SA ea, SI 1, SD t2, S2] [(.int (1 : Int32))])) (fun _ k => XS.iload X142.here hx rfl (hb hby at_277) rfl k) ?_
          refine Goes.by (T' := T142) (g' := (mkF m 282 #[l0, l1, l2, l3, l4, l5, SI ia, SI ia, SI ia, l9, l10, l11, SD z1, S2, SD z2, S2, SD z3, S2, l18, l19, SI 1, SI 1, SI 1, SA a, SA ea, SI 1, SD t2, S2] [])) (fun _ k => XS.ifNo X142.here hx rfl (hb hby at_279) rfl (by decide) k) ?_
          refine Goes.by (T' := T142) (g' := (mkF m 284 #[l0, l1, l2, l3, l4, l5, SI ia, SI ia, SI ia, l9, l10, l11, SD z1, S2, SD z2, S2, SD z3, S2, l18, l19, SI 1, SI 1, SI 1, SA a, SA ea, SI 1, SD t2, S2] [(.int ia)])) (fun _ k => XS.iload X142.here hx rfl (hb hby at_282) rfl k) ?_
          refine Goes.by (T' := T142) (g' := (mkF m 286 #[l0, l1, l2, l3, l4, l5, SI ia, SI ia, SI ia, l9, l10, l11, SD z1, S2, SD z2, S2, SD z3, S2, l18, l19, SI 1, SI 1, SI 1, SA a, SA ea, SI 1, SD t2, S2] [(.int ia), (.int ia)])) (fun _ k => XS.iload X142.here hx rfl (hb hby at_284) rfl k) ?_
          refine Goes.by (T' := T142) (g' := (mkF m 325 #[l0, l1, l2, l3, l4, l5, SI ia, SI ia, SI ia, l9, l10, l11, SD z1, S2, SD z2, S2, SD z3, S2, l18, l19, SI 1, SI 1, SI 1, SA a, SA ea, SI 1, SD t2, S2] [])) (fun _ k => XS.icmpYes X142.here hx rfl (pc0 := 286) (pc' := 325) rfl (hb hby at_286) rfl (teq rfl).1 (by decide) (by decide) k) ?_
          refine Goes.by (T' := T142) (g' := (mkF m 327 #[l0, l1, l2, l3, l4, l5, SI ia, SI ia, SI ia, l9, l10, l11, SD z1, S2, SD z2, S2, SD z3, S2, l18, l19, SI 1, SI 1, SI 1, SA a, SA ea, SI 1, SD t2, S2] [(.int (1 : Int32))])) (fun _ k => XS.iload X142.here hx rfl (hb hby at_325) rfl k) ?_
          refine Goes.by (T' := T142) (g' := (mkF m 330 #[l0, l1, l2, l3, l4, l5, SI ia, SI ia, SI ia, l9, l10, l11, SD z1, S2, SD z2, S2, SD z3, S2, l18, l19, SI 1, SI 1, SI 1, SA a, SA ea, SI 1, SD t2, S2] [])) (fun _ k => XS.ifNo X142.here hx rfl (hb hby at_327) rfl (by decide) k) ?_
          refine Goes.by (T' := T142) (g' := (mkF m 332 #[l0, l1, l2, l3, l4, l5, SI ia, SI ia, SI ia, l9, l10, l11, SD z1, S2, SD z2, S2, SD z3, S2, l18, l19, SI 1, SI 1, SI 1, SA a, SA ea, SI 1, SD t2, S2] [(.int ia)])) (fun _ k => XS.iload X142.here hx rfl (hb hby at_330) rfl k) ?_
          refine Goes.by (T' := T142) (g' := (mkF m 334 #[l0, l1, l2, l3, l4, l5, SI ia, SI ia, SI ia, l9, l10, l11, SD z1, S2, SD z2, S2, SD z3, S2, l18, l19, SI 1, SI 1, SI 1, SA a, SA ea, SI 1, SD t2, S2] [(.int ia), (.int ia)])) (fun _ k => XS.iload X142.here hx rfl (hb hby at_332) rfl k) ?_
          refine Goes.by (T' := T142) (g' := (mkF m 357 #[l0, l1, l2, l3, l4, l5, SI ia, SI ia, SI ia, l9, l10, l11, SD z1, S2, SD z2, S2, SD z3, S2, l18, l19, SI 1, SI 1, SI 1, SA a, SA ea, SI 1, SD t2, S2] [])) (fun _ k => XS.icmpYes X142.here hx rfl (pc0 := 334) (pc' := 357) rfl (hb hby at_334) rfl (teq rfl).1 (by decide) (by decide) k) ?_
          refine Goes.by (T' := T142) (g' := (mkF m 359 #[l0, l1, l2, l3, l4, l5, SI ia, SI ia, SI ia, l9, l10, l11, SD z1, S2, SD z2, S2, SD z3, S2, l18, l19, SI 1, SI 1, SI 1, SA a, SA ea, SI 1, SD t2, S2] [(.ref a)])) (fun _ k => XS.aload X142.here hx rfl (hb hby at_357) rfl rfl k) ?_
          obtain ⟨hq0, v0, hy0, hv0⟩ := hR13.2.2.2.2.2.2 0 ka (by simp)
          obtain ⟨d0, hx0, Dd0⟩ := hR13.2.1 ka hq0
          have fe0 : (own_upd (own_upd (own_upd (fun _ => 0) ka w1.toInt) ka w2.toInt) ka w3.toInt) ka = w1.toInt + w2.toInt + w3.toInt := by simp [own_upd]
          rw [fe0] at Dd0
          exact cmp1 a b13 bi ea _ _ _ _ _ v0 ka d0 ((w1.toInt + w2.toInt) + w3.toInt) _ _ _ _ _ _ _ _ _ _ _ _ _ _ _ _ _ _ _ _ _ _ _ _ _ _ _ (X142.wide (fun x hx _ => hx) (by decide) (by decide)) e142 N0 Z0 EA FS FI FN VS VI V_ea ge_a g13 gi ge_ea na13 nb13 n2 ne_a_ea ne_b13_ea ne_bi_ea hy0 hv0 hx0 Dd0 D_t2
        · have nkac : ka ≠ kc := fun q => hac (Int32.toInt_inj.mp (by rw [hka, hkc, q]))
          refine Goes.by (T' := Tj137) (g' := (mkF m 166 #[l0, l1, l2, l3, l4, l5, SI ia, SI ia, SI ic, l9, l10, l11, SD z1, S2, SD z2, S2, SD z3, S2, l18, l19, SI 1, SI 1, SI 1, SA a, SU, SU, SU, SU] [(.int (1 : Int32))])) (fun _ k => XS.iload Xj137.here hx rfl (hb hby at_164) rfl k) ?_
          refine Goes.by (T' := Tj137) (g' := (mkF m 169 #[l0, l1, l2, l3, l4, l5, SI ia, SI ia, SI ic, l9, l10, l11, SD z1, S2, SD z2, S2, SD z3, S2, l18, l19, SI 1, SI 1, SI 1, SA a, SU, SU, SU, SU] [])) (fun _ k => XS.ifNo Xj137.here hx rfl (hb hby at_166) rfl (by decide) k) ?_
          refine Goes.by (T' := Tj137) (g' := (mkF m 171 #[l0, l1, l2, l3, l4, l5, SI ia, SI ia, SI ic, l9, l10, l11, SD z1, S2, SD z2, S2, SD z3, S2, l18, l19, SI 1, SI 1, SI 1, SA a, SU, SU, SU, SU] [(.ref a)])) (fun _ k => XS.aload Xj137.here hx rfl (hb hby at_169) rfl rfl k) ?_
          refine Goes.by (T' := Tj137) (g' := (mkF m 173 #[l0, l1, l2, l3, l4, l5, SI ia, SI ia, SI ic, l9, l10, l11, SD z1, S2, SD z2, S2, SD z3, S2, l18, l19, SI 1, SI 1, SI 1, SA a, SU, SU, SU, SU] [(.int ia), (.ref a)])) (fun _ k => XS.iload Xj137.here hx rfl (hb hby at_171) rfl k) ?_
          refine Goes.by (T' := Tj137) (g' := (mkF m 175 #[l0, l1, l2, l3, l4, l5, SI ia, SI ia, SI ic, l9, l10, l11, SD z1, S2, SD z2, S2, SD z3, S2, l18, l19, SI 1, SI 1, SI 1, SA a, SU, SU, SU, SU] [(.double z1), (.int ia), (.ref a)])) (fun _ k => XS.dload Xj137.here hx rfl (hb hby at_173) rfl k) ?_
          obtain ⟨v143, T143, L143, X143, hQ143, st143⟩ := callV Xj137 hx hZ (y := (⟨"com/example/gibbon/gibbon/analysis/SparseSum", "add", "(ID)D"⟩ : MethodName)) hown (hw _ (List.mem_of_getElem? (i := 15) rfl)) (hw _ (List.mem_of_getElem? (i := 16) rfl)) (hw _ (List.mem_of_getElem? (i := 18) rfl)) (hw _ (List.mem_of_getElem? (i := 17) rfl)) (hw _ (List.mem_of_getElem? (i := 19) rfl)) (hw _ (List.mem_of_getElem? (i := 2) rfl)) (by decide) ej137 EA (argsL := [(.int ia), (.double z1)]) (rest := []) (W := 0) (rm_addU l Z a0 hw a br bi (0 : Int32) ia ka z1 w1.toInt (fun _ => 0) [] _ _ hj137 n0 Z0 EA FS FI FN VS VI hR hka (by omega) D_z1 bw1 (by decide) (by simp) ge_a gr gi n4 n2 n5) rfl (by decide) (by decide) (by decide) (by decide) (g := (mkF m 175 #[l0, l1, l2, l3, l4, l5, SI ia, SI ia, SI ic, l9, l10, l11, SD z1, S2, SD z2, S2, SD z3, S2, l18, l19, SI 1, SI 1, SI 1, SA a, SU, SU, SU, SU] [(.double z1), (.int ia), (.ref a)])) rfl (by rw [hml]; rfl) (lenOf pd3 rfl) rfl (by show 2 * 0 + _ ≤ _; exact Nat.le_of_eq rfl) (hb hby at_175)
          obtain ⟨rq11, b11, nq11, x11, y11, rfl, -, FS, FI, FN, VS, VI, hR11, hl11, hpr11, g11, na11, nb11, K143, NL143⟩ := hQ143
          have N0 := Fr.app N0 NL143
          have e143 : T143.heap = T143.heap := rfl
          have EA := EA.keep K143
          have Z0 := Nat.le_trans Z0 K143.1
          refine Goes.by (T' := T143) (g' := (mkF m 178 #[l0, l1, l2, l3, l4, l5, SI ia, SI ia, SI ic, l9, l10, l11, SD z1, S2, SD z2, S2, SD z3, S2, l18, l19, SI 1, SI 1, SI 1, SA a, SU, SU, SU, SU] [(.double rq11)])) st143 ?_
          rw [if_pos rfl] at hR11
          obtain rfl : nq11 = (1 : Int32) := Int32.toInt_inj.mp (by rw [hR11.2.2.2.2.1]; rfl)
          refine Goes.by (T' := T143) (g' := (mkF m 179 #[l0, l1, l2, l3, l4, l5, SI ia, SI ia, SI ic, l9, l10, l11, SD z1, S2, SD z2, S2, SD z3, S2, l18, l19, SI 1, SI 1, SI 1, SA a, SU, SU, SU, SU] [])) (fun _ k => XS.pop2W X143.here hx rfl (hb hby at_178) rfl rfl k) ?_
          refine Goes.by (T' := T143) (g' := (mkF m 181 #[l0, l1, l2, l3, l4, l5, SI ia, SI ia, SI ic, l9, l10, l11, SD z1, S2, SD z2, S2, SD z3, S2, l18, l19, SI 1, SI 1, SI 1, SA a, SU, SU, SU, SU] [(.int (1 : Int32))])) (fun _ k => XS.iload X143.here hx rfl (hb hby at_179) rfl k) ?_
          refine Goes.by (T' := T143) (g' := (mkF m 184 #[l0, l1, l2, l3, l4, l5, SI ia, SI ia, SI ic, l9, l10, l11, SD z1, S2, SD z2, S2, SD z3, S2, l18, l19, SI 1, SI 1, SI 1, SA a, SU, SU, SU, SU] [])) (fun _ k => XS.ifNo X143.here hx rfl (hb hby at_181) rfl (by decide) k) ?_
          refine Goes.by (T' := T143) (g' := (mkF m 186 #[l0, l1, l2, l3, l4, l5, SI ia, SI ia, SI ic, l9, l10, l11, SD z1, S2, SD z2, S2, SD z3, S2, l18, l19, SI 1, SI 1, SI 1, SA a, SU, SU, SU, SU] [(.ref a)])) (fun _ k => XS.aload X143.here hx rfl (hb hby at_184) rfl rfl k) ?_
          refine Goes.by (T' := T143) (g' := (mkF m 188 #[l0, l1, l2, l3, l4, l5, SI ia, SI ia, SI ic, l9, l10, l11, SD z1, S2, SD z2, S2, SD z3, S2, l18, l19, SI 1, SI 1, SI 1, SA a, SU, SU, SU, SU] [(.int ia), (.ref a)])) (fun _ k => XS.iload X143.here hx rfl (hb hby at_186) rfl k) ?_
          refine Goes.by (T' := T143) (g' := (mkF m 190 #[l0, l1, l2, l3, l4, l5, SI ia, SI ia, SI ic, l9, l10, l11, SD z1, S2, SD z2, S2, SD z3, S2, l18, l19, SI 1, SI 1, SI 1, SA a, SU, SU, SU, SU] [(.double z2), (.int ia), (.ref a)])) (fun _ k => XS.dload X143.here hx rfl (hb hby at_188) rfl k) ?_
          have fv2 : (own_upd (fun _ => 0) ka w1.toInt) ka = w1.toInt := by simp [own_upd, nkac, nkac.symm]
          obtain ⟨v144, T144, L144, X144, hQ144, st144⟩ := callV X143 hx hZ (y := (⟨"com/example/gibbon/gibbon/analysis/SparseSum", "add", "(ID)D"⟩ : MethodName)) hown (hw _ (List.mem_of_getElem? (i := 15) rfl)) (hw _ (List.mem_of_getElem? (i := 16) rfl)) (hw _ (List.mem_of_getElem? (i := 18) rfl)) (hw _ (List.mem_of_getElem? (i := 17) rfl)) (hw _ (List.mem_of_getElem? (i := 19) rfl)) (hw _ (List.mem_of_getElem? (i := 2) rfl)) (by decide) e143 EA (argsL := [(.int ia), (.double z2)]) (rest := []) (W := 0) (rm_addU l Z a0 hw a b11 bi (1 : Int32) ia ka z2 w2.toInt (own_upd (fun _ => 0) ka w1.toInt) ([] ++ [ka]) _ _ T143.heap n0 Z0 EA FS FI FN VS VI hR11 hka (by omega) D_z2 bw2 (by rw [fv2]; omega) (by simp) ge_a g11 gi na11 n2 nb11) rfl (by decide) (by decide) (by decide) (by decide) (g := (mkF m 190 #[l0, l1, l2, l3, l4, l5, SI ia, SI ia, SI ic, l9, l10, l11, SD z1, S2, SD z2, S2, SD z3, S2, l18, l19, SI 1, SI 1, SI 1, SA a, SU, SU, SU, SU] [(.double z2), (.int ia), (.ref a)])) rfl (by rw [hml]; rfl) (lenOf pd3 rfl) rfl (by show 2 * 0 + _ ≤ _; exact Nat.le_of_eq rfl) (hb hby at_190)
          obtain ⟨rq12, b12, nq12, x12, y12, rfl, -, FS, FI, FN, VS, VI, hR12, hl12, hpr12, g12, na12, nb12, K144, NL144⟩ := hQ144
          have N0 := Fr.app N0 NL144
          have e144 : T144.heap = T144.heap := rfl
          have EA := EA.keep K144
          have Z0 := Nat.le_trans Z0 K144.1
          refine Goes.by (T' := T144) (g' := (mkF m 193 #[l0, l1, l2, l3, l4, l5, SI ia, SI ia, SI ic, l9, l10, l11, SD z1, S2, SD z2, S2, SD z3, S2, l18, l19, SI 1, SI 1, SI 1, SA a, SU, SU, SU, SU] [(.double rq12)])) st144 ?_
          rw [if_neg (by rw [fv2]; omega)] at hR12
          obtain rfl : nq12 = (1 : Int32) := Int32.toInt_inj.mp (by rw [hR12.2.2.2.2.1]; rfl)
          refine Goes.by (T' := T144) (g' := (mkF m 194 #[l0, l1, l2, l3, l4, l5, SI ia, SI ia, SI ic, l9, l10, l11, SD z1, S2, SD z2, S2, SD z3, S2, l18, l19, SI 1, SI 1, SI 1, SA a, SU, SU, SU, SU] [])) (fun _ k => XS.pop2W X144.here hx rfl (hb hby at_193) rfl rfl k) ?_
          refine Goes.by (T' := T144) (g' := (mkF m 196 #[l0, l1, l2, l3, l4, l5, SI ia, SI ia, SI ic, l9, l10, l11, SD z1, S2, SD z2, S2, SD z3, S2, l18, l19, SI 1, SI 1, SI 1, SA a, SU, SU, SU, SU] [(.int (1 : Int32))])) (fun _ k => XS.iload X144.here hx rfl (hb hby at_194) rfl k) ?_
          refine Goes.by (T' := T144) (g' := (mkF m 199 #[l0, l1, l2, l3, l4, l5, SI ia, SI ia, SI ic, l9, l10, l11, SD z1, S2, SD z2, S2, SD z3, S2, l18, l19, SI 1, SI 1, SI 1, SA a, SU, SU, SU, SU] [])) (fun _ k => XS.ifNo X144.here hx rfl (hb hby at_196) rfl (by decide) k) ?_
          refine Goes.by (T' := T144) (g' := (mkF m 201 #[l0, l1, l2, l3, l4, l5, SI ia, SI ia, SI ic, l9, l10, l11, SD z1, S2, SD z2, S2, SD z3, S2, l18, l19, SI 1, SI 1, SI 1, SA a, SU, SU, SU, SU] [(.ref a)])) (fun _ k => XS.aload X144.here hx rfl (hb hby at_199) rfl rfl k) ?_
          refine Goes.by (T' := T144) (g' := (mkF m 203 #[l0, l1, l2, l3, l4, l5, SI ia, SI ia, SI ic, l9, l10, l11, SD z1, S2, SD z2, S2, SD z3, S2, l18, l19, SI 1, SI 1, SI 1, SA a, SU, SU, SU, SU] [(.int ic), (.ref a)])) (fun _ k => XS.iload X144.here hx rfl (hb hby at_201) rfl k) ?_
          refine Goes.by (T' := T144) (g' := (mkF m 205 #[l0, l1, l2, l3, l4, l5, SI ia, SI ia, SI ic, l9, l10, l11, SD z1, S2, SD z2, S2, SD z3, S2, l18, l19, SI 1, SI 1, SI 1, SA a, SU, SU, SU, SU] [(.double z3), (.int ic), (.ref a)])) (fun _ k => XS.dload X144.here hx rfl (hb hby at_203) rfl k) ?_
          have fv3 : (own_upd (own_upd (fun _ => 0) ka w1.toInt) ka w2.toInt) kc = 0 := by simp [own_upd, nkac, nkac.symm]
          obtain ⟨v145, T145, L145, X145, hQ145, st145⟩ := callV X144 hx hZ (y := (⟨"com/example/gibbon/gibbon/analysis/SparseSum", "add", "(ID)D"⟩ : MethodName)) hown (hw _ (List.mem_of_getElem? (i := 15) rfl)) (hw _ (List.mem_of_getElem? (i := 16) rfl)) (hw _ (List.mem_of_getElem? (i := 18) rfl)) (hw _ (List.mem_of_getElem? (i := 17) rfl)) (hw _ (List.mem_of_getElem? (i := 19) rfl)) (hw _ (List.mem_of_getElem? (i := 2) rfl)) (by decide) e144 EA (argsL := [(.int ic), (.double z3)]) (rest := []) (W := 0) (rm_addU l Z a0 hw a b12 bi (1 : Int32) ic kc z3 w3.toInt (own_upd (own_upd (fun _ => 0) ka w1.toInt) ka w2.toInt) ([] ++ [ka]) _ _ T144.heap n0 Z0 EA FS FI FN VS VI hR12 hkc (by omega) D_z3 bw3 (by rw [fv3]; omega) (by simp) ge_a g12 gi na12 n2 nb12) rfl (by decide) (by decide) (by decide) (by decide) (g := (mkF m 205 #[l0, l1, l2, l3, l4, l5, SI ia, SI ia, SI ic, l9, l10, l11, SD z1, S2, SD z2, S2, SD z3, S2, l18, l19, SI 1, SI 1, SI 1, SA a, SU, SU, SU, SU] [(.double z3), (.int ic), (.ref a)])) rfl (by rw [hml]; rfl) (lenOf pd3 rfl) rfl (by show 2 * 0 + _ ≤ _; exact Nat.le_of_eq rfl) (hb hby at_205)
          obtain ⟨rq13, b13, nq13, x13, y13, rfl, -, FS, FI, FN, VS, VI, hR13, hl13, hpr13, g13, na13, nb13, K145, NL145⟩ := hQ145
          have N0 := Fr.app N0 NL145
          have e145 : T145.heap = T145.heap := rfl
          have EA := EA.keep K145
          have Z0 := Nat.le_trans Z0 K145.1
          refine Goes.by (T' := T145) (g' := (mkF m 208 #[l0, l1, l2, l3, l4, l5, SI ia, SI ia, SI ic, l9, l10, l11, SD z1, S2, SD z2, S2, SD z3, S2, l18, l19, SI 1, SI 1, SI 1, SA a, SU, SU, SU, SU] [(.double rq13)])) st145 ?_
          rw [if_pos fv3] at hR13
          obtain rfl : nq13 = (2 : Int32) := Int32.toInt_inj.mp (by rw [hR13.2.2.2.2.1]; rfl)
          refine Goes.by (T' := T145) (g' := (mkF m 209 #[l0, l1, l2, l3, l4, l5, SI ia, SI ia, SI ic, l9, l10, l11, SD z1, S2, SD z2, S2, SD z3, S2, l18, l19, SI 1, SI 1, SI 1, SA a, SU, SU, SU, SU] [])) (fun _ k => XS.pop2W X145.here hx rfl (hb hby at_208) rfl rfl k) ?_
          refine Goes.by (T' := T145) (g' := (mkF m 210 #[l0, l1, l2, l3, l4, l5, SI ia, SI ia, SI ic, l9, l10, l11, SD z1, S2, SD z2, S2, SD z3, S2, l18, l19, SI 1, SI 1, SI 1, SA a, SU, SU, SU, SU] [(.int (3 : Int32))])) (fun _ k => XS.iconst X145.here hx rfl (hb hby at_209)  k) ?_
          obtain ⟨T146, h146, k146, X146, e146, E146, A146, st146⟩ := newP X145 hx hZ (hw _ (List.mem_of_getElem? (i := 9) rfl)) e145 (g := (mkF m 210 #[l0, l1, l2, l3, l4, l5, SI ia, SI ia, SI ic, l9, l10, l11, SD z1, S2, SD z2, S2, SD z3, S2, l18, l19, SI 1, SI 1, SI 1, SA a, SU, SU, SU, SU] [(.int (3 : Int32))])) rfl (hb hby at_210) rfl (by decide) (cap := 3) (by decide) (by decide) (by decide) (by decide)
          obtain ⟨ea, g146⟩ : ∃ z, z = T145.heap.size := ⟨_, rfl⟩
          rw [← g146] at A146 st146
          have ne_a_ea : a ≠ ea := fun q => Nat.lt_irrefl _ (Nat.lt_of_lt_of_eq EA.lt (g146.symm.trans q.symm))
          have ne_b13_ea : b13 ≠ ea := fun q => Nat.lt_irrefl _ (Nat.lt_of_lt_of_eq VS.lt (g146.symm.trans q.symm))
          have ne_bi_ea : bi ≠ ea := fun q => Nat.lt_irrefl _ (Nat.lt_of_lt_of_eq VI.lt (g146.symm.trans q.symm))
          have ge_ea : n0 ≤ ea := Nat.le_trans Z0 (Nat.le_of_eq g146.symm)
          have EA := EA.ext E146
          have FS := FS.ext E146
          have FI := FI.ext E146
          have FN := FN.ext E146
          have VS := VS.ext E146
          have VI := VI.ext E146
          have Z0 := Nat.le_trans Z0 E146.1
          have V_ea : Sar Z h146 ea .double [(.double (0 : UInt64)), (.double (0 : UInt64)), (.double (0 : UInt64))] := Sar.new (n := 3) A146 (by decide)
          refine Goes.by (T' := T146) (g' := (mkF m 212 #[l0, l1, l2, l3, l4, l5, SI ia, SI ia, SI ic, l9, l10, l11, SD z1, S2, SD z2, S2, SD z3, S2, l18, l19, SI 1, SI 1, SI 1, SA a, SU, SU, SU, SU] [(.ref ea)])) st146 ?_
          refine Goes.by (T' := T146) (g' := (mkF m 214 #[l0, l1, l2, l3, l4, l5, SI ia, SI ia, SI ic, l9, l10, l11, SD z1, S2, SD z2, S2, SD z3, S2, l18, l19, SI 1, SI 1, SI 1, SA a, SA ea, SU, SU, SU] [])) (fun _ k => XS.astore X146.here hx rfl (hb hby at_212) rfl rfl (l' := #[l0, l1, l2, l3, l4, l5, SI ia, SI ia, SI ic, l9, l10, l11, SD z1, S2, SD z2, S2, SD z3, S2, l18, l19, SI 1, SI 1, SI 1, SA a, SA ea, SU, SU, SU]) rfl k) ?_
          refine Goes.by (T' := T146) (g' := (mkF m 215 #[l0, l1, l2, l3, l4, l5, SI ia, SI ia, SI ic, l9, l10, l11, SD z1, S2, SD z2, S2, SD z3, S2, l18, l19, SI 1, SI 1, SI 1, SA a, SA ea, SU, SU, SU] [(.int (0 : Int32))])) (fun _ k => XS.iconst X146.here hx rfl (hb hby at_214)  k) ?_
          refine Goes.by (T' := T146) (g' := (mkF m 217 #[l0, l1, l2, l3, l4, l5, SI ia, SI ia, SI ic, l9, l10, l11, SD z1, S2, SD z2, S2, SD z3, S2, l18, l19, SI 1, SI 1, SI 1, SA a, SA ea, SI 0, SU, SU] [])) (fun _ k => XS.istore X146.here hx rfl (hb hby at_215) rfl (l' := #[l0, l1, l2, l3, l4, l5, SI ia, SI ia, SI ic, l9, l10, l11, SD z1, S2, SD z2, S2, SD z3, S2, l18, l19, SI 1, SI 1, SI 1, SA a, SA ea, SI 0, SU, SU]) rfl k) ?_
          refine Goes.by (T' := T146) (g' := (mkF m 219 #[l0, l1, l2, l3, l4, l5, SI ia, SI ia, SI ic, l9, l10, l11, SD z1, S2, SD z2, S2, SD z3, S2, l18, l19, SI 1, SI 1, SI 1, SA a, SA ea, SI 0, SU, SU] [(.int (1 : Int32))])) (fun _ k => XS.iload X146.here hx rfl (hb hby at_217) rfl k) ?_
          refine Goes.by (T' := T146) (g' := (mkF m 222 #[l0, l1, l2, l3, l4, l5, SI ia, SI ia, SI ic, l9, l10, l11, SD z1, S2, SD z2, S2, SD z3, S2, l18, l19, SI 1, SI 1, SI 1, SA a, SA ea, SI 0, SU, SU] [])) (fun _ k => XS.ifNo X146.here hx rfl (hb hby at_219) rfl (by decide) k) ?_
          refine Goes.by (T' := T146) (g' := (mkF m 224 #[l0, l1, l2, l3, l4, l5, SI ia, SI ia, SI ic, l9, l10, l11, SD z1, S2, SD z2, S2, SD z3, S2, l18, l19, SI 1, SI 1, SI 1, SA a, SA ea, SI 0, SU, SU] [(.double z1)])) (fun _ k => XS.dload X146.here hx rfl (hb hby at_222) rfl k) ?_
          refine Goes.by (T' := T146) (g' := (mkF m 226 #[l0, l1, l2, l3, l4, l5, SI ia, SI ia, SI ic, l9, l10, l11, SD z1, S2, SD z2, S2, SD z3, S2, l18, l19, SI 1, SI 1, SI 1, SA a, SA ea, SI 0, SD z1, S2] [])) (fun _ k => XS.dstore X146.here hx rfl (hb hby at_224) rfl (l' := #[l0, l1, l2, l3, l4, l5, SI ia, SI ia, SI ic, l9, l10, l11, SD z1, S2, SD z2, S2, SD z3, S2, l18, l19, SI 1, SI 1, SI 1, SA a, SA ea, SI 0, SD z1, S2]) rfl k) ?_
          refine Goes.by (T' := T146) (g' := (mkF m 228 #[l0, l1, l2, l3, l4, l5, SI ia, SI ia, SI ic, l9, l10, l11, SD z1, S2, SD z2, S2, SD z3, S2, l18, l19, SI 1, SI 1, SI 1, SA a, SA ea, SI 0, SD z1, S2] [(.int (1 : Int32))])) (fun _ k => XS.iload X146.here hx rfl (hb hby at_226) rfl k) ?_
          refine Goes.by (T' := T146) (g' := (mkF m 231 #[l0, l1, l2, l3, l4, l5, SI ia, SI ia, SI ic, l9, l10, l11, SD z1, S2, SD z2, S2, SD z3, S2, l18, l19, SI 1, SI 1, SI 1, SA a, SA ea, SI 0, SD z1, S2] [])) (fun _ k => XS.ifNo X146.here hx rfl (hb hby at_228) rfl (by decide) k) ?_
          refine Goes.by (T' := T146) (g' := (mkF m 233 #[l0, l1, l2, l3, l4, l5, SI ia, SI ia, SI ic, l9, l10, l11, SD z1, S2, SD z2, S2, SD z3, S2, l18, l19, SI 1, SI 1, SI 1, SA a, SA ea, SI 0, SD z1, S2] [(.int ia)])) (fun _ k => XS.iload X146.here hx rfl (hb hby at_231) rfl k) ?_
          refine Goes.by (T' := T146) (g' := (mkF m 235 #[l0, l1, l2, l3, l4, l5, SI ia, SI ia, SI ic, l9, l10, l11, SD z1, S2, SD z2, S2, SD z3, S2, l18, l19, SI 1, SI 1, SI 1, SA a, SA ea, SI 0, SD z1, S2] [(.int ia), (.int ia)])) (fun _ k => XS.iload X146.here hx rfl (hb hby at_233) rfl k) ?_
          refine Goes.by (T' := T146) (g' := (mkF m 238 #[l0, l1, l2, l3, l4, l5, SI ia, SI ia, SI ic, l9, l10, l11, SD z1, S2, SD z2, S2, SD z3, S2, l18, l19, SI 1, SI 1, SI 1, SA a, SA ea, SI 0, SD z1, S2] [])) (fun _ k => XS.icmpNo X146.here hx rfl (hb hby at_235) rfl (teq rfl).2 k) ?_
          refine Goes.by (T' := T146) (g' := (mkF m 240 #[l0, l1, l2, l3, l4, l5, SI ia, SI ia, SI ic, l9, l10, l11, SD z1, S2, SD z2, S2, SD z3, S2, l18, l19, SI 1, SI 1, SI 1, SA a, SA ea, SI 0, SD z1, S2] [(.double z1)])) (fun _ k => XS.dload X146.here hx rfl (hb hby at_238) rfl k) ?_
          refine Goes.by (T' := T146) (g' := (mkF m 242 #[l0, l1, l2, l3, l4, l5, SI ia, SI ia, SI ic, l9, l10, l11, SD z1, S2, SD z2, S2, SD z3, S2, l18, l19, SI 1, SI 1, SI 1, SA a, SA ea, SI 0, SD z1, S2] [(.double z2), (.double z1)])) (fun _ k => XS.dload X146.here hx rfl (hb hby at_240) rfl k) ?_
          obtain ⟨t1, q_t1⟩ : ∃ zz, FP.dadd z1 z2 = zz := ⟨_, rfl⟩
          have D_t1 : Core.DInt (w1.toInt + w2.toInt) t1 := DInt_add q_t1 D_z1 D_z2 (by omega)
          refine Goes.by (T' := T146) (g' := (mkF m 243 #[l0, l1, l2, l3, l4, l5, SI ia, SI ia, SI ic, l9, l10, l11, SD z1, S2, SD z2, S2, SD z3, S2, l18, l19, SI 1, SI 1, SI 1, SA a, SA ea, SI 0, SD z1, S2] [(.double t1)])) (fun _ k => XS.daddS X146.here hx rfl (hb hby at_242) rfl (by rw [q_t1]; exact DInt_nn D_t1) q_t1 k) ?_
          refine Goes.by (T' := T146) (g' := (mkF m 245 #[l0, l1, l2, l3, l4, l5, SI ia, SI ia, SI ic, l9, l10, l11, SD z1, S2, SD z2, S2, SD z3, S2, l18, l19, SI 1, SI 1, SI 1, SA a, SA ea, SI 0, SD t1, S2] [])) (fun _ k => XS.dstore X146.here hx rfl (hb hby at_243) rfl (l' := #[l0, l1, l2, l3, l4, l5, SI ia, SI ia, SI ic, l9, l10, l11, SD z1, S2, SD z2, S2, SD z3, S2, l18, l19, SI 1, SI 1, SI 1, SA a, SA ea, SI 0, SD t1, S2]) rfl k) ?_
          refine Goes.by (T' := T146) (g' := (mkF m 247 #[l0, l1, l2, l3, l4, l5, SI ia, SI ia, SI ic, l9, l10, l11, SD z1, S2, SD z2, S2, SD z3, S2, l18, l19, SI 1, SI 1, SI 1, SA a, SA ea, SI 0, SD t1, S2] [(.int (1 : Int32))])) (fun _ k => XS.iload X146.here hx rfl (hb hby at_245) rfl k) ?_
          refine Goes.by (T' := T146) (g' := (mkF m 250 #[l0, l1, l2, l3, l4, l5, SI ia, SI ia, SI ic, l9, l10, l11, SD z1, S2, SD z2, S2, SD z3, S2, l18, l19, SI 1, SI 1, SI 1, SA a, SA ea, SI 0, SD t1, S2] [])) (fun _ k => XS.ifNo X146.here hx rfl (hb hby at_247) rfl (by decide) k) ?_
          refine Goes.by (T' := T146) (g' := (mkF m 252 #[l0, l1, l2, l3, l4, l5, SI ia, SI ia, SI ic, l9, l10, l11, SD z1, S2, SD z2, S2, SD z3, S2, l18, l19, SI 1, SI 1, SI 1, SA a, SA ea, SI 0, SD t1, S2] [(.int ic)])) (fun _ k => XS.iload X146.here hx rfl (hb hby at_250) rfl k) ?_
          refine Goes.by (T' := T146) (g' := (mkF m 254 #[l0, l1, l2, l3, l4, l5, SI ia, SI ia, SI ic, l9, l10, l11, SD z1, S2, SD z2, S2, SD z3, S2, l18, l19, SI 1, SI 1, SI 1, SA a, SA ea, SI 0, SD t1, S2] [(.int ia), (.int ic)])) (fun _ k => XS.iload X146.here hx rfl (hb hby at_252) rfl k) ?_
          refine Goes.by (T' := T146) (g' := (mkF m 264 #[l0, l1, l2, l3, l4, l5, SI ia, SI ia, SI ic, l9, l10, l11, SD z1, S2, SD z2, S2, SD z3, S2, l18, l19, SI 1, SI 1, SI 1, SA a, SA ea, SI 0, SD t1, S2] [])) (fun _ k => XS.icmpYes X146.here hx rfl (pc0 := 254) (pc' := 264) rfl (hb hby at_254) rfl (feq (fun q => hac q.symm)).2 (by decide) (by decide) k) ?_
          refine Goes.by (T' := T146) (g' := (mkF m 266 #[l0, l1, l2, l3, l4, l5, SI ia, SI ia, SI ic, l9, l10, l11, SD z1, S2, SD z2, S2, SD z3, S2, l18, l19, SI 1, SI 1, SI 1, SA a, SA ea, SI 0, SD t1, S2] [(.ref ea)])) (fun _ k => XS.aload X146.here hx rfl (hb hby at_264) rfl rfl k) ?_
          refine Goes.by (T' := T146) (g' := (mkF m 268 #[l0, l1, l2, l3, l4, l5, SI ia, SI ia, SI ic, l9, l10, l11, SD z1, S2, SD z2, S2, SD z3, S2, l18, l19, SI 1, SI 1, SI 1, SA a, SA ea, SI 0, SD t1, S2] [(.int (0 : Int32)), (.ref ea)])) (fun _ k => XS.iload X146.here hx rfl (hb hby at_266) rfl k) ?_
          refine Goes.by (T' := T146) (g' := (mkF m 270 #[l0, l1, l2, l3, l4, l5, SI ia, SI ia, SI ic, l9, l10, l11, SD z1, S2, SD z2, S2, SD z3, S2, l18, l19, SI 1, SI 1, SI 1, SA a, SA ea, SI 0, SD t1, S2] [(.double t1), (.int (0 : Int32)), (.ref ea)])) (fun _ k => XS.dload X146.here hx rfl (hb hby at_268) rfl k) ?_
          obtain ⟨T147, h147, X147, e147, W147, V147, st147⟩ := stDS X146 hx hZ e146 V_ea (j := (0 : Int32)) 0 (by decide) (by show 0 < 3; decide) (g := (mkF m 270 #[l0, l1, l2, l3, l4, l5, SI ia, SI ia, SI ic, l9, l10, l11, SD z1, S2, SD z2, S2, SD z3, S2, l18, l19, SI 1, SI 1, SI 1, SA a, SA ea, SI 0, SD t1, S2] [(.double t1), (.int (0 : Int32)), (.ref ea)])) rfl rfl (hb hby at_270)
          have N0 := Fr.snoc X147 N0 ge_ea
          have EA := EA.wr W147
          have FS := FS.other W147 (Or.inl ne_a_ea)
          have FI := FI.other W147 (Or.inl ne_a_ea)
          have FN := FN.other W147 (Or.inl ne_a_ea)
          have VS := VS.other W147 ne_b13_ea
          have VI := VI.other W147 ne_bi_ea
          have Z0 := Nat.le_trans Z0 (Nat.le_of_eq W147.size.symm)
          have V_ea : Sar Z h147 ea .double [(.double t1), (.double (0 : UInt64)), (.double (0 : UInt64))] := V147
          refine Goes.by (T' := T147) (g' := (mkF m 271 #[l0, l1, l2, l3, l4, l5, SI ia, SI ia, SI ic, l9, l10, l11, SD z1, S2, SD z2, S2, SD z3, S2, l18, l19, SI 1, SI 1, SI 1, SA a, SA ea, SI 0, SD t1, S2] [])) st147 ?_
          refine Goes.by (T' := T147) (g' := (mkF m 273 #[l0, l1, l2, l3, l4, l5, SI ia, SI ia, SI ic, l9, l10, l11, SD z1, S2, SD z2, S2, SD z3, S2, l18, l19, SI 1, SI 1, SI 1, SA a, SA ea, SI 0, SD t1, S2] [(.int (0 : Int32))])) (fun _ k => XS.iload X147.here hx rfl (hb hby at_271) rfl k) ?_
          refine Goes.by (T' := T147) (g' := (mkF m 274 #[l0, l1, l2, l3, l4, l5, SI ia, SI ia, SI ic, l9, l10, l11, SD z1, S2, SD z2, S2, SD z3, S2, l18, l19, SI 1, SI 1, SI 1, SA a, SA ea, SI 0, SD t1, S2] [(.int (1 : Int32)), (.int (0 : Int32))])) (fun _ k => XS.iconst X147.here hx rfl (hb hby at_273)  k) ?_
          refine Goes.by (T' := T147) (g' := (mkF m 275 #[l0, l1, l2, l3, l4, l5, SI ia, SI ia, SI ic, l9, l10, l11, SD z1, S2, SD z2, S2, SD z3, S2, l18, l19, SI 1, SI 1, SI 1, SA a, SA ea, SI 0, SD t1, S2] [(.int (1 : Int32))])) (fun _ k => XS.iadd X147.here hx rfl (hb hby at_274) rfl k) ?_
          refine Goes.by (T' := T147) (g' := (mkF m 277 #[l0, l1, l2, l3, l4, l5, SI ia, SI ia, SI ic, l9, l10, l11, SD z1, S2, SD z2, S2, SD z3, S2, l18, l19, SI 1, SI 1, SI 1, SA a, SA ea, SI 1, SD t1, S2] [])) (fun _ k => XS.istore X147.here hx rfl (hb hby at_275) rfl (l' := #[l0, l1, l2, l3, l4, l5, SI ia, SI ia, SI ic, l9, l10, l11, SD z1, S2, SD z2, S2, SD z3, S2, l18, l19, SI 1, SI 1, SI 1, SA a, SA ea, SI 1, SD t1, S2]) rfl k) ?_
          refine Goes.by (T' := T147) (g' := (mkF m 279 #[l0, l1, l2, l3, l4, l5, SI ia, SI ia, SI ic, l9, l10, l11, SD z1, S2, SD z2, S2, SD z3, S2, l18, l19, SI 1, SI 1, SI 1, SA a, SA ea, SI 1, SD t1, S2] [(.int (1 : Int32))])) (fun _ k => XS.iload X147.here hx rfl (hb hby at_277) rfl k) ?_
          refine Goes.by (T' := T147) (g' := (mkF m 282 #[l0, l1, l2, l3, l4, l5, SI ia, SI ia, SI ic, l9, l10, l11, SD z1, S2, SD z2, S2, SD z3, S2, l18, l19, SI 1, SI 1, SI 1, SA a, SA ea, SI 1, SD t1, S2] [])) (fun _ k => XS.ifNo X147.here hx rfl (hb hby at_279) rfl (by decide) k) ?_
          refine Goes.by (T' := T147) (g' := (mkF m 284 #[l0, l1, l2, l3, l4, l5, SI ia, SI ia, SI ic, l9, l10, l11, SD z1, S2, SD z2, S2, SD z3, S2, l18, l19, SI 1, SI 1, SI 1, SA a, SA ea, SI 1, SD t1, S2] [(.int ia)])) (fun _ k => XS.iload X147.here hx rfl (hb hby at_282) rfl k) ?_
          refine Goes.by (T' := T147) (g' := (mkF m 286 #[l0, l1, l2, l3, l4, l5, SI ia, SI ia, SI ic, l9, l10, l11, SD z1, S2, SD z2, S2, SD z3, S2, l18, l19, SI 1, SI 1, SI 1, SA a, SA ea, SI 1, SD t1, S2] [(.int ia), (.int ia)])) (fun _ k => XS.iload X147.here hx rfl (hb hby at_284) rfl k) ?_
          refine Goes.by (T' := T147) (g' := (mkF m 325 #[l0, l1, l2, l3, l4, l5, SI ia, SI ia, SI ic, l9, l10, l11, SD z1, S2, SD z2, S2, SD z3, S2, l18, l19, SI 1, SI 1, SI 1, SA a, SA ea, SI 1, SD t1, S2] [])) (fun _ k => XS.icmpYes X147.here hx rfl (pc0 := 286) (pc' := 325) rfl (hb hby at_286) rfl (teq rfl).1 (by decide) (by decide) k) ?_
          refine Goes.by (T' := T147) (g' := (mkF m 327 #[l0, l1, l2, l3, l4, l5, SI ia, SI ia, SI ic, l9, l10, l11, SD z1, S2, SD z2, S2, SD z3, S2, l18, l19, SI 1, SI 1, SI 1, SA a, SA ea, SI 1, SD t1, S2] [(.int (1 : Int32))])) (fun _ k => XS.iload X147.here hx rfl (hb hby at_325) rfl k) ?_
          refine Goes.by (T' := T147) (g' := (mkF m 330 #[l0, l1, l2, l3, l4, l5, SI ia, SI ia, SI ic, l9, l10, l11, SD z1, S2, SD z2, S2, SD z3, S2, l18, l19, SI 1, SI 1, SI 1, SA a, SA ea, SI 1, SD t1, S2] [])) (fun _ k => XS.ifNo X147.here hx rfl (hb hby at_327) rfl (by decide) k) ?_
          refine Goes.by (T' := T147) (g' := (mkF m 332 #[l0, l1, l2, l3, l4, l5, SI ia, SI ia, SI ic, l9, l10, l11, SD z1, S2, SD z2, S2, SD z3, S2, l18, l19, SI 1, SI 1, SI 1, SA a, SA ea, SI 1, SD t1, S2] [(.int ic)])) (fun _ k => XS.iload X147.here hx rfl (hb hby at_330) rfl k) ?_
          refine Goes.by (T' := T147) (g' := (mkF m 334 #[l0, l1, l2, l3, l4, l5, SI ia, SI ia, SI ic, l9, l10, l11, SD z1, S2, SD z2, S2, SD z3, S2, l18, l19, SI 1, SI 1, SI 1, SA a, SA ea, SI 1, SD t1, S2] [(.int ia), (.int ic)])) (fun _ k => XS.iload X147.here hx rfl (hb hby at_332) rfl k) ?_
          refine Goes.by (T' := T147) (g' := (mkF m 337 #[l0, l1, l2, l3, l4, l5, SI ia, SI ia, SI ic, l9, l10, l11, SD z1, S2, SD z2, S2, SD z3, S2, l18, l19, SI 1, SI 1, SI 1, SA a, SA ea, SI 1, SD t1, S2] [])) (fun _ k => XS.icmpNo X147.here hx rfl (hb hby at_334) rfl (feq (fun q => hac q.symm)).1 k) ?_
          refine Goes.by (T' := T147) (g' := (mkF m 339 #[l0, l1, l2, l3, l4, l5, SI ia, SI ia, SI ic, l9, l10, l11, SD z1, S2, SD z2, S2, SD z3, S2, l18, l19, SI 1, SI 1, SI 1, SA a, SA ea, SI 1, SD t1, S2] [(.int ic)])) (fun _ k => XS.iload X147.here hx rfl (hb hby at_337) rfl k) ?_
          refine Goes.by (T' := T147) (g' := (mkF m 341 #[l0, l1, l2, l3, l4, l5, SI ia, SI ia, SI ic, l9, l10, l11, SD z1, S2, SD z2, S2, SD z3, S2, l18, l19, SI 1, SI 1, SI 1, SA a, SA ea, SI 1, SD t1, S2] [(.int ia), (.int ic)])) (fun _ k => XS.iload X147.here hx rfl (hb hby at_339) rfl k) ?_
          refine Goes.by (T' := T147) (g' := (mkF m 344 #[l0, l1, l2, l3, l4, l5, SI ia, SI ia, SI ic, l9, l10, l11, SD z1, S2, SD z2, S2, SD z3, S2, l18, l19, SI 1, SI 1, SI 1, SA a, SA ea, SI 1, SD t1, S2] [])) (fun _ k => XS.icmpNo X147.here hx rfl (hb hby at_341) rfl (feq (fun q => hac q.symm)).1 k) ?_
          refine Goes.by (T' := T147) (g' := (mkF m 346 #[l0, l1, l2, l3, l4, l5, SI ia, SI ia, SI ic, l9, l10, l11, SD z1, S2, SD z2, S2, SD z3, S2, l18, l19, SI 1, SI 1, SI 1, SA a, SA ea, SI 1, SD t1, S2] [(.ref ea)])) (fun _ k => XS.aload X147.here hx rfl (hb hby at_344) rfl rfl k) ?_
          refine Goes.by (T' := T147) (g' := (mkF m 348 #[l0, l1, l2, l3, l4, l5, SI ia, SI ia, SI ic, l9, l10, l11, SD z1, S2, SD z2, S2, SD z3, S2, l18, l19, SI 1, SI 1, SI 1, SA a, SA ea, SI 1, SD t1, S2] [(.int (1 : Int32)), (.ref ea)])) (fun _ k => XS.iload X147.here hx rfl (hb hby at_346) rfl k) ?_
          refine Goes.by (T' := T147) (g' := (mkF m 350 #[l0, l1, l2, l3, l4, l5, SI ia, SI ia, SI ic, l9, l10, l11, SD z1, S2, SD z2, S2, SD z3, S2, l18, l19, SI 1, SI 1, SI 1, SA a, SA ea, SI 1, SD t1, S2] [(.double z3), (.int (1 : Int32)), (.ref ea)])) (fun _ k => XS.dload X147.here hx rfl (hb hby at_348) rfl k) ?_
          obtain ⟨T148, h148, X148, e148, W148, V148, st148⟩ := stDS X147 hx hZ e147 V_ea (j := (1 : Int32)) 1 (by decide) (by show 1 < 3; decide) (g := (mkF m 350 #[l0, l1, l2, l3, l4, l5, SI ia, SI ia, SI ic, l9, l10, l11, SD z1, S2, SD z2, S2, SD z3, S2, l18, l19, SI 1, SI 1, SI 1, SA a, SA ea, SI 1, SD t1, S2] [(.double z3), (.int (1 : Int32)), (.ref ea)])) rfl rfl (hb hby at_350)
          have N0 := Fr.snoc X148 N0 ge_ea
          have EA := EA.wr W148
          have FS := FS.other W148 (Or.inl ne_a_ea)
          have FI := FI.other W148 (Or.inl ne_a_ea)
          have FN := FN.other W148 (Or.inl ne_a_ea)
          have VS := VS.other W148 ne_b13_ea
          have VI := VI.other W148 ne_bi_ea
          have Z0 := Nat.le_trans Z0 (Nat.le_of_eq W148.size.symm)
          have V_ea : Sar Z h148 ea .double [(.double t1), (.double z3), (.double (0 : UInt64))] := V148
          refine Goes.by (T' := T148) (g' := (mkF m 351 #[l0, l1, l2, l3, l4, l5, SI ia, SI ia, SI ic, l9, l10, l11, SD z1, S2, SD z2, S2, SD z3, S2, l18, l19, SI 1, SI 1, SI 1, SA a, SA ea, SI 1, SD t1, S2] [])) st148 ?_
          refine Goes.by (T' := T148) (g' := (mkF m 353 #[l0, l1, l2, l3, l4, l5, SI ia, SI ia, SI ic, l9, l10, l11, SD z1, S2, SD z2, S2, SD z3, S2, l18, l19, SI 1, SI 1, SI 1, SA a, SA ea, SI 1, SD t1, S2] [(.int (1 : Int32))])) (fun _ k => XS.iload X148.here hx rfl (hb hby at_351) rfl k) ?_
          refine Goes.by (T' := T148) (g' := (mkF m 354 #[l0, l1, l2, l3, l4, l5, SI ia, SI ia, SI ic, l9, l10, l11, SD z1, S2, SD z2, S2, SD z3, S2, l18, l19, SI 1, SI 1, SI 1, SA a, SA ea, SI 1, SD t1, S2] [(.int (1 : Int32)), (.int (1 : Int32))])) (fun _ k => XS.iconst X148.here hx rfl (hb hby at_353)  k) ?_
          refine Goes.by (T' := T148) (g' := (mkF m 355 #[l0, l1, l2, l3, l4, l5, SI ia, SI ia, SI ic, l9, l10, l11, SD z1, S2, SD z2, S2, SD z3, S2, l18, l19, SI 1, SI 1, SI 1, SA a, SA ea, SI 1, SD t1, S2] [(.int (2 : Int32))])) (fun _ k => XS.iadd X148.here hx rfl (hb hby at_354) rfl k) ?_
          refine Goes.by (T' := T148) (g' := (mkF m 357 #[l0, l1, l2, l3, l4, l5, SI ia, SI ia, SI ic, l9, l10, l11, SD z1, S2, SD z2, S2, SD z3, S2, l18, l19, SI 1, SI 1, SI 1, SA a, SA ea, SI 2, SD t1, S2] [])) (fun _ k => XS.istore X148.here hx rfl (hb hby at_355) rfl (l' := #[l0, l1, l2, l3, l4, l5, SI ia, SI ia, SI ic, l9, l10, l11, SD z1, S2, SD z2, S2, SD z3, S2, l18, l19, SI 1, SI 1, SI 1, SA a, SA ea, SI 2, SD t1, S2]) rfl k) ?_
          refine Goes.by (T' := T148) (g' := (mkF m 359 #[l0, l1, l2, l3, l4, l5, SI ia, SI ia, SI ic, l9, l10, l11, SD z1, S2, SD z2, S2, SD z3, S2, l18, l19, SI 1, SI 1, SI 1, SA a, SA ea, SI 2, SD t1, S2] [(.ref a)])) (fun _ k => XS.aload X148.here hx rfl (hb hby at_357) rfl rfl k) ?_
          obtain ⟨hq0, v0, hy0, hv0⟩ := hR13.2.2.2.2.2.2 0 ka (by simp)
          obtain ⟨d0, hx0, Dd0⟩ := hR13.2.1 ka hq0
          have fe0 : (own_upd (own_upd (own_upd (fun _ => 0) ka w1.toInt) ka w2.toInt) kc w3.toInt) ka = w1.toInt + w2.toInt := by simp [own_upd, nkac, nkac.symm]
          rw [fe0] at Dd0
          obtain ⟨hq1, v1, hy1, hv1⟩ := hR13.2.2.2.2.2.2 1 kc (by simp)
          obtain ⟨d1, hx1, Dd1⟩ := hR13.2.1 kc hq1
          have fe1 : (own_upd (own_upd (own_upd (fun _ => 0) ka w1.toInt) ka w2.toInt) kc w3.toInt) kc = w3.toInt := by simp [own_upd, nkac, nkac.symm]
          rw [fe1] at Dd1
          exact cmp2 a b13 bi ea _ _ _ _ _ v0 ka d0 (w1.toInt + w2.toInt) v1 kc d1 w3.toInt _ _ _ _ _ _ _ _ _ _ _ _ _ _ _ _ _ _ _ _ _ _ _ _ _ _ _ (X148.wide (fun x hx _ => hx) (by decide) (by decide)) e148 N0 Z0 EA FS FI FN VS VI V_ea ge_a g13 gi ge_ea na13 nb13 n2 ne_a_ea ne_b13_ea ne_bi_ea hy0 hv0 hx0 Dd0 D_t1 hy1 hv1 hx1 Dd1 D_z3
      · have nkab : ka ≠ kb := fun q => hab (Int32.toInt_inj.mp (by rw [hka, hkb, q]))
        by_cases hac : ia = ic
        · subst hac
          refine Goes.by (T' := Tj137) (g' := (mkF m 166 #[l0, l1, l2, l3, l4, l5, SI ia, SI ib, SI ia, l9, l10, l11, SD z1, S2, SD z2, S2, SD z3, S2, l18, l19, SI 1, SI 1, SI 1, SA a, SU, SU, SU, SU] [(.int (1 : Int32))])) (fun _ k => XS.iload Xj137.here hx rfl (hb hby at_164) rfl k) ?_
          refine Goes.by (T' := Tj137) (g' := (mkF m 169 #[l0, l1, l2, l3, l4, l5, SI ia, SI ib, SI ia, l9, l10, l11, SD z1, S2, SD z2, S2, SD z3, S2, l18, l19, SI 1, SI 1, SI 1, SA a, SU, SU, SU, SU] [])) (fun _ k => XS.ifNo Xj137.here hx rfl (hb hby at_166) rfl (by decide) k) ?_
          refine Goes.by (T' := Tj137) (g' := (mkF m 171 #[l0, l1, l2, l3, l4, l5, SI ia, SI ib, SI ia, l9, l10, l11, SD z1, S2, SD z2, S2, SD z3, S2, l18, l19, SI 1, SI 1, SI 1, SA a, SU, SU, SU, SU] [(.ref a)])) (fun _ k => XS.aload Xj137.here hx rfl (hb hby at_169) rfl rfl k) ?_
          refine Goes.by (T' := Tj137) (g' := (mkF m 173 #[l0, l1, l2, l3, l4, l5, SI ia, SI ib, SI ia, l9, l10, l11, SD z1, S2, SD z2, S2, SD z3, S2, l18, l19, SI 1, SI 1, SI 1, SA a, SU, SU, SU, SU] [(.int ia), (.ref a)])) (fun _ k => XS.iload Xj137.here hx rfl (hb hby at_171) rfl k) ?_
          refine Goes.by (T' := Tj137) (g' := (mkF m 175 #[l0, l1, l2, l3, l4, l5, SI ia, SI ib, SI ia, l9, l10, l11, SD z1, S2, SD z2, S2, SD z3, S2, l18, l19, SI 1, SI 1, SI 1, SA a, SU, SU, SU, SU] [(.double z1), (.int ia), (.ref a)])) (fun _ k => XS.dload Xj137.here hx rfl (hb hby at_173) rfl k) ?_
          obtain ⟨v149, T149, L149, X149, hQ149, st149⟩ := callV Xj137 hx hZ (y := (⟨"com/example/gibbon/gibbon/analysis/SparseSum", "add", "(ID)D"⟩ : MethodName)) hown (hw _ (List.mem_of_getElem? (i := 15) rfl)) (hw _ (List.mem_of_getElem? (i := 16) rfl)) (hw _ (List.mem_of_getElem? (i := 18) rfl)) (hw _ (List.mem_of_getElem? (i := 17) rfl)) (hw _ (List.mem_of_getElem? (i := 19) rfl)) (hw _ (List.mem_of_getElem? (i := 2) rfl)) (by decide) ej137 EA (argsL := [(.int ia), (.double z1)]) (rest := []) (W := 0) (rm_addU l Z a0 hw a br bi (0 : Int32) ia ka z1 w1.toInt (fun _ => 0) [] _ _ hj137 n0 Z0 EA FS FI FN VS VI hR hka (by omega) D_z1 bw1 (by decide) (by simp) ge_a gr gi n4 n2 n5) rfl (by decide) (by decide) (by decide) (by decide) (g := (mkF m 175 #[l0, l1, l2, l3, l4, l5, SI ia, SI ib, SI ia, l9, l10, l11, SD z1, S2, SD z2, S2, SD z3, S2, l18, l19, SI 1, SI 1, SI 1, SA a, SU, SU, SU, SU] [(.double z1), (.int ia), (.ref a)])) rfl (by rw [hml]; rfl) (lenOf pd3 rfl) rfl (by show 2 * 0 + _ ≤ _; exact Nat.le_of_eq rfl) (hb hby at_175)
          obtain ⟨rq11, b11, nq11, x11, y11, rfl, -, FS, FI, FN, VS, VI, hR11, hl11, hpr11, g11, na11, nb11, K149, NL149⟩ := hQ149
          have N0 := Fr.app N0 NL149
          have e149 : T149.heap = T149.heap := rfl
          have EA := EA.keep K149
          have Z0 := Nat.le_trans Z0 K149.1
          refine Goes.by (T' := T149) (g' := (mkF m 178 #[l0, l1, l2, l3, l4, l5, SI ia, SI ib, SI ia, l9, l10, l11, SD z1, S2, SD z2, S2, SD z3, S2, l18, l19, SI 1, SI 1, SI 1, SA a, SU, SU, SU, SU] [(.double rq11)])) st149 ?_
          rw [if_pos rfl] at hR11
          obtain rfl : nq11 = (1 : Int32) := Int32.toInt_inj.mp (by rw [hR11.2.2.2.2.1]; rfl)
          refine Goes.by (T' := T149) (g' := (mkF m 179 #[l0, l1, l2, l3, l4, l5, SI ia, SI ib, SI ia, l9, l10, l11, SD z1, S2, SD z2, S2, SD z3, S2, l18, l19, SI 1, SI 1, SI 1, SA a, SU, SU, SU, SU] [])) (fun _ k => XS.pop2W X149.here hx rfl (hb hby at_178) rfl rfl k) ?_
          refine Goes.by (T' := T149) (g' := (mkF m 181 #[l0, l1, l2, l3, l4, l5, SI ia, SI ib, SI ia, l9, l10, l11, SD z1, S2, SD z2, S2, SD z3, S2, l18, l19, SI 1, SI 1, SI 1, SA a, SU, SU, SU, SU] [(.int (1 : Int32))])) (fun _ k => XS.iload X149.here hx rfl (hb hby at_179) rfl k) ?_
          refine Goes.by (T' := T149) (g' := (mkF m 184 #[l0, l1, l2, l3, l4, l5, SI ia, SI ib, SI ia, l9, l10, l11, SD z1, S2, SD z2, S2, SD z3, S2, l18, l19, SI 1, SI 1, SI 1, SA a, SU, SU, SU, SU] [])) (fun _ k => XS.ifNo X149.here hx rfl (hb hby at_181) rfl (by decide) k) ?_
          refine Goes.by (T' := T149) (g' := (mkF m 186 #[l0, l1, l2, l3, l4, l5, SI ia, SI ib, SI ia, l9, l10, l11, SD z1, S2, SD z2, S2, SD z3, S2, l18, l19, SI 1, SI 1, SI 1, SA a, SU, SU, SU, SU] [(.ref a)])) (fun _ k => XS.aload X149.here hx rfl (hb hby at_184) rfl rfl k) ?_
          refine Goes.by (T' := T149) (g' := (mkF m 188 #[l0, l1, l2, l3, l4, l5, SI ia, SI ib, SI ia, l9, l10, l11, SD z1, S2, SD z2, S2, SD z3, S2, l18, l19, SI 1, SI 1, SI 1, SA a, SU, SU, SU, SU] [(.int ib), (.ref a)])) (fun _ k => XS.iload X149.here hx rfl (hb hby at_186) rfl k) ?_
          refine Goes.by (T' := T149) (g' := (mkF m 190 #[l0, l1, l2, l3, l4, l5, SI ia, SI ib, SI ia, l9, l10, l11, SD z1, S2, SD z2, S2, SD z3, S2, l18, l19, SI 1, SI 1, SI 1, SA a, SU, SU, SU, SU] [(.double z2), (.int ib), (.ref a)])) (fun _ k => XS.dload X149.here hx rfl (hb hby at_188) rfl k) ?_
          have fv2 : (own_upd (fun _ => 0) ka w1.toInt) kb = 0 := by simp [own_upd, nkab, nkab.symm]
          obtain ⟨v150, T150, L150, X150, hQ150, st150⟩ := callV X149 hx hZ (y := (⟨"com/example/gibbon/gibbon/analysis/SparseSum", "add", "(ID)D"⟩ : MethodName)) hown (hw _ (List.mem_of_getElem? (i := 15) rfl)) (hw _ (List.mem_of_getElem? (i := 16) rfl)) (hw _ (List.mem_of_getElem? (i := 18) rfl)) (hw _ (List.mem_of_getElem? (i := 17) rfl)) (hw _ (List.mem_of_getElem? (i := 19) rfl)) (hw _ (List.mem_of_getElem? (i := 2) rfl)) (by decide) e149 EA (argsL := [(.int ib), (.double z2)]) (rest := []) (W := 0) (rm_addU l Z a0 hw a b11 bi (1 : Int32) ib kb z2 w2.toInt (own_upd (fun _ => 0) ka w1.toInt) ([] ++ [ka]) _ _ T149.heap n0 Z0 EA FS FI FN VS VI hR11 hkb (by omega) D_z2 bw2 (by rw [fv2]; omega) (by simp) ge_a g11 gi na11 n2 nb11) rfl (by decide) (by decide) (by decide) (by decide) (g := (mkF m 190 #[l0, l1, l2, l3, l4, l5, SI ia, SI ib, SI ia, l9, l10, l11, SD z1, S2, SD z2, S2, SD z3, S2, l18, l19, SI 1, SI 1, SI 1, SA a, SU, SU, SU, SU] [(.double z2), (.int ib), (.ref a)])) rfl (by rw [hml]; rfl) (lenOf pd3 rfl) rfl (by show 2 * 0 + _ ≤ _; exact Nat.le_of_eq rfl) (hb hby at_190)
          obtain ⟨rq12, b12, nq12, x12, y12, rfl, -, FS, FI, FN, VS, VI, hR12, hl12, hpr12, g12, na12, nb12, K150, NL150⟩ := hQ150
          have N0 := Fr.app N0 NL150
          have e150 : T150.heap = T150.heap := rfl
          have EA := EA.keep K150
          have Z0 := Nat.le_trans Z0 K150.1
          refine Goes.by (T' := T150) (g' := (mkF m 193 #[l0, l1, l2, l3, l4, l5, SI ia, SI ib, SI ia, l9, l10, l11, SD z1, S2, SD z2, S2, SD z3, S2, l18, l19, SI 1, SI 1, SI 1, SA a, SU, SU, SU, SU] [(.double rq12)])) st150 ?_
          rw [if_pos fv2] at hR12
          obtain rfl : nq12 = (2 : Int32) := Int32.toInt_inj.mp (by rw [hR12.2.2.2.2.1]; rfl)
          refine Goes.by (T' := T150) (g' := (mkF m 194 #[l0, l1, l2, l3, l4, l5, SI ia, SI ib, SI ia, l9, l10, l11, SD z1, S2, SD z2, S2, SD z3, S2, l18, l19, SI 1, SI 1, SI 1, SA a, SU, SU, SU, SU] [])) (fun _ k => XS.pop2W X150.here hx rfl (hb hby at_193) rfl rfl k) ?_
          refine Goes.by (T' := T150) (g' := (mkF m 196 #[l0, l1, l2, l3, l4, l5, SI ia, SI ib, SI ia, l9, l10, l11, SD z1, S2, SD z2, S2, SD z3, S2, l18, l19, SI 1, SI 1, SI 1, SA a, SU, SU, SU, SU] [(.int (1 : Int32))])) (fun _ k => XS.iload X150.here hx rfl (hb hby at_194) rfl k) ?_
          refine Goes.by (T' := T150) (g' := (mkF m 199 #[l0, l1, l2, l3, l4, l5, SI ia, SI ib, SI ia, l9, l10, l11, SD z1, S2, SD z2, S2, SD z3, S2, l18, l19, SI 1, SI 1, SI 1, SA a, SU, SU, SU, SU] [])) (fun _ k => XS.ifNo X150.here hx rfl (hb hby at_196) rfl (by decide) k) ?_
          refine Goes.by (T' := T150) (g' := (mkF m 201 #[l0, l1, l2, l3, l4, l5, SI ia, SI ib, SI ia, l9, l10, l11, SD z1, S2, SD z2, S2, SD z3, S2, l18, l19, SI 1, SI 1, SI 1, SA a, SU, SU, SU, SU] [(.ref a)])) (fun _ k => XS.aload X150.here hx rfl (hb hby at_199) rfl rfl k) ?_
          refine Goes.by (T' := T150) (g' := (mkF m 203 #[l0, l1, l2, l3, l4, l5, SI ia, SI ib, SI ia, l9, l10, l11, SD z1, S2, SD z2, S2, SD z3, S2, l18, l19, SI 1, SI 1, SI 1, SA a, SU, SU, SU, SU] [(.int ia), (.ref a)])) (fun _ k => XS.iload X150.here hx rfl (hb hby at_201) rfl k) ?_
          refine Goes.by (T' := T150) (g' := (mkF m 205 #[l0, l1, l2, l3, l4, l5, SI ia, SI ib, SI ia, l9, l10, l11, SD z1, S2, SD z2, S2, SD z3, S2, l18, l19, SI 1, SI 1, SI 1, SA a, SU, SU, SU, SU] [(.double z3), (.int ia), (.ref a)])) (fun _ k => XS.dload X150.here hx rfl (hb hby at_203) rfl k) ?_
          have fv3 : (own_upd (own_upd (fun _ => 0) ka w1.toInt) kb w2.toInt) ka = w1.toInt := by simp [own_upd, nkab, nkab.symm]
          obtain ⟨v151, T151, L151, X151, hQ151, st151⟩ := callV X150 hx hZ (y := (⟨"com/example/gibbon/gibbon/analysis/SparseSum", "add", "(ID)D"⟩ : MethodName)) hown (hw _ (List.mem_of_getElem? (i := 15) rfl)) (hw _ (List.mem_of_getElem? (i := 16) rfl)) (hw _ (List.mem_of_getElem? (i := 18) rfl)) (hw _ (List.mem_of_getElem? (i := 17) rfl)) (hw _ (List.mem_of_getElem? (i := 19) rfl)) (hw _ (List.mem_of_getElem? (i := 2) rfl)) (by decide) e150 EA (argsL := [(.int ia), (.double z3)]) (rest := []) (W := 0) (rm_addU l Z a0 hw a b12 bi (2 : Int32) ia ka z3 w3.toInt (own_upd (own_upd (fun _ => 0) ka w1.toInt) kb w2.toInt) (([] ++ [ka]) ++ [kb]) _ _ T150.heap n0 Z0 EA FS FI FN VS VI hR12 hka (by omega) D_z3 bw3 (by rw [fv3]; omega) (by simp) ge_a g12 gi na12 n2 nb12) rfl (by decide) (by decide) (by decide) (by decide) (g := (mkF m 205 #[l0, l1, l2, l3, l4, l5, SI ia, SI ib, SI ia, l9, l10, l11, SD z1, S2, SD z2, S2, SD z3, S2, l18, l19, SI 1, SI 1, SI 1, SA a, SU, SU, SU, SU] [(.double z3), (.int ia), (.ref a)])) rfl (by rw [hml]; rfl) (lenOf pd3 rfl) rfl (by show 2 * 0 + _ ≤ _; exact Nat.le_of_eq rfl) (hb hby at_205)
          obtain ⟨rq13, b13, nq13, x13, y13, rfl, -, FS, FI, FN, VS, VI, hR13, hl13, hpr13, g13, na13, nb13, K151, NL151⟩ := hQ151
          have N0 := Fr.app N0 NL151
          have e151 : T151.heap = T151.heap := rfl
          have EA := EA.keep K151
          have Z0 := Nat.le_trans Z0 K151.1
          refine Goes.by (T' := T151) (g' := (mkF m 208 #[l0, l1, l2, l3, l4, l5, SI ia, SI ib, SI ia, l9, l10, l11, SD z1, S2, SD z2, S2, SD z3, S2, l18, l19, SI 1, SI 1, SI 1, SA a, SU, SU, SU, SU] [(.double rq13)])) st151 ?_
          rw [if_neg (by rw [fv3]; omega)] at hR13
          obtain rfl : nq13 = (2 : Int32) := Int32.toInt_inj.mp (by rw [hR13.2.2.2.2.1]; rfl)
          refine Goes.by (T' := T151) (g' := (mkF m 209 #[l0, l1, l2, l3, l4, l5, SI ia, SI ib, SI ia, l9, l10, l11, SD z1, S2, SD z2, S2, SD z3, S2, l18, l19, SI 1, SI 1, SI 1, SA a, SU, SU, SU, SU] [])) (fun _ k => XS.pop2W X151.here hx rfl (hb hby at_208) rfl rfl k) ?_
          refine Goes.by (T' := T151) (g' := (mkF m 210 #[l0, l1, l2, l3, l4, l5, SI ia, SI ib, SI ia, l9, l10, l11, SD z1, S2, SD z2, S2, SD z3, S2, l18, l19, SI 1, SI 1, SI 1, SA a, SU, SU, SU, SU] [(.int (3 : Int32))])) (fun _ k => XS.iconst X151.here hx rfl (hb hby at_209)  k) ?_
          obtain ⟨T152, h152, k152, X152, e152, E152, A152, st152⟩ := newP X151 hx hZ (hw _ (List.mem_of_getElem? (i := 9) rfl)) e151 (g := (mkF m 210 #[l0, l1, l2, l3, l4, l5, SI ia, SI ib, SI ia, l9, l10, l11, SD z1, S2, SD z2, S2, SD z3, S2, l18, l19, SI 1, SI 1, SI 1, SA a, SU, SU, SU, SU] [(.int (3 : Int32))])) rfl (hb hby at_210) rfl (by decide) (cap := 3) (by decide) (by decide) (by decide) (by decide)
          obtain ⟨ea, g152⟩ : ∃ z, z = T151.heap.size := ⟨_, rfl⟩
          rw [← g152] at A152 st152
          have ne_a_ea : a ≠ ea := fun q => Nat.lt_irrefl _ (Nat.lt_of_lt_of_eq EA.lt (g152.symm.trans q.symm))
          have ne_b13_ea : b13 ≠ ea := fun q => Nat.lt_irrefl _ (Nat.lt_of_lt_of_eq VS.lt (g152.symm.trans q.symm))
          have ne_bi_ea : bi ≠ ea := fun q => Nat.lt_irrefl _ (Nat.lt_of_lt_of_eq VI.lt (g152.symm.trans q.symm))
          have ge_ea : n0 ≤ ea := Nat.le_trans Z0 (Nat.le_of_eq g152.symm)
          have EA := EA.ext E152
          have FS := FS.ext E152
          have FI := FI.ext E152
          have FN := FN.ext E152
          have VS := VS.ext E152
          have VI := VI.ext E152
          have Z0 := Nat.le_trans Z0 E152.1
          have V_ea : Sar Z h152 ea .double [(.double (0 : UInt64)), (.double (0 : UInt64)), (.double (0 : UInt64))] := Sar.new (n := 3) A152 (by decide)
          refine Goes.by (T' := T152) (g' := (mkF m 212 #[l0, l1, l2, l3, l4, l5, SI ia, SI ib, SI ia, l9, l10, l11, SD z1, S2, SD z2, S2, SD z3, S2, l18, l19, SI 1, SI 1, SI 1, SA a, SU, SU, SU, SU] [(.ref ea)])) st152 ?_
          refine Goes.by (T' := T152) (g' := (mkF m 214 #[l0, l1, l2, l3, l4, l5, SI ia, SI ib, SI ia, l9, l10, l11, SD z1, S2, SD z2, S2, SD z3, S2, l18, l19, SI 1, SI 1, SI 1, SA a, SA ea, SU, SU, SU] [])) (fun _ k => XS.astore X152.here hx rfl (hb hby at_212) rfl rfl (l' := #[l0, l1, l2, l3, l4, l5, SI ia, SI ib, SI ia, l9, l10, l11, SD z1, S2, SD z2, S2, SD z3, S2, l18, l19, SI 1, SI 1, SI 1, SA a, SA ea, SU, SU, SU]) rfl k) ?_
          refine Goes.by (T' := T152) (g' := (mkF m 215 #[l0, l1, l2, l3, l4, l5, SI ia, SI ib, SI ia, l9, l10, l11, SD z1, S2, SD z2, S2, SD z3, S2, l18, l19, SI 1, SI 1, SI 1, SA a, SA ea, SU, SU, SU] [(.int (0 : Int32))])) (fun _ k => XS.iconst X152.here hx rfl (hb hby at_214)  k) ?_
          refine Goes.by (T' := T152) (g' := (mkF m 217 #[l0, l1, l2, l3, l4, l5, SI ia, SI ib, SI ia, l9, l10, l11, SD z1, S2, SD z2, S2, SD z3, S2, l18, l19, SI 1, SI 1, SI 1, SA a, SA ea, SI 0, SU, SU] [])) (fun _ k => XS.istore X152.here hx rfl (hb hby at_215) rfl (l' := #[l0, l1, l2, l3, l4, l5, SI ia, SI ib, SI ia, l9, l10, l11, SD z1, S2, SD z2, S2, SD z3, S2, l18, l19, SI 1, SI 1, SI 1, SA a, SA ea, SI 0, SU, SU]) rfl k) ?_
          refine Goes.by (T' := T152) (g' := (mkF m 219 #[l0, l1, l2, l3, l4, l5, SI ia, SI ib, SI ia, l9, l10, l11, SD z1, S2, SD z2, S2, SD z3, S2, l18, l19, SI 1, SI 1, SI 1, SA a, SA ea, SI 0, SU, SU] [(.int (1 : Int32))])) (fun _ k => XS.iload X152.here hx rfl (hb hby at_217) rfl k) ?_
          refine Goes.by (T' := T152) (g' := (mkF m 222 #[l0, l1, l2, l3, l4, l5, SI ia, SI ib, SI ia, l9, l10, l11, SD z1, S2, SD z2, S2, SD z3, S2, l18, l19, SI 1, SI 1, SI 1, SA a, SA ea, SI 0, SU, SU] [])) (fun _ k => XS.ifNo X152.here hx rfl (hb hby at_219) rfl (by decide) k) ?_
          refine Goes.by (T' := T152) (g' := (mkF m 224 #[l0, l1, l2, l3, l4, l5, SI ia, SI ib, SI ia, l9, l10, l11, SD z1, S2, SD z2, S2, SD z3, S2, l18, l19, SI 1, SI 1, SI 1, SA a, SA ea, SI 0, SU, SU] [(.double z1)])) (fun _ k => XS.dload X152.here hx rfl (hb hby at_222) rfl k) ?_
          refine Goes.by (T' := T152) (g' := (mkF m 226 #[l0, l1, l2, l3, l4, l5, SI ia, SI ib, SI ia, l9, l10, l11, SD z1, S2, SD z2, S2, SD z3, S2, l18, l19, SI 1, SI 1, SI 1, SA a, SA ea, SI 0, SD z1, S2] [])) (fun _ k => XS.dstore X152.here hx rfl (hb hby at_224) rfl (l' := #[l0, l1, l2, l3, l4, l5, SI ia, SI ib, SI ia, l9, l10, l11, SD z1, S2, SD z2, S2, SD z3, S2, l18, l19, SI 1, SI 1, SI 1, SA a, SA ea, SI 0, SD z1, S2]) rfl k) ?_
          refine Goes.by (T' := T152) (g' := (mkF m 228 #[l0, l1, l2, l3, l4, l5, SI ia, SI ib, SI ia, l9, l10, l11, SD z1, S2, SD z2, S2, SD z3, S2, l18, l19, SI 1, SI 1, SI 1, SA a, SA ea, SI 0, SD z1, S2] [(.int (1 : Int32))])) (fun _ k => XS.iload X152.here hx rfl (hb hby at_226) rfl k) ?_
          refine Goes.by (T' := T152) (g' := (mkF m 231 #[l0, l1, l2, l3, l4, l5, SI ia, SI ib, SI ia, l9, l10, l11, SD z1, S2, SD z2, S2, SD z3, S2, l18, l19, SI 1, SI 1, SI 1, SA a, SA ea, SI 0, SD z1, S2] [])) (fun _ k => XS.ifNo X152.here hx rfl (hb hby at_228) rfl (by decide) k) ?_
          refine Goes.by (T' := T152) (g' := (mkF m 233 #[l0, l1, l2, l3, l4, l5, SI ia, SI ib, SI ia, l9, l10, l11, SD z1, S2, SD z2, S2, SD z3, S2, l18, l19, SI 1, SI 1, SI 1, SA a, SA ea, SI 0, SD z1, S2] [(.int ib)])) (fun _ k => XS.iload X152.here hx rfl (hb hby at_231) rfl k) ?_
          refine Goes.by (T' := T152) (g' := (mkF m 235 #[l0, l1, l2, l3, l4, l5, SI ia, SI ib, SI ia, l9, l10, l11, SD z1, S2, SD z2, S2, SD z3, S2, l18, l19, SI 1, SI 1, SI 1, SA a, SA ea, SI 0, SD z1, S2] [(.int ia), (.int ib)])) (fun _ k => XS.iload X152.here hx rfl (hb hby at_233) rfl k) ?_
          refine Goes.by (T' := T152) (g' := (mkF m 245 #[l0, l1, l2, l3, l4, l5, SI ia, SI ib, SI ia, l9, l10, l11, SD z1, S2, SD z2, S2, SD z3, S2, l18, l19, SI 1, SI 1, SI 1, SA a, SA ea, SI 0, SD z1, S2] [])) (fun _ k => XS.icmpYes X152.here hx rfl (pc0 := 235) (pc' := 245) rfl (hb hby at_235) rfl (feq (fun q => hab q.symm)).2 (by decide) (by decide) k) ?_
          refine Goes.by (T' := T152) (g' := (mkF m 247 #[l0, l1, l2, l3, l4, l5, SI ia, SI ib, SI ia, l9, l10, l11, SD z1, S2, SD z2, S2, SD z3, S2, l18, l19, SI 1, SI 1, SI 1, SA a, SA ea, SI 0, SD z1, S2] [(.int (1 : Int32))])) (fun _ k => XS.iload X152.here hx rfl (hb hby at_245) rfl k) ?_
          refine Goes.by (T' := T152) (g' := (mkF m 250 #[l0, l1, l2, l3, l4, l5, SI ia, SI ib, SI ia, l9, l10, l11, SD z1, S2, SD z2, S2, SD z3, S2, l18, l19, SI 1, SI 1, SI 1, SA a, SA ea, SI 0, SD z1, S2] [])) (fun _ k => XS.ifNo X152.here hx rfl (hb hby at_247) rfl (by decide) k) ?_
          refine Goes.by (T' := T152) (g' := (mkF m 252 #[l0, l1, l2, l3, l4, l5, SI ia, SI ib, SI ia, l9, l10, l11, SD z1, S2, SD z2, S2, SD z3, S2, l18, l19, SI 1, SI 1, SI 1, SA a, SA ea, SI 0, SD z1, S2] [(.int ia)])) (fun _ k => XS.iload X152.here hx rfl (hb hby at_250) rfl k) ?_
          refine Goes.by (T' := T152) (g' := (mkF m 254 #[l0, l1, l2, l3, l4, l5, SI ia, SI ib, SI ia, l9, l10, l11, SD z1, S2, SD z2, S2, SD z3, S2, l18, l19, SI 1, SI 1, SI 1, SA a, SA ea, SI 0, SD z1, S2] [(.int ia), (.int ia)])) (fun _ k => XS.iload X152.here hx rfl (hb hby at_252) rfl k) ?_
          refine Goes.by (T' := T152) (g' := (mkF m 257 #[l0, l1, l2, l3, l4, l5, SI ia, SI ib, SI ia, l9, l10, l11, SD z1, S2, SD z2, S2, SD z3, S2, l18, l19, SI 1, SI 1, SI 1, SA a, SA ea, SI 0, SD z1, S2] [])) (fun _ k => XS.icmpNo X152.here hx rfl (hb hby at_254) rfl (teq rfl).2 k) ?_
          refine Goes.by (T' := T152) (g' := (mkF m 259 #[l0, l1, l2, l3, l4, l5, SI ia, SI ib, SI ia, l9, l10, l11, SD z1, S2, SD z2, S2, SD z3, S2, l18, l19, SI 1, SI 1, SI 1, SA a, SA ea, SI 0, SD z1, S2] [(.double z1)])) (fun _ k => XS.dload X152.here hx rfl (hb hby at_257) rfl k) ?_
          refine Goes.by (T' := T152) (g' := (mkF m 261 #[l0, l1, l2, l3, l4, l5, SI ia, SI ib, SI ia, l9, l10, l11, SD z1, S2, SD z2, S2, SD z3, S2, l18, l19, SI 1, SI 1, SI 1, SA a, SA ea, SI 0, SD z1, S2] [(.double z3), (.double z1)])) (fun _ k => XS.dload X152.here hx rfl (hb hby at_259) rfl k) ?_
          obtain ⟨t1, q_t1⟩ : ∃ zz, FP.dadd z1 z3 = zz := ⟨_, rfl⟩
          have D_t1 : Core.DInt (w1.toInt + w3.toInt) t1 := DInt_add q_t1 D_z1 D_z3 (by omega)
          refine Goes.by (T' := T152) (g' := (mkF m 262 #[l0, l1, l2, l3, l4, l5, SI ia, SI ib, SI ia, l9, l10, l11, SD z1, S2, SD z2, S2, SD z3, S2, l18, l19, SI 1, SI 1, SI 1, SA a, SA ea, SI 0, SD z1, S2] [(.double t1)])) (fun _ k => XS.daddS X152.here hx rfl (hb hby at_261) rfl (by rw [q_t1]; exact DInt_nn D_t1) q_t1 k) ?_
          refine Goes.by (T' := T152) (g' := (mkF m 264 #[l0, l1, l2, l3, l4, l5, SI ia, SI ib, SI ia, l9, l10, l11, SD z1, S2, SD z2, S2, SD z3, S2, l18, l19, SI 1, SI 1, SI 1, SA a, SA ea, SI 0, SD t1, S2] [])) (fun _ k => XS.dstore X152.here hx rfl (hb hby at_262) rfl (l' := #[l0, l1, l2, l3, l4, l5, SI ia, SI ib, SI ia, l9, l10, l11, SD z1, S2, SD z2, S2, SD z3, S2, l18, l19, SI 1, SI 1, SI 1, SA a, SA ea, SI 0, SD t1, S2]) rfl k) ?_
          refine Goes.by (T' := T152) (g' := (mkF m 266 #[l0, l1, l2, l3, l4, l5, SI ia, SI ib, SI ia, l9, l10, l11, SD z1, S2, SD z2, S2, SD z3, S2, l18, l19, SI 1, SI 1, SI 1, SA a, SA ea, SI 0, SD t1, S2] [(.ref ea)])) (fun _ k => XS.aload X152.here hx rfl (hb hby at_264) rfl rfl k) ?_
          refine Goes.by (T' := T152) (g' := (mkF m 268 #[l0, l1, l2, l3, l4, l5, SI ia, SI ib, SI ia, l9, l10, l11, SD z1, S2, SD z2, S2, SD z3, S2, l18, l19, SI 1, SI 1, SI 1, SA a, SA ea, SI 0, SD t1, S2] [(.int (0 : Int32)), (.ref ea)])) (fun _ k => XS.iload X152.here hx rfl (hb hby at_266) rfl k) ?_
          refine Goes.by (T' := T152) (g' := (mkF m 270 #[l0, l1, l2, l3, l4, l5, SI ia, SI ib, SI ia, l9, l10, l11, SD z1, S2, SD z2, S2, SD z3, S2, l18, l19, SI 1, SI 1, SI 1, SA a, SA ea, SI 0, SD t1, S2] [(.double t1), (.int (0 : Int32)), (.ref ea)])) (fun _ k => XS.dload X152.here hx rfl (hb hby at_268) rfl k) ?_
          obtain ⟨T153, h153, X153, e153, W153, V153, st153⟩ := stDS X152 hx hZ e152 V_ea (j := (0 : Int32)) 0 (by decide) (by show 0 < 3; decide) (g := (mkF m 270 #[l0, l1, l2, l3, l4, l5, SI ia, SI ib, SI ia, l9, l10, l11, SD z1, S2, SD z2, S2, SD z3, S2, l18, l19, SI 1, SI 1, SI 1, SA a, SA ea, SI 0, SD t1, S2] [(.double t1), (.int (0 : Int32)), (.ref ea)])) rfl rfl (hb hby at_270)
          have N0 := Fr.snoc X153 N0 ge_ea
          have EA := EA.wr W153
          have FS := FS.other W153 (Or.inl ne_a_ea)
          have FI := FI.other W153 (Or.inl ne_a_ea)
          have FN := FN.other W153 (Or.inl ne_a_ea)
          have VS := VS.other W153 ne_b13_ea
          have VI := VI.other W153 ne_bi_ea
          have Z0 := Nat.le_trans Z0 (Nat.le_of_eq W153.size.symm)
          have V_ea : Sar Z h153 ea .double [(.double t1), (.double (0 : UInt64)), (.double (0 : UInt64))] := V153
          refine Goes.by (T' := T153) (g' := (mkF m 271 #[l0, l1, l2, l3, l4, l5, SI ia, SI ib, SI ia, l9, l10, l11, SD z1, S2, SD z2, S2, SD z3, S2, l18, l19, SI 1, SI 1, SI 1, SA a, SA ea, SI 0, SD t1, S2] [])) st153 ?_
          refine Goes.by (T' := T153) (g' := (mkF m 273 #[l0, l1, l2, l3, l4, l5, SI ia, SI ib, SI ia, l9, l10, l11, SD z1, S2, SD z2, S2, SD z3, S2, l18, l19, SI 1, SI 1, SI 1, SA a, SA ea, SI 0, SD t1, S2] [(.int (0 : Int32))])) (fun _ k => XS.iload X153.here hx rfl (hb hby at_271) rfl k) ?_
          refine Goes.by (T' := T153) (g' := (mkF m 274 #[l0, l1, l2, l3, l4, l5, SI ia, SI ib, SI ia, l9, l10, l11, SD z1, S2, SD z2, S2, SD z3, S2, l18, l19, SI 1, SI 1, SI 1, SA a, SA ea, SI 0, SD t1, S2] [(.int (1 : Int32)), (.int (0 : Int32))])) (fun _ k => XS.iconst X153.here hx rfl (hb hby at_273)  k) ?_
          refine Goes.by (T' := T153) (g' := (mkF m 275 #[l0, l1, l2, l3, l4, l5, SI ia, SI ib, SI ia, l9, l10, l11, SD z1, S2, SD z2, S2, SD z3, S2, l18, l19, SI 1, SI 1, SI 1, SA a, SA ea, SI 0, SD t1, S2] [(.int (1 : Int32))])) (fun _ k => XS.iadd X153.here hx rfl (hb hby at_274) rfl k) ?_
          refine Goes.by (T' := T153) (g' := (mkF m 277 #[l0, l1, l2, l3, l4, l5, SI ia, SI ib, SI ia, l9, l10, l11, SD z1, S2, SD z2, S2, SD z3, S2, l18, l19, SI 1, SI 1, SI 1, SA a, SA ea, SI 1, SD t1, S2] [])) (fun _ k => XS.istore X153.here hx rfl (hb hby at_275) rfl (l' := #[l0, l1, l2, l3, l4, l5, SI ia, SI ib, SI ia, l9, l10, l11, SD z1, S2, SD z2, S2, SD z3, S2, l18, l19, SI 1, SI 1, SI 1, SA a, SA ea, SI 1, SD t1, S2]) rfl k) ?_
          refine Goes.by (T' := T153) (g' := (mkF m 279 #[l0, l1, l2, l3, l4, l5, SI ia, SI ib, SI ia, l9, l10, l11, SD z1, S2, SD z2, S2, SD z3, S2, l18, l19, SI 1, SI 1, SI 1, SA a, SA ea, SI 1, SD t1, S2] [(.int (1 : Int32))])) (fun _ k => XS.iload X153.here hx rfl (hb hby at_277) rfl k) ?_
          refine Goes.by (T' := T153) (g' := (mkF m 282 #[l0, l1, l2, l3, l4, l5, SI ia, SI ib, SI ia, l9, l10, l11, SD z1, S2, SD z2, S2, SD z3, S2, l18, l19, SI 1, SI 1, SI 1, SA a, SA ea, SI 1, SD t1, S2] [])) (fun _ k => XS.ifNo X153.here hx rfl (hb hby at_279) rfl (by decide) k) ?_
          refine Goes.by (T' := T153) (g' := (mkF m 284 #[l0, l1, l2, l3, l4, l5, SI ia, SI ib, SI ia, l9, l10, l11, SD z1, S2, SD z2, S2, SD z3, S2, l18, l19, SI 1, SI 1, SI 1, SA a, SA ea, SI 1, SD t1, S2] [(.int ib)])) (fun _ k => XS.iload X153.here hx rfl (hb hby at_282) rfl k) ?_
          refine Goes.by (T' := T153) (g' := (mkF m 286 #[l0, l1, l2, l3, l4, l5, SI ia, SI ib, SI ia, l9, l10, l11, SD z1, S2, SD z2, S2, SD z3, S2, l18, l19, SI 1, SI 1, SI 1, SA a, SA ea, SI 1, SD t1, S2] [(.int ia), (.int ib)])) (fun _ k => XS.iload X153.here hx rfl (hb hby at_284) rfl k) ?_
          refine Goes.by (T' := T153) (g' := (mkF m 289 #[l0, l1, l2, l3, l4, l5, SI ia, SI ib, SI ia, l9, l10, l11, SD z1, S2, SD z2, S2, SD z3, S2, l18, l19, SI 1, SI 1, SI 1, SA a, SA ea, SI 1, SD t1, S2] [])) (fun _ k => XS.icmpNo X153.here hx rfl (hb hby at_286) rfl (feq (fun q => hab q.symm)).1 k) ?_
          refine Goes.by (T' := T153) (g' := (mkF m 291 #[l0, l1, l2, l3, l4, l5, SI ia, SI ib, SI ia, l9, l10, l11, SD z1, S2, SD z2, S2, SD z3, S2, l18, l19, SI 1, SI 1, SI 1, SA a, SA ea, SI 1, SD t1, S2] [(.double z2)])) (fun _ k => XS.dload X153.here hx rfl (hb hby at_289) rfl k) ?_
          refine Goes.by (T' := T153) (g' := (mkF m 293 #[l0, l1, l2, l3, l4, l5, SI ia, SI ib, SI ia, l9, l10, l11, SD z1, S2, SD z2, S2, SD z3, S2, l18, l19, SI 1, SI 1, SI 1, SA a, SA ea, SI 1, SD z2, S2] [])) (fun _ k => XS.dstore X153.here hx rfl (hb hby at_291) rfl (l' := #[l0, l1, l2, l3, l4, l5, SI ia, SI ib, SI ia, l9, l10, l11, SD z1, S2, SD z2, S2, SD z3, S2, l18, l19, SI 1, SI 1, SI 1, SA a, SA ea, SI 1, SD z2, S2]) rfl k) ?_
          refine Goes.by (T' := T153) (g' := (mkF m 295 #[l0, l1, l2, l3, l4, l5, SI ia, SI ib, SI ia, l9, l10, l11, SD z1, S2, SD z2, S2, SD z3, S2, l18, l19, SI 1, SI 1, SI 1, SA a, SA ea, SI 1, SD z2, S2] [(.int (1 : Int32))])) (fun _ k => XS.iload X153.here hx rfl (hb hby at_293) rfl k) ?_
          refine Goes.by (T' := T153) (g' := (mkF m 298 #[l0, l1, l2, l3, l4, l5, SI ia, SI ib, SI ia, l9, l10, l11, SD z1, S2, SD z2, S2, SD z3, S2, l18, l19, SI 1, SI 1, SI 1, SA a, SA ea, SI 1, SD z2, S2] [])) (fun _ k => XS.ifNo X153.here hx rfl (hb hby at_295) rfl (by decide) k) ?_
          refine Goes.by (T' := T153) (g' := (mkF m 300 #[l0, l1, l2, l3, l4, l5, SI ia, SI ib, SI ia, l9, l10, l11, SD z1, S2, SD z2, S2, SD z3, S2, l18, l19, SI 1, SI 1, SI 1, SA a, SA ea, SI 1, SD z2, S2] [(.int ia)])) (fun _ k => XS.iload X153.here hx rfl (hb hby at_298) rfl k) ?_
          refine Goes.by (T' := T153) (g' := (mkF m 302 #[l0, l1, l2, l3, l4, l5, SI ia, SI ib, SI ia, l9, l10, l11, SD z1, S2, SD z2, S2, SD z3, S2, l18, l19, SI 1, SI 1, SI 1, SA a, SA ea, SI 1, SD z2, S2] [(.int ib), (.int ia)])) (fun _ k => XS.iload X153.here hx rfl (hb hby at_300) rfl k) ?_
          refine Goes.by (T' := T153) (g' := (mkF m 312 #[l0, l1, l2, l3, l4, l5, SI ia, SI ib, SI ia, l9, l10, l11, SD z1, S2, SD z2, S2, SD z3, S2, l18, l19, SI 1, SI 1, SI 1, SA a, SA ea, SI 1, SD z2, S2] [])) (fun _ k => XS.icmpYes X153.here hx rfl (pc0 := 302) (pc' := 312) rfl (hb hby at_302) rfl (feq (fun q => hab q)).2 (by decide) (by decide) k) ?_
          refine Goes.by (T' := T153) (g' := (mkF m 314 #[l0, l1, l2, l3, l4, l5, SI ia, SI ib, SI ia, l9, l10, l11, SD z1, S2, SD z2, S2, SD z3, S2, l18, l19, SI 1, SI 1, SI 1, SA a, SA ea, SI 1, SD z2, S2] [(.ref ea)])) (fun _ k => XS.aload X153.here hx rfl (hb hby at_312) rfl rfl k) ?_
          refine Goes.by (T' := T153) (g' := (mkF m 316 #[l0, l1, l2, l3, l4, l5, SI ia, SI ib, SI ia, l9, l10, l11, SD z1, S2, SD z2, S2, SD z3, S2, l18, l19, SI 1, SI 1, SI 1, SA a, SA ea, SI 1, SD z2, S2] [(.int (1 : Int32)), (.ref ea)])) (fun _ k => XS.iload X153.here hx rfl (hb hby at_314) rfl k) ?_
          refine Goes.by (T' := T153) (g' := (mkF m 318 #[l0, l1, l2, l3, l4, l5, SI ia, SI ib, SI ia, l9, l10, l11, SD z1, S2, SD z2, S2, SD z3, S2, l18, l19, SI 1, SI 1, SI 1, SA a, SA ea, SI 1, SD z2, S2] [(.double z2), (.int (1 : Int32)), (.ref ea)])) (fun _ k => XS.dload X153.here hx rfl (hb hby at_316) rfl k) ?_
          obtain ⟨T154, h154, X154, e154, W154, V154, st154⟩ := stDS X153 hx hZ e153 V_ea (j := (1 : Int32)) 1 (by decide) (by show 1 < 3; decide) (g := (mkF m 318 #[l0, l1, l2, l3, l4, l5, SI ia, SI ib, SI ia, l9, l10, l11, SD z1, S2, SD z2, S2, SD z3, S2, l18, l19, SI 1, SI 1, SI 1, SA a, SA ea, SI 1, SD z2, S2] [(.double z2), (.int (1 : Int32)), (.ref ea)])) rfl rfl (hb hby at_318)
          have N0 := Fr.snoc X154 N0 ge_ea
          have EA := EA.wr W154
          have FS := FS.other W154 (Or.inl ne_a_ea)
          have FI := FI.other W154 (Or.inl ne_a_ea)
          have FN := FN.other W154 (Or.inl ne_a_ea)
          have VS := VS.other W154 ne_b13_ea
          have VI := VI.other W154 ne_bi_ea
          have Z0 := Nat.le_trans Z0 (Nat.le_of_eq W154.size.symm)
          have V_ea : Sar Z h154 ea .double [(.double t1), (.double z2), (.double (0 : UInt64))] := V154
          refine Goes.by (T' := T154) (g' := (mkF m 319 #[l0, l1, l2, l3, l4, l5, SI ia, SI ib, SI ia, l9, l10, l11, SD z1, S2, SD z2, S2, SD z3, S2, l18, l19, SI 1, SI 1, SI 1, SA a, SA ea, SI 1, SD z2, S2] [])) st154 ?_
          refine Goes.by (T' := T154) (g' := (mkF m 321 #[l0, l1, l2, l3, l4, l5, SI ia, SI ib, SI ia, l9, l10, l11, SD z1, S2, SD z2, S2, SD z3, S2, l18, l19, SI 1, SI 1, SI 1, SA a, SA ea, SI 1, SD z2, S2] [(.int (1 : Int32))])) (fun _ k => XS.iload X154.here hx rfl (hb hby at_319) rfl k) ?_
          refine Goes.by (T' := T154) (g' := (mkF m 322 #[l0, l1, l2, l3, l4, l5, SI ia, SI ib, SI ia, l9, l10, l11, SD z1, S2, SD z2, S2, SD z3, S2, l18, l19, SI 1, SI 1, SI 1, SA a, SA ea, SI 1, SD z2, S2] [(.int (1 : Int32)), (.int (1 : Int32))])) (fun _ k => XS.iconst X154.here hx rfl (hb hby at_321)  k) ?_
          refine Goes.by (T' := T154) (g' := (mkF m 323 #[l0, l1, l2, l3, l4, l5, SI ia, SI ib, SI ia, l9, l10, l11, SD z1, S2, SD z2, S2, SD z3, S2, l18, l19, SI 1, SI 1, SI 1, SA a, SA ea, SI 1, SD z2, S2] [(.int (2 : Int32))])) (fun _ k => XS.iadd X154.here hx rfl (hb hby at_322) rfl k) ?_
          refine Goes.by (T' := T154) (g' := (mkF m 325 #[l0, l1, l2, l3, l4, l5, SI ia, SI ib, SI ia, l9, l10, l11, SD z1, S2, SD z2, S2, SD z3, S2, l18, l19, SI 1, SI 1, SI 1, SA a, SA ea, SI 2, SD z2, S2] [])) (fun _ k => XS.istore X154.here hx rfl (hb hby at_323) rfl (l' := #[l0, l1, l2, l3, l4, l5, SI ia, SI ib, SI ia, l9, l10, l11, SD z1, S2, SD z2, S2, SD z3, S2, l18, l19, SI 1, SI 1, SI 1, SA a, SA ea, SI 2, SD z2, S2]) rfl k) ?_
          refine Goes.by (T' := T154) (g' := (mkF m 327 #[l0, l1, l2, l3, l4, l5, SI ia, SI ib, SI ia, l9, l10, l11, SD z1, S2, SD z2, S2, SD z3, S2, l18, l19, SI 1, SI 1, SI 1, SA a, SA ea, SI 2, SD z2, S2] [(.int (1 : Int32))])) (fun _ k => XS.iload X154.here hx rfl (hb hby at_325) rfl k) ?_
          refine Goes.by (T' := T154) (g' := (mkF m 330 #[l0, l1, l2, l3, l4, l5, SI ia, SI ib, SI ia, l9, l10, l11, SD z1, S2, SD z2, S2, SD z3, S2, l18, l19, SI 1, SI 1, SI 1, SA a, SA ea, SI 2, SD z2, S2] [])) (fun _ k => XS.ifNo X154.here hx rfl (hb hby at_327) rfl (by decide) k) ?_
          refine Goes.by (T' := T154) (g' := (mkF m 332 #[l0, l1, l2, l3, l4, l5, SI ia, SI ib, SI ia, l9, l10, l11, SD z1, S2, SD z2, S2, SD z3, S2, l18, l19, SI 1, SI 1, SI 1, SA a, SA ea, SI 2, SD z2, S2] [(.int ia)])) (fun _ k => XS.iload X154.here hx rfl (hb hby at_330) rfl k) ?_
          refine Goes.by (T' := T154) (g' := (mkF m 334 #[l0, l1, l2, l3, l4, l5, SI ia, SI ib, SI ia, l9, l10, l11, SD z1, S2, SD z2, S2, SD z3, S2, l18, l19, SI 1, SI 1, SI 1, SA a, SA ea, SI 2, SD z2, S2] [(.int ia), (.int ia)])) (fun _ k => XS.iload X154.here hx rfl (hb hby at_332) rfl k) ?_
          refine Goes.by (T' := T154) (g' := (mkF m 357 #[l0, l1, l2, l3, l4, l5, SI ia, SI ib, SI ia, l9, l10, l11, SD z1, S2, SD z2, S2, SD z3, S2, l18, l19, SI 1, SI 1, SI 1, SA a, SA ea, SI 2, SD z2, S2] [])) (fun _ k => XS.icmpYes X154.here hx rfl (pc0 := 334) (pc' := 357) rfl (hb hby at_334) rfl (teq rfl).1 (by decide) (by decide) k) ?_
          refine Goes.by (T' := T154) (g' := (mkF m 359 #[l0, l1, l2, l3, l4, l5, SI ia, SI ib, SI ia, l9, l10, l11, SD z1, S2, SD z2, S2, SD z3, S2, l18, l19, SI 1, SI 1, SI 1, SA a, SA ea, SI 2, SD z2, S2] [(.ref a)])) (fun _ k => XS.aload X154.here hx rfl (hb hby at_357) rfl rfl k) ?_
          obtain ⟨hq0, v0, hy0, hv0⟩ := hR13.2.2.2.2.2.2 0 ka (by simp)
          obtain ⟨d0, hx0, Dd0⟩ := hR13.2.1 ka hq0
          have fe0 : (own_upd (own_upd (own_upd (fun _ => 0) ka w1.toInt) kb w2.toInt) ka w3.toInt) ka = w1.toInt + w3.toInt := by simp [own_upd, nkab, nkab.symm]
          rw [fe0] at Dd0
          obtain ⟨hq1, v1, hy1, hv1⟩ := hR13.2.2.2.2.2.2 1 kb (by simp)
          obtain ⟨d1, hx1, Dd1⟩ := hR13.2.1 kb hq1
          have fe1 : (own_upd (own_upd (own_upd (fun _ => 0) ka w1.toInt) kb w2.toInt) ka w3.toInt) kb = w2.toInt := by simp [own_upd, nkab, nkab.symm]
          rw [fe1] at Dd1
          exact cmp2 a b13 bi ea _ _ _ _ _ v0 ka d0 (w1.toInt + w3.toInt) v1 kb d1 w2.toInt _ _ _ _ _ _ _ _ _ _ _ _ _ _ _ _ _ _ _ _ _ _ _ _ _ _ _ (X154.wide (fun x hx _ => hx) (by decide) (by decide)) e154 N0 Z0 EA FS FI FN VS VI V_ea ge_a g13 gi ge_ea na13 nb13 n2 ne_a_ea ne_b13_ea ne_bi_ea hy0 hv0 hx0 Dd0 D_t1 hy1 hv1 hx1 Dd1 D_z2
        · have nkac : ka ≠ kc := fun q => hac (Int32.toInt_inj.mp (by rw [hka, hkc, q]))
          by_cases hbc : ib = ic
          · subst hbc
            refine Goes.by (T' := Tj137) (g' := (mkF m 166 #[l0, l1, l2, l3, l4, l5, SI ia, SI ib, SI ib, l9, l10, l11, SD z1, S2, SD z2, S2, SD z3, S2, l18, l19, SI 1, SI 1, SI 1, SA a, SU, SU, SU, SU] [(.int (1 : Int32))])) (fun _ k => XS.iload Xj137.here hx rfl (hb hby at_164) rfl k) ?_
            refine Goes.by (T' := Tj137) (g' := (mkF m 169 #[l0, l1, l2, l3, l4, l5, SI ia, SI ib, SI ib, l9, l10, l11, SD z1, S2, SD z2, S2, SD z3, S2, l18, l19, SI 1, SI 1, SI 1, SA a, SU, SU, SU, SU] [])) (fun _ k => XS.ifNo Xj137.here hx rfl (hb hby at_166) rfl (by decide) k) ?_
            refine Goes.by (T' := Tj137) (g' := (mkF m 171 #[l0, l1, l2, l3, l4, l5, SI ia, SI ib, SI ib, l9, l10, l11, SD z1, S2, SD z2, S2, SD z3, S2, l18, l19, SI 1, SI 1, SI 1, SA a, SU, SU, SU, SU] [(.ref a)])) (fun _ k => XS.aload Xj137.here hx rfl (hb hby at_169) rfl rfl k) ?_
            refine Goes.by (T' := Tj137) (g' := (mkF m 173 #[l0, l1, l2, l3, l4, l5, SI ia, SI ib, SI ib, l9, l10, l11, SD z1, S2, SD z2, S2, SD z3, S2, l18, l19, SI 1, SI 1, SI 1, SA a, SU, SU, SU, SU] [(.int ia), (.ref a)])) (fun _ k => XS.iload Xj137.here hx rfl (hb hby at_171) rfl k) ?_
            refine Goes.by (T' := Tj137) (g' := (mkF m 175 #[l0, l1, l2, l3, l4, l5, SI ia, SI ib, SI ib, l9, l10, l11, SD z1, S2, SD z2, S2, SD z3, S2, l18, l19, SI 1, SI 1, SI 1, SA a, SU, SU, SU, SU] [(.double z1), (.int ia), (.ref a)])) (fun _ k => XS.dload Xj137.here hx rfl (hb hby at_173) rfl k) ?_
            obtain ⟨v155, T155, L155, X155, hQ155, st155⟩ := callV Xj137 hx hZ (y := (⟨"com/example/gibbon/gibbon/analysis/SparseSum", "add", "(ID)D"⟩ : MethodName)) hown (hw _ (List.mem_of_getElem? (i := 15) rfl)) (hw _ (List.mem_of_getElem? (i := 16) rfl)) (hw _ (List.mem_of_getElem? (i := 18) rfl)) (hw _ (List.mem_of_getElem? (i := 17) rfl)) (hw _ (List.mem_of_getElem? (i := 19) rfl)) (hw _ (List.mem_of_getElem? (i := 2) rfl)) (by decide) ej137 EA (argsL := [(.int ia), (.double z1)]) (rest := []) (W := 0) (rm_addU l Z a0 hw a br bi (0 : Int32) ia ka z1 w1.toInt (fun _ => 0) [] _ _ hj137 n0 Z0 EA FS FI FN VS VI hR hka (by omega) D_z1 bw1 (by decide) (by simp) ge_a gr gi n4 n2 n5) rfl (by decide) (by decide) (by decide) (by decide) (g := (mkF m 175 #[l0, l1, l2, l3, l4, l5, SI ia, SI ib, SI ib, l9, l10, l11, SD z1, S2, SD z2, S2, SD z3, S2, l18, l19, SI 1, SI 1, SI 1, SA a, SU, SU, SU, SU] [(.double z1), (.int ia), (.ref a)])) rfl (by rw [hml]; rfl) (lenOf pd3 rfl) rfl (by show 2 * 0 + _ ≤ _; exact Nat.le_of_eq rfl) (hb hby at_175)
            obtain ⟨rq11, b11, nq11, x11, y11, rfl, -, FS, FI, FN, VS, VI, hR11, hl11, hpr11, g11, na11, nb11, K155, NL155⟩ := hQ155
            have N0 := Fr.app N0 NL155
            have e155 : T155.heap = T155.heap := rfl
            have EA := EA.keep K155
            have Z0 := Nat.le_trans Z0 K155.1
            refine Goes.by (T' := T155) (g' := (mkF m 178 #[l0, l1, l2, l3, l4, l5, SI ia, SI ib, SI ib, l9, l10, l11, SD z1, S2, SD z2, S2, SD z3, S2, l18, l19, SI 1, SI 1, SI 1, SA a, SU, SU, SU, SU] [(.double rq11)])) st155 ?_
            rw [if_pos rfl] at hR11
            obtain rfl : nq11 = (1 : Int32) := Int32.toInt_inj.mp (by rw [hR11.2.2.2.2.1]; rfl)
            refine Goes.by (T' := T155) (g' := (mkF m 179 #[l0, l1, l2, l3, l4, l5, SI ia, SI ib, SI ib, l9, l10, l11, SD z1, S2, SD z2, S2, SD z3, S2, l18, l19, SI 1, SI 1, SI 1, SA a, SU, SU, SU, SU] [])) (fun _ k => XS.pop2W X155.here hx rfl (hb hby at_178) rfl rfl k) ?_
            refine Goes.by (T' := T155) (g' := (mkF m 181 #[l0, l1, l2, l3, l4, l5, SI ia, SI ib, SI ib, l9, l10, l11, SD z1, S2, SD z2, S2, SD z3, S2, l18, l19, SI 1, SI 1, SI 1, SA a, SU, SU, SU, SU] [(.int (1 : Int32))])) (fun _ k => XS.iload X155.here hx rfl (hb hby at_179) rfl k) ?_
            refine Goes.by (T' := T155) (g' := (mkF m 184 #[l0, l1, l2, l3, l4, l5, SI ia, SI ib, SI ib, l9, l10, l11, SD z1, S2, SD z2, S2, SD z3, S2, l18, l19, SI 1, SI 1, SI 1, SA a, SU, SU, SU, SU] [])) (fun _ k => XS.ifNo X155.here hx rfl (hb hby at_181) rfl (by decide) k) ?_
            refine Goes.by (T' := T155) (g' := (mkF m 186 #[l0, l1, l2, l3, l4, l5, SI ia, SI ib, SI ib, l9, l10, l11, SD z1, S2, SD z2, S2, SD z3, S2, l18, l19, SI 1, SI 1, SI 1, SA a, SU, SU, SU, SU] [(.ref a)])) (fun _ k => XS.aload X155.here hx rfl (hb hby at_184) rfl rfl k) ?_
            refine Goes.by (T' := T155) (g' := (mkF m 188 #[l0, l1, l2, l3, l4, l5, SI ia, SI ib, SI ib, l9, l10, l11, SD z1, S2, SD z2, S2, SD z3, S2, l18, l19, SI 1, SI 1, SI 1, SA a, SU, SU, SU, SU] [(.int ib), (.ref a)])) (fun _ k => XS.iload X155.here hx rfl (hb hby at_186) rfl k) ?_
            refine Goes.by (T' := T155) (g' := (mkF m 190 #[l0, l1, l2, l3, l4, l5, SI ia, SI ib, SI ib, l9, l10, l11, SD z1, S2, SD z2, S2, SD z3, S2, l18, l19, SI 1, SI 1, SI 1, SA a, SU, SU, SU, SU] [(.double z2), (.int ib), (.ref a)])) (fun _ k => XS.dload X155.here hx rfl (hb hby at_188) rfl k) ?_
            have fv2 : (own_upd (fun _ => 0) ka w1.toInt) kb = 0 := by simp [own_upd, nkab, nkab.symm]
            obtain ⟨v156, T156, L156, X156, hQ156, st156⟩ := callV X155 hx hZ (y := (⟨"com/example/gibbon/gibbon/analysis/SparseSum", "add", "(ID)D"⟩ : MethodName)) hown (hw _ (List.mem_of_getElem? (i := 15) rfl)) (hw _ (List.mem_of_getElem? (i := 16) rfl)) (hw _ (List.mem_of_getElem? (i := 18) rfl)) (hw _ (List.mem_of_getElem? (i := 17) rfl)) (hw _ (List.mem_of_getElem? (i := 19) rfl)) (hw _ (List.mem_of_getElem? (i := 2) rfl)) (by decide) e155 EA (argsL := [(.int ib), (.double z2)]) (rest := []) (W := 0) (rm_addU l Z a0 hw a b11 bi (1 : Int32) ib kb z2 w2.toInt (own_upd (fun _ => 0) ka w1.toInt) ([] ++ [ka]) _ _ T155.heap n0 Z0 EA FS FI FN VS VI hR11 hkb (by omega) D_z2 bw2 (by rw [fv2]; omega) (by simp) ge_a g11 gi na11 n2 nb11) rfl (by decide) (by decide) (by decide) (by decide) (g := (mkF m 190 #[l0, l1, l2, l3, l4, l5, SI ia, SI ib, SI ib, l9, l10, l11, SD z1, S2, SD z2, S2, SD z3, S2, l18, l19, SI 1, SI 1, SI 1, SA a, SU, SU, SU, SU] [(.double z2), (.int ib), (.ref a)])) rfl (by rw [hml]; rfl) (lenOf pd3 rfl) rfl (by show 2 * 0 + _ ≤ _; exact Nat.le_of_eq rfl) (hb hby at_190)
            obtain ⟨rq12, b12, nq12, x12, y12, rfl, -, FS, FI, FN, VS, VI, hR12, hl12, hpr12, g12, na12, nb12, K156, NL156⟩ := hQ156
            have N0 := Fr.app N0 NL156
            have e156 : T156.heap = T156.heap := rfl
            have EA := EA.keep K156
            have Z0 := Nat.le_trans Z0 K156.1
            refine Goes.by (T' := T156) (g' := (mkF m 193 #[l0, l1, l2, l3, l4, l5, SI ia, SI ib, SI ib, l9, l10, l11, SD z1, S2, SD z2, S2, SD z3, S2, l18, l19, SI 1, SI 1, SI 1, SA a, SU, SU, SU, SU] [(.double rq12)])) st156 ?_
            rw [if_pos fv2] at hR12
            obtain rfl : nq12 = (2 : Int32) := Int32.toInt_inj.mp (by rw [hR12.2.2.2.2.1]; rfl)
            refine Goes.by (T' := T156) (g' := (mkF m 194 #[l0, l1, l2, l3, l4, l5, SI ia, SI ib, SI ib, l9, l10, l11, SD z1, S2, SD z2, S2, SD z3, S2, l18, l19, SI 1, SI 1, SI 1, SA a, SU, SU, SU, SU] [])) (fun _ k => XS.pop2W X156.here hx rfl (hb hby at_193) rfl rfl k) ?_
            refine Goes.by (T' := T156) (g' := (mkF m 196 #[l0, l1, l2, l3, l4, l5, SI ia, SI ib, SI ib, l9, l10, l11, SD z1, S2, SD z2, S2, SD z3, S2, l18, l19, SI 1, SI 1, SI 1, SA a, SU, SU, SU, SU] [(.int (1 : Int32))])) (fun _ k => XS.iload X156.here hx rfl (hb hby at_194) rfl k) ?_
            refine Goes.by (T' := T156) (g' := (mkF m 199 #[l0, l1, l2, l3, l4, l5, SI ia, SI ib, SI ib, l9, l10, l11, SD z1, S2, SD z2, S2, SD z3, S2, l18, l19, SI 1, SI 1, SI 1, SA a, SU, SU, SU, SU] [])) (fun _ k => XS.ifNo X156.here hx rfl (hb hby at_196) rfl (by decide) k) ?_
            refine Goes.by (T' := T156) (g' := (mkF m 201 #[l0, l1, l2, l3, l4, l5, SI ia, SI ib, SI ib, l9, l10, l11, SD z1, S2, SD z2, S2, SD z3, S2, l18, l19, SI 1, SI 1, SI 1, SA a, SU, SU, SU, SU] [(.ref a)])) (fun _ k => XS.aload X156.here hx rfl (hb hby at_199) rfl rfl k) ?_
            refine Goes.by (T' := T156) (g' := (mkF m 203 #[l0, l1, l2, l3, l4, l5, SI ia, SI ib, SI ib, l9, l10, l11, SD z1, S2, SD z2, S2, SD z3, S2, l18, l19, SI 1, SI 1, SI 1, SA a, SU, SU, SU, SU] [(.int ib), (.ref a)])) (fun _ k => XS.iload X156.here hx rfl (hb hby at_201) rfl k) ?_
            refine Goes.by (T' := T156) (g' := (mkF m 205 #[l0, l1, l2, l3, l4, l5, SI ia, SI ib, SI ib, l9, l10, l11, SD z1, S2, SD z2, S2, SD z3, S2, l18, l19, SI 1, SI 1, SI 1, SA a, SU, SU, SU, SU] [(.double z3), (.int ib), (.ref a)])) (fun _ k => XS.dload X156.here hx rfl (hb hby at_203) rfl k) ?_
            have fv3 : (own_upd (own_upd (fun _ => 0) ka w1.toInt) kb w2.toInt) kb = w2.toInt := by simp [own_upd, nkab, nkab.symm]
            obtain ⟨v157, T157, L157, X157, hQ157, st157⟩ := callV X156 hx hZ (y := (⟨"com/example/gibbon/gibbon/analysis/SparseSum", "add", "(ID)D"⟩ : MethodName)) hown (hw _ (List.mem_of_getElem? (i := 15) rfl)) (hw _ (List.mem_of_getElem? (i := 16) rfl)) (hw _ (List.mem_of_getElem? (i := 18) rfl)) (hw _ (List.mem_of_getElem? (i := 17) rfl)) (hw _ (List.mem_of_getElem? (i := 19) rfl)) (hw _ (List.mem_of_getElem? (i := 2) rfl)) (by decide) e156 EA (argsL := [(.int ib), (.double z3)]) (rest := []) (W := 0) (rm_addU l Z a0 hw a b12 bi (2 : Int32) ib kb z3 w3.toInt (own_upd (own_upd (fun _ => 0) ka w1.toInt) kb w2.toInt) (([] ++ [ka]) ++ [kb]) _ _ T156.heap n0 Z0 EA FS FI FN VS VI hR12 hkb (by omega) D_z3 bw3 (by rw [fv3]; omega) (by simp) ge_a g12 gi na12 n2 nb12) rfl (by decide) (by decide) (by decide) (by decide) (g := (mkF m 205 #[l0, l1, l2, l3, l4, l5, SI ia, SI ib, SI ib, l9, l10, l11, SD z1, S2, SD z2, S2, SD z3, S2, l18, l19, SI 1, SI 1, SI 1, SA a, SU, SU, SU, SU] [(.double z3), (.int ib), (.ref a)])) rfl (by rw [hml]; rfl) (lenOf pd3 rfl) rfl (by show 2 * 0 + _ ≤ _; exact Nat.le_of_eq rfl) (hb hby at_205)
            obtain ⟨rq13, b13, nq13, x13, y13, rfl, -, FS, FI, FN, VS, VI, hR13, hl13, hpr13, g13, na13, nb13, K157, NL157⟩ := hQ157
            have N0 := Fr.app N0 NL157
            have e157 : T157.heap = T157.heap := rfl
            have EA := EA.keep K157
            have Z0 := Nat.le_trans Z0 K157.1
            refine Goes.by (T' := T157) (g' := (mkF m 208 #[l0, l1, l2, l3, l4, l5, SI ia, SI ib, SI ib, l9, l10, l11, SD z1, S2, SD z2, S2, SD z3, S2, l18, l19, SI 1, SI 1, SI 1, SA a, SU, SU, SU, SU] [(.double rq13)])) st157 ?_
            rw [if_neg (by rw [fv3]; omega)] at hR13
            obtain rfl : nq13 = (2 : Int32) := Int32.toInt_inj.mp (by rw [hR13.2.2.2.2.1]; rfl)
            refine Goes.by (T' := T157) (g' := (mkF m 209 #[l0, l1, l2, l3, l4, l5, SI ia, SI ib, SI ib, l9, l10, l11, SD z1, S2, SD z2, S2, SD z3, S2, l18, l19, SI 1, SI 1, SI 1, SA a, SU, SU, SU, SU] [])) (fun _ k => XS.pop2W X157.here hx rfl (hb hby at_208) rfl rfl k) ?_
            refine Goes.by (T' := T157) (g' := (mkF m 210 #[l0, l1, l2, l3, l4, l5, SI ia, SI ib, SI ib, l9, l10, l11, SD z1, S2, SD z2, S2, SD z3, S2, l18, l19, SI 1, SI 1, SI 1, SA a, SU, SU, SU, SU] [(.int (3 : Int32))])) (fun _ k => XS.iconst X157.here hx rfl (hb hby at_209)  k) ?_
            obtain ⟨T158, h158, k158, X158, e158, E158, A158, st158⟩ := newP X157 hx hZ (hw _ (List.mem_of_getElem? (i := 9) rfl)) e157 (g := (mkF m 210 #[l0, l1, l2, l3, l4, l5, SI ia, SI ib, SI ib, l9, l10, l11, SD z1, S2, SD z2, S2, SD z3, S2, l18, l19, SI 1, SI 1, SI 1, SA a, SU, SU, SU, SU] [(.int (3 : Int32))])) rfl (hb hby at_210) rfl (by decide) (cap := 3) (by decide) (by decide) (by decide) (by decide)
            obtain ⟨ea, g158⟩ : ∃ z, z = T157.heap.size := ⟨_, rfl⟩
            rw [← g158] at A158 st158
            have ne_a_ea : a ≠ ea := fun q => Nat.lt_irrefl _ (Nat.lt_of_lt_of_eq EA.lt (g158.symm.trans q.symm))
            have ne_b13_ea : b13 ≠ ea := fun q => Nat.lt_irrefl _ (Nat.lt_of_lt_of_eq VS.lt (g158.symm.trans q.symm))
            have ne_bi_ea : bi ≠ ea := fun q => Nat.lt_irrefl _ (Nat.lt_of_lt_of_eq VI.lt (g158.symm.trans q.symm))
            have ge_ea : n0 ≤ ea := Nat.le_trans Z0 (Nat.le_of_eq g158.symm)
            have EA := EA.ext E158
            have FS := FS.ext E158
            have FI := FI.ext E158
            have FN := FN.ext E158
            have VS := VS.ext E158
            have VI := VI.ext E158
            have Z0 := Nat.le_trans Z0 E158.1
            have V_ea : Sar Z h158 ea .double [(.double (0 : UInt64)), (.double (0 : UInt64)), (.double (0 : UInt64))] := Sar.new (n := 3) A158 (by decide)
            refine Goes.by (T' := T158) (g' := (mkF m 212 #[l0, l1, l2, l3, l4, l5, SI ia, SI ib, SI ib, l9, l10, l11, SD z1, S2, SD z2, S2, SD z3, S2, l18, l19, SI 1, SI 1, SI 1, SA a, SU, SU, SU, SU] [(.ref ea)])) st158 ?_
            refine Goes.by (T' := T158) (g' := (mkF m 214 #[l0, l1, l2, l3, l4, l5, SI ia, SI ib, SI ib, l9, l10, l11, SD z1, S2, SD z2, S2, SD z3, S2, l18, l19, SI 1, SI 1, SI 1, SA a, SA ea, SU, SU, SU] [])) (fun _ k => XS.astore X158.here hx rfl (hb hby at_212) rfl rfl (l' := #[l0, l1, l2, l3, l4, l5, SI ia, SI ib, SI ib, l9, l10, l11, SD z1, S2, SD z2, S2, SD z3, S2, l18, l19, SI 1, SI 1, SI 1, SA a, SA ea, SU, SU, SU]) rfl k) ?_
            refine Goes.by (T' := T158) (g' := (mkF m 215 #[l0, l1, l2, l3, l4, l5, SI ia, SI ib, SI ib, l9, l10, l11, SD z1, S2, SD z2, S2, SD z3, S2, l18, l19, SI 1, SI 1, SI 1, SA a, SA ea, SU, SU, SU] [(.int (0 : Int32))])) (fun _ k => XS.iconst X158.here hx rfl (hb hby at_214)  k) ?_
            refine Goes.by (T' := T158) (g' := (mkF m 217 #[l0, l1, l2, l3, l4, l5, SI ia, SI ib, SI ib, l9, l10, l11, SD z1, S2, SD z2, S2, SD z3, S2, l18, l19, SI 1, SI 1, SI 1, SA a, SA ea, SI 0, SU, SU] [])) (fun _ k => XS.istore X158.here hx rfl (hb hby at_215) rfl (l' := #[l0, l1, l2, l3, l4, l5, SI ia, SI ib, SI ib, l9, l10, l11, SD z1, S2, SD z2, S2, SD z3, S2, l18, l19, SI 1, SI 1, SI 1, SA a, SA ea, SI 0, SU, SU]) rfl k) ?_
            refine Goes.by (T' := T158) (g' := (mkF m 219 #[l0, l1, l2, l3, l4, l5, SI ia, SI ib, SI ib, l9, l10, l11, SD z1, S2, SD z2, S2, SD z3, S2, l18, l19, SI 1, SI 1, SI 1, SA a, SA ea, SI 0, SU, SU] [(.int (1 : Int32))])) (fun _ k => XS.iload X158.here hx rfl (hb hby at_217) rfl k) ?_
            refine Goes.by (T' := T158) (g' := (mkF m 222 #[l0, l1, l2, l3, l4, l5, SI ia, SI ib, SI ib, l9, l10, l11, SD z1, S2, SD z2, S2, SD z3, S2, l18, l19, SI 1, SI 1, SI 1, SA a, SA ea, SI 0, SU, SU] [])) (fun _ k => XS.ifNo X158.here hx rfl (hb hby at_219) rfl (by decide) k) ?_
            refine Goes.by (T' := T158) (g' := (mkF m 224 #[l0, l1, l2, l3, l4, l5, SI ia, SI ib, SI ib, l9, l10, l11, SD z1, S2, SD z2, S2, SD z3, S2, l18, l19, SI 1, SI 1, SI 1, SA a, SA ea, SI 0, SU, SU] [(.double z1)])) (fun _ k => XS.dload X158.here hx rfl (hb hby at_222) rfl k) ?_
            refine Goes.by (T' := T158) (g' := (mkF m 226 #[l0, l1, l2, l3, l4, l5, SI ia, SI ib, SI ib, l9, l10, l11, SD z1, S2, SD z2, S2, SD z3, S2, l18, l19, SI 1, SI 1, SI 1, SA a, SA ea, SI 0, SD z1, S2] [])) (fun _ k => XS.dstore X158.here hx rfl (hb hby at_224) rfl (l' := #[l0, l1, l2, l3, l4, l5, SI ia, SI ib, SI ib, l9, l10, l11, SD z1, S2, SD z2, S2, SD z3, S2, l18, l19, SI 1, SI 1, SI 1, SA a, SA ea, SI 0, SD z1, S2]) rfl k) ?_
            refine Goes.by (T' := T158) (g' := (mkF m 228 #[l0, l1, l2, l3, l4, l5, SI ia, SI ib, SI ib, l9, l10, l11, SD z1, S2, SD z2, S2, SD z3, S2, l18, l19, SI 1, SI 1, SI 1, SA a, SA ea, SI 0, SD z1, S2] [(.int (1 : Int32))])) (fun _ k => XS.iload X158.here hx rfl (hb hby at_226) rfl k) ?_
            refine Goes.by (T' := T158) (g' := (mkF m 231 #[l0, l1, l2, l3, l4, l5, SI ia, SI ib, SI ib, l9, l10, l11, SD z1, S2, SD z2, S2, SD z3, S2, l18, l19, SI 1, SI 1, SI 1, SA a, SA ea, SI 0, SD z1, S2] [])) (fun _ k => XS.ifNo X158.here hx rfl (hb hby at_228) rfl (by decide) k) ?_
            refine Goes.by (T' := T158) (g' := (mkF m 233 #[l0, l1, l2, l3, l4, l5, SI ia, SI ib, SI ib, l9, l10, l11, SD z1, S2, SD z2, S2, SD z3, S2, l18, l19, SI 1, SI 1, SI 1, SA a, SA ea, SI 0, SD z1, S2] [(.int ib)])) (fun _ k => XS.iload X158.here hx rfl (hb hby at_231) rfl k) ?_
            refine Goes.by (T' := T158) (g' := (mkF m 235 #[l0, l1, l2, l3, l4, l5, SI ia, SI ib, SI ib, l9, l10, l11, SD z1, S2, SD z2, S2, SD z3, S2, l18, l19, SI 1, SI 1, SI 1, SA a, SA ea, SI 0, SD z1, S2] [(.int ia), (.int ib)])) (fun _ k => XS.iload X158.here hx rfl (hb hby at_233) rfl k) ?_
            refine Goes.by (T' := T158) (g' := (mkF m 245 #[l0, l1, l2, l3, l4, l5, SI ia, SI ib, SI ib, l9, l10, l11, SD z1, S2, SD z2, S2, SD z3, S2, l18, l19, SI 1, SI 1, SI 1, SA a, SA ea, SI 0, SD z1, S2] [])) (fun _ k => XS.icmpYes X158.here hx rfl (pc0 := 235) (pc' := 245) rfl (hb hby at_235) rfl (feq (fun q => hab q.symm)).2 (by decide) (by decide) k) ?_
            refine Goes.by (T' := T158) (g' := (mkF m 247 #[l0, l1, l2, l3, l4, l5, SI ia, SI ib, SI ib, l9, l10, l11, SD z1, S2, SD z2, S2, SD z3, S2, l18, l19, SI 1, SI 1, SI 1, SA a, SA ea, SI 0, SD z1, S2] [(.int (1 : Int32))])) (fun _ k => XS.iload X158.here hx rfl (hb hby at_245) rfl k) ?_
            refine Goes.by (T' := T158) (g' := (mkF m 250 #[l0, l1, l2, l3, l4, l5, SI ia, SI ib, SI ib, l9, l10, l11, SD z1, S2, SD z2, S2, SD z3, S2, l18, l19, SI 1, SI 1, SI 1, SA a, SA ea, SI 0, SD z1, S2] [])) (fun _ k => XS.ifNo X158.here hx rfl (hb hby at_247) rfl (by decide) k) ?_
            refine Goes.by (T' := T158) (g' := (mkF m 252 #[l0, l1, l2, l3, l4, l5, SI ia, SI ib, SI ib, l9, l10, l11, SD z1, S2, SD z2, S2, SD z3, S2, l18, l19, SI 1, SI 1, SI 1, SA a, SA ea, SI 0, SD z1, S2] [(.int ib)])) (fun _ k => XS.iload X158.here hx rfl (hb hby at_250) rfl k) ?_
            refine Goes.by (T' := T158) (g' := (mkF m 254 #[l0, l1, l2, l3, l4, l5, SI ia, SI ib, SI ib, l9, l10, l11, SD z1, S2, SD z2, S2, SD z3, S2, l18, l19, SI 1, SI 1, SI 1, SA a, SA ea, SI 0, SD z1, S2] [(.int ia), (.int ib)])) (fun _ k => XS.iload X158.here hx rfl (hb hby at_252) rfl k) ?_
            refine Goes.by (T' := T158) (g' := (mkF m 264 #[l0, l1, l2, l3, l4, l5, SI ia, SI ib, SI ib, l9, l10, l11, SD z1, S2, SD z2, S2, SD z3, S2, l18, l19, SI 1, SI 1, SI 1, SA a, SA ea, SI 0, SD z1, S2] [])) (fun _ k => XS.icmpYes X158.here hx rfl (pc0 := 254) (pc' := 264) rfl (hb hby at_254) rfl (feq (fun q => hab q.symm)).2 (by decide) (by decide) k) ?_
            refine Goes.by (T' := T158) (g' := (mkF m 266 #[l0, l1, l2, l3, l4, l5, SI ia, SI ib, SI ib, l9, l10, l11, SD z1, S2, SD z2, S2, SD z3, S2, l18, l19, SI 1, SI 1, SI 1, SA a, SA ea, SI 0, SD z1, S2] [(.ref ea)])) (fun _ k => XS.aload X158.here hx rfl (hb hby at_264) rfl rfl k) ?_
            refine Goes.by (T' := T158) (g' := (mkF m 268 #[l0, l1, l2, l3, l4, l5, SI ia, SI ib, SI ib, l9, l10, l11, SD z1, S2, SD z2, S2, SD z3, S2, l18, l19, SI 1, SI 1, SI 1, SA a, SA ea, SI 0, SD z1, S2] [(.int (0 : Int32)), (.ref ea)])) (fun _ k => XS.iload X158.here hx rfl (hb hby at_266) rfl k) ?_
            refine Goes.by (T' := T158) (g' := (mkF m 270 #[l0, l1, l2, l3, l4, l5, SI ia, SI ib, SI ib, l9, l10, l11, SD z1, S2, SD z2, S2, SD z3, S2, l18, l19, SI 1, SI 1, SI 1, SA a, SA ea, SI 0, SD z1, S2] [(.double z1), (.int (0 : Int32)), (.ref ea)])) (fun _ k => XS.dload X158.here hx rfl (hb hby at_268) rfl k) ?_
            obtain ⟨T159, h159, X159, e159, W159, V159, st159⟩ := stDS X158 hx hZ e158 V_ea (j := (0 : Int32)) 0 (by decide) (by show 0 < 3; decide) (g := (mkF m 270 #[l0, l1, l2, l3, l4, l5, SI ia, SI ib, SI ib, l9, l10, l11, SD z1, S2, SD z2, S2, SD z3, S2, l18, l19, SI 1, SI 1, SI 1, SA a, SA ea, SI 0, SD z1, S2] [(.double z1), (.int (0 : Int32)), (.ref ea)])) rfl rfl (hb hby at_270)
            have N0 := Fr.snoc X159 N0 ge_ea
            have EA := EA.wr W159
            have FS := FS.other W159 (Or.inl ne_a_ea)
            have FI := FI.other W159 (Or.inl ne_a_ea)
            have FN := FN.other W159 (Or.inl ne_a_ea)
            have VS := VS.other W159 ne_b13_ea
            have VI := VI.other W159 ne_bi_ea
            have Z0 := Nat.le_trans Z0 (Nat.le_of_eq W159.size.symm)
            have V_ea : Sar Z h159 ea .double [(.double z1), (.double (0 : UInt64)), (.double (0 : UInt64))] := V159
            refine Goes.by (T' := T159) (g' := (mkF m 271 #[l0, l1, l2, l3, l4, l5, SI ia, SI ib, SI ib, l9, l10, l11, SD z1, S2, SD z2, S2, SD z3, S2, l18, l19, SI 1, SI 1, SI 1, SA a, SA ea, SI 0, SD z1, S2] [])) st159 ?_
            refine Goes.by (T' := T159) (g' := (mkF m 273 #[l0, l1, l2, l3, l4, l5, SI ia, SI ib, SI ib, l9, l10, l11, SD z1, S2, SD z2, S2, SD z3, S2, l18, l19, SI 1, SI 1, SI 1, SA a, SA ea, SI 0, SD z1, S2] [(.int (0 : Int32))])) (fun _ k => XS.iload X159.here hx rfl (hb hby at_271) rfl k) ?_
            refine Goes.by (T' := T159) (g' := (mkF m 274 #[l0, l1, l2, l3, l4, l5, SI ia, SI ib, SI ib, l9, l10, l11, SD z1, S2, SD z2, S2, SD z3, S2, l18, l19, SI 1, SI 1, SI 1, SA a, SA ea, SI 0, SD z1, S2] [(.int (1 : Int32)), (.int (0 : Int32))])) (fun _ k => XS.iconst X159.here hx rfl (hb hby at_273)  k) ?_
            refine Goes.by (T' := T159) (g' := (mkF m 275 #[l0, l1, l2, l3, l4, l5, SI ia, SI ib, SI ib, l9, l10, l11, SD z1, S2, SD z2, S2, SD z3, S2, l18, l19, SI 1, SI 1, SI 1, SA a, SA ea, SI 0, SD z1, S2] [(.int (1 : Int32))])) (fun _ k => XS.iadd X159.here hx rfl (hb hby at_274) rfl k) ?_
            refine Goes.by (T' := T159) (g' := (mkF m 277 #[l0, l1, l2, l3, l4, l5, SI ia, SI ib, SI ib, l9, l10, l11, SD z1, S2, SD z2, S2, SD z3, S2, l18, l19, SI 1, SI 1, SI 1, SA a, SA ea, SI 1, SD z1, S2] [])) (fun _ k => XS.istore X159.here hx rfl (hb hby at_275) rfl (l' := #[l0, l1, l2, l3, l4, l5, SI ia, SI ib, SI ib, l9, l10, l11, SD z1, S2, SD z2, S2, SD z3, S2, l18, l19, SI 1, SI 1, SI 1, SA a, SA ea, SI 1, SD z1, S2]) rfl k) ?_
            refine Goes.by (T' := T159) (g' := (mkF m 279 #[l0, l1, l2, l3, l4, l5, SI ia, SI ib, SI ib, l9, l10, l11, SD z1, S2, SD z2, S2, SD z3, S2, l18, l19, SI 1, SI 1, SI 1, SA a, SA ea, SI 1, SD z1, S2] [(.int (1 : Int32))])) (fun _ k => XS.iload X159.here hx rfl (hb hby at_277) rfl k) ?_
            refine Goes.by (T' := T159) (g' := (mkF m 282 #[l0, l1, l2, l3, l4, l5, SI ia, SI ib, SI ib, l9, l10, l11, SD z1, S2, SD z2, S2, SD z3, S2, l18, l19, SI 1, SI 1, SI 1, SA a, SA ea, SI 1, SD z1, S2] [])) (fun _ k => XS.ifNo X159.here hx rfl (hb hby at_279) rfl (by decide) k) ?_
            refine Goes.by (T' := T159) (g' := (mkF m 284 #[l0, l1, l2, l3, l4, l5, SI ia, SI ib, SI ib, l9, l10, l11, SD z1, S2, SD z2, S2, SD z3, S2, l18, l19, SI 1, SI 1, SI 1, SA a, SA ea, SI 1, SD z1, S2] [(.int ib)])) (fun _ k => XS.iload X159.here hx rfl (hb hby at_282) rfl k) ?_
            refine Goes.by (T' := T159) (g' := (mkF m 286 #[l0, l1, l2, l3, l4, l5, SI ia, SI ib, SI ib, l9, l10, l11, SD z1, S2, SD z2, S2, SD z3, S2, l18, l19, SI 1, SI 1, SI 1, SA a, SA ea, SI 1, SD z1, S2] [(.int ia), (.int ib)])) (fun _ k => XS.iload X159.here hx rfl (hb hby at_284) rfl k) ?_
            refine Goes.by (T' := T159) (g' := (mkF m 289 #[l0, l1, l2, l3, l4, l5, SI ia, SI ib, SI ib, l9, l10, l11, SD z1, S2, SD z2, S2, SD z3, S2, l18, l19, SI 1, SI 1, SI 1, SA a, SA ea, SI 1, SD z1, S2] [])) (fun _ k => XS.icmpNo X159.here hx rfl (hb hby at_286) rfl (feq (fun q => hab q.symm)).1 k) ?_
            refine Goes.by (T' := T159) (g' := (mkF m 291 #[l0, l1, l2, l3, l4, l5, SI ia, SI ib, SI ib, l9, l10, l11, SD z1, S2, SD z2, S2, SD z3, S2, l18, l19, SI 1, SI 1, SI 1, SA a, SA ea, SI 1, SD z1, S2] [(.double z2)])) (fun _ k => XS.dload X159.here hx rfl (hb hby at_289) rfl k) ?_
            refine Goes.by (T' := T159) (g' := (mkF m 293 #[l0, l1, l2, l3, l4, l5, SI ia, SI ib, SI ib, l9, l10, l11, SD z1, S2, SD z2, S2, SD z3, S2, l18, l19, SI 1, SI 1, SI 1, SA a, SA ea, SI 1, SD z2, S2] [])) (fun _ k => XS.dstore X159.here hx rfl (hb hby at_291) rfl (l' := #[l0, l1, l2, l3, l4, l5, SI ia, SI ib, SI ib, l9, l10, l11, SD z1, S2, SD z2, S2, SD z3, S2, l18, l19, SI 1, SI 1, SI 1, SA a, SA ea, SI 1, SD z2, S2]) rfl k) ?_
            refine Goes.by (T' := T159) (g' := (mkF m 295 #[l0, l1, l2, l3, l4, l5, SI ia, SI ib, SI ib, l9, l10, l11, SD z1, S2, SD z2, S2, SD z3, S2, l18, l19, SI 1, SI 1, SI 1, SA a, SA ea, SI 1, SD z2, S2] [(.int (1 : Int32))])) (fun _ k => XS.iload X159.here hx rfl (hb hby at_293) rfl k) ?_
            refine Goes.by (T' := T159) (g' := (mkF m 298 #[l0, l1, l2, l3, l4, l5, SI ia, SI ib, SI ib, l9, l10, l11, SD z1, S2, SD z2, S2, SD z3, S2, l18, l19, SI 1, SI 1, SI 1, SA a, SA ea, SI 1, SD z2, S2] [])) (fun _ k => XS.ifNo X159.here hx rfl (hb hby at_295) rfl (by decide) k) ?_
            refine Goes.by (T' := T159) (g' := (mkF m 300 #[l0, l1, l2, l3, l4, l5, SI ia, SI ib, SI ib, l9, l10, l11, SD z1, S2, SD z2, S2, SD z3, S2, l18, l19, SI 1, SI 1, SI 1, SA a, SA ea, SI 1, SD z2, S2] [(.int ib)])) (fun _ k => XS.iload X159.here hx rfl (hb hby at_298) rfl k) ?_
            refine Goes.by (T' := T159) (g' := (mkF m 302 #[l0, l1, l2, l3, l4, l5, SI ia, SI ib, SI ib, l9, l10, l11, SD z1, S2, SD z2, S2, SD z3, S2, l18, l19, SI 1, SI 1, SI 1, SA a, SA ea, SI 1, SD z2, S2] [(.int ib), (.int ib)])) (fun _ k => XS.iload X159.here hx rfl (hb hby at_300) rfl k) ?_
            refine Goes.by (T' := T159) (g' := (mkF m 305 #[l0, l1, l2, l3, l4, l5, SI ia, SI ib, SI ib, l9, l10, l11, SD z1, S2, SD z2, S2, SD z3, S2, l18, l19, SI 1, SI 1, SI 1, SA a, SA ea, SI 1, SD z2, S2] [])) (fun _ k => XS.icmpNo X159.here hx rfl (hb hby at_302) rfl (teq rfl).2 k) ?_
            refine Goes.by (T' := T159) (g' := (mkF m 307 #[l0, l1, l2, l3, l4, l5, SI ia, SI ib, SI ib, l9, l10, l11, SD z1, S2, SD z2, S2, SD z3, S2, l18, l19, SI 1, SI 1, SI 1, SA a, SA ea, SI 1, SD z2, S2] [(.double z2)])) (fun _ k => XS.dload X159.here hx rfl (hb hby at_305) rfl k) ?_
            refine Goes.by (T' := T159) (g' := (mkF m 309 #[l0, l1, l2, l3, l4, l5, SI ia, SI ib, SI ib, l9, l10, l11, SD z1, S2, SD z2, S2, SD z3, S2, l18, l19, SI 1, SI 1, SI 1, SA a, SA ea, SI 1, SD z2, S2] [(.double z3), (.double z2)])) (fun _ k => XS.dload X159.here hx rfl (hb hby at_307) rfl k) ?_
            obtain ⟨t1, q_t1⟩ : ∃ zz, FP.dadd z2 z3 = zz := ⟨_, rfl⟩
            have D_t1 : Core.DInt (w2.toInt + w3.toInt) t1 := DInt_add q_t1 D_z2 D_z3 (by omega)
            refine Goes.by (T' := T159) (g' := (mkF m 310 #[l0, l1, l2, l3, l4, l5, SI ia, SI ib, SI ib, l9, l10, l11, SD z1, S2, SD z2, S2, SD z3, S2, l18, l19, SI 1, SI 1, SI 1, SA a, SA ea, SI 1, SD z2, S2] [(.double t1)])) (fun _ k => XS.daddS X159.here hx rfl (hb hby at_309) rfl (by rw [q_t1]; exact DInt_nn D_t1) q_t1 k) ?_
            refine Goes.by (T' := T159) (g' := (mkF m 312 #[l0, l1, l2, l3, l4, l5, SI ia, SI ib, SI ib, l9, l10, l11, SD z1, S2, SD z2, S2, SD z3, S2, l18, l19, SI 1, SI 1, SI 1, SA a, SA ea, SI 1, SD t1, S2] [])) (fun _ k => XS.dstore X159.here hx rfl (hb hby at_310) rfl (l' := #[l0, l1, l2, l3, l4, l5, SI ia, SI ib, SI ib, l9, l10, l11, SD z1, S2, SD z2, S2, SD z3, S2, l18, l19, SI 1, SI 1, SI 1, SA a, SA ea, SI 1, SD t1, S2]) rfl k) ?_
            refine Goes.by (T' := T159) (g' := (mkF m 314 #[l0, l1, l2, l3, l4, l5, SI ia, SI ib, SI ib, l9, l10, l11, SD z1, S2, SD z2, S2, SD z3, S2, l18, l19, SI 1, SI 1, SI 1, SA a, SA ea, SI 1, SD t1, S2] [(.ref ea)])) (fun _ k => XS.aload X159.here hx rfl (hb hby at_312) rfl rfl k) ?_
            refine Goes.by (T' := T159) (g' := (mkF m 316 #[l0, l1, l2, l3, l4, l5, SI ia, SI ib, SI ib, l9, l10, l11, SD z1, S2, SD z2, S2, SD z3, S2, l18, l19, SI 1, SI 1, SI 1, SA a, SA ea, SI 1, SD t1, S2] [(.int (1 : Int32)), (.ref ea)])) (fun _ k => XS.iload X159.here hx rfl (hb hby at_314) rfl k) ?_
            refine Goes.by (T' := T159) (g' := (mkF m 318 #[l0, l1, l2, l3, l4, l5, SI ia, SI ib, SI ib, l9, l10, l11, SD z1, S2, SD z2, S2, SD z3, S2, l18, l19, SI 1, SI 1, SI 1, SA a, SA ea, SI 1, SD t1, S2] [(.double t1), (.int (1 : Int32)), (.ref ea)])) (fun _ k => XS.dload X159.here hx rfl (hb hby at_316) rfl k) ?_
            obtain ⟨T160, h160, X160, e160, W160, V160, st160⟩ := stDS X159 hx hZ e159 V_ea (j := (1 : Int32)) 1 (by decide) (by show 1 < 3; decide) (g := (mkF m 318 #[l0, l1, l2, l3, l4, l5, SI ia, SI ib, SI ib, l9, l10, l11, SD z1, S2, SD z2, S2, SD z3, S2, l18, l19, SI 1, SI 1, SI 1, SA a, SA ea, SI 1, SD t1, S2] [(.double t1), (.int (1 : Int32)), (.ref ea)])) rfl rfl (hb hby at_318)
            have N0 := Fr.snoc X160 N0 ge_ea
            have EA := EA.wr W160
            have FS := FS.other W160 (Or.inl ne_a_ea)
            have FI := FI.other W160 (Or.inl ne_a_ea)
            have FN := FN.other W160 (Or.inl ne_a_ea)
            have VS := VS.other W160 ne_b13_ea
            have VI := VI.other W160 ne_bi_ea
            have Z0 := Nat.le_trans Z0 (Nat.le_of_eq W160.size.symm)
            have V_ea : Sar Z h160 ea .double [(.double z1), (.double t1), (.double (0 : UInt64))] := V160
            refine Goes.by (T' := T160) (g' := (mkF m 319 #[l0, l1, l2, l3, l4, l5, SI ia, SI ib, SI ib, l9, l10, l11, SD z1, S2, SD z2, S2, SD z3, S2, l18, l19, SI 1, SI 1, SI 1, SA a, SA ea, SI 1, SD t1, S2] [])) st160 ?_
            refine Goes.by (T' := T160) (g' := (mkF m 321 #[l0, l1, l2, l3, l4, l5, SI ia, SI ib, SI ib, l9, l10, l11, SD z1, S2, SD z2, S2, SD z3, S2, l18, l19, SI 1, SI 1, SI 1, SA a, SA ea, SI 1, SD t1, S2] [(.int (1 : Int32))])) (fun _ k => XS.iload X160.here hx rfl (hb hby at_319) rfl k) ?_
            refine Goes.by (T' := T160) (g' := (mkF m 322 #[l0, l1, l2, l3, l4, l5, SI ia, SI ib, SI ib, l9, l10, l11, SD z1, S2, SD z2, S2, SD z3, S2, l18, l19, SI 1, SI 1, SI 1, SA a, SA ea, SI 1, SD t1, S2] [(.int (1 : Int32)), (.int (1 : Int32))])) (fun _ k => XS.iconst X160.here hx rfl (hb hby at_321)  k) ?_
            refine Goes.by (T' := T160) (g' := (mkF m 323 #[l0, l1, l2, l3, l4, l5, SI ia, SI ib, SI ib, l9, l10, l11, SD z1, S2, SD z2, S2, SD z3, S2, l18, l19, SI 1, SI 1, SI 1, SA a, SA ea, SI 1, SD t1, S2] [(.int (2 : Int32))])) (fun _ k => XS.iadd X160.here hx rfl (hb hby at_322) rfl k) ?_
            refine Goes.by (T' := T160) (g' := (mkF m 325 #[l0, l1, l2, l3, l4, l5, SI ia, SI ib, SI ib, l9, l10, l11, SD z1, S2, SD z2, S2, SD z3, S2, l18, l19, SI 1, SI 1, SI 1, SA a, SA ea, SI 2, SD t1, S2] [])) (fun _ k => XS.istore X160.here hx rfl (hb hby at_323) rfl (l' := #[l0, l1, l2, l3, l4, l5, SI ia, SI ib, SI ib, l9, l10, l11, SD z1, S2, SD z2, S2, SD z3, S2, l18, l19, SI 1, SI 1, SI 1, SA a, SA ea, SI 2, SD t1, S2]) rfl k) ?_
            refine Goes.by (T' := T160) (g' := (mkF m 327 #[l0, l1, l2, l3, l4, l5, SI ia, SI ib, SI ib, l9, l10, l11, SD z1, S2, SD z2, S2, SD z3, S2, l18, l19, SI 1, SI 1, SI 1, SA a, SA ea, SI 2, SD t1, S2] [(.int (1 : Int32))])) (fun _ k => XS.iload X160.here hx rfl (hb hby at_325) rfl k) ?_
            refine Goes.by (T' := T160) (g' := (mkF m 330 #[l0, l1, l2, l3, l4, l5, SI ia, SI ib, SI ib, l9, l10, l11, SD z1, S2, SD z2, S2, SD z3, S2, l18, l19, SI 1, SI 1, SI 1, SA a, SA ea, SI 2, SD t1, S2] [])) (fun _ k => XS.ifNo X160.here hx rfl (hb hby at_327) rfl (by decide) k) ?_
            refine Goes.by (T' := T160) (g' := (mkF m 332 #[l0, l1, l2, l3, l4, l5, SI ia, SI ib, SI ib, l9, l10, l11, SD z1, S2, SD z2, S2, SD z3, S2, l18, l19, SI 1, SI 1, SI 1, SA a, SA ea, SI 2, SD t1, S2] [(.int ib)])) (fun _ k => XS.iload X160.here hx rfl (hb hby at_330) rfl k) ?_
            refine Goes.by (T' := T160) (g' := (mkF m 334 #[l0, l1, l2, l3, l4, l5, SI ia, SI ib, SI ib, l9, l10, l11, SD z1, S2, SD z2, S2, SD z3, S2, l18, l19, SI 1, SI 1, SI 1, SA a, SA ea, SI 2, SD t1, S2] [(.int ia), (.int ib)])) (fun _ k => XS.iload X160.here hx rfl (hb hby at_332) rfl k) ?_
            refine Goes.by (T' := T160) (g' := (mkF m 337 #[l0, l1, l2, l3, l4, l5, SI ia, SI ib, SI ib, l9, l10, l11, SD z1, S2, SD z2, S2, SD z3, S2, l18, l19, SI 1, SI 1, SI 1, SA a, SA ea, SI 2, SD t1, S2] [])) (fun _ k => XS.icmpNo X160.here hx rfl (hb hby at_334) rfl (feq (fun q => hab q.symm)).1 k) ?_
            refine Goes.by (T' := T160) (g' := (mkF m 339 #[l0, l1, l2, l3, l4, l5, SI ia, SI ib, SI ib, l9, l10, l11, SD z1, S2, SD z2, S2, SD z3, S2, l18, l19, SI 1, SI 1, SI 1, SA a, SA ea, SI 2, SD t1, S2] [(.int ib)])) (fun _ k => XS.iload X160.here hx rfl (hb hby at_337) rfl k) ?_
            refine Goes.by (T' := T160) (g' := (mkF m 341 #[l0, l1, l2, l3, l4, l5, SI ia, SI ib, SI ib, l9, l10, l11, SD z1, S2, SD z2, S2, SD z3, S2, l18, l19, SI 1, SI 1, SI 1, SA a, SA ea, SI 2, SD t1, S2] [(.int ib), (.int ib)])) (fun _ k => XS.iload X160.here hx rfl (hb hby at_339) rfl k) ?_
            refine Goes.by (T' := T160) (g' := (mkF m 357 #[l0, l1, l2, l3, l4, l5, SI ia, SI ib, SI ib, l9, l10, l11, SD z1, S2, SD z2, S2, SD z3, S2, l18, l19, SI 1, SI 1, SI 1, SA a, SA ea, SI 2, SD t1, S2] [])) (fun _ k => XS.icmpYes X160.here hx rfl (pc0 := 341) (pc' := 357) rfl (hb hby at_341) rfl (teq rfl).1 (by decide) (by decide) k) ?_
            refine Goes.by (T' := T160) (g' := (mkF m 359 #[l0, l1, l2, l3, l4, l5, SI ia, SI ib, SI ib, l9, l10, l11, SD z1, S2, SD z2, S2, SD z3, S2, l18, l19, SI 1, SI 1, SI 1, SA a, SA ea, SI 2, SD t1, S2] [(.ref a)])) (fun _ k => XS.aload X160.here hx rfl (hb hby at_357) rfl rfl k) ?_
            obtain ⟨hq0, v0, hy0, hv0⟩ := hR13.2.2.2.2.2.2 0 ka (by simp)
            obtain ⟨d0, hx0, Dd0⟩ := hR13.2.1 ka hq0
            have fe0 : (own_upd (own_upd (own_upd (fun _ => 0) ka w1.toInt) kb w2.toInt) kb w3.toInt) ka = w1.toInt := by simp [own_upd, nkab, nkab.symm]
            rw [fe0] at Dd0
            obtain ⟨hq1, v1, hy1, hv1⟩ := hR13.2.2.2.2.2.2 1 kb (by simp)
            obtain ⟨d1, hx1, Dd1⟩ := hR13.2.1 kb hq1
            have fe1 : (own_upd (own_upd (own_upd (fun _ => 0) ka w1.toInt) kb w2.toInt) kb w3.toInt) kb = w2.toInt + w3.toInt := by simp [own_upd, nkab, nkab.symm]
            rw [fe1] at Dd1
            exact cmp2 a b13 bi ea _ _ _ _ _ v0 ka d0 w1.toInt v1 kb d1 (w2.toInt + w3.toInt) _ _ _ _ _ _ _ _ _ _ _ _ _ _ _ _ _ _ _ _ _ _ _ _ _ _ _ (X160.wide (fun x hx _ => hx) (by decide) (by decide)) e160 N0 Z0 EA FS FI FN VS VI V_ea ge_a g13 gi ge_ea na13 nb13 n2 ne_a_ea ne_b13_ea ne_bi_ea hy0 hv0 hx0 Dd0 D_z1 hy1 hv1 hx1 Dd1 D_t1
          · have nkbc : kb ≠ kc := fun q => hbc (Int32.toInt_inj.mp (by rw [hkb, hkc, q]))
            refine Goes.by (T' := Tj137) (g' := (mkF m 166 #[l0, l1, l2, l3, l4, l5, SI ia, SI ib, SI ic, l9, l10, l11, SD z1, S2, SD z2, S2, SD z3, S2, l18, l19, SI 1, SI 1, SI 1, SA a, SU, SU, SU, SU] [(.int (1 : Int32))])) (fun _ k => XS.iload Xj137.here hx rfl (hb hby at_164) rfl k) ?_
            refine Goes.by (T' := Tj137) (g' := (mkF m 169 #[l0, l1, l2, l3, l4, l5, SI ia, SI ib, SI ic, l9, l10, l11, SD z1, S2, SD z2, S2, SD z3, S2, l18, l19, SI 1, SI 1, SI 1, SA a, SU, SU, SU, SU] [])) (fun _ k => XS.ifNo Xj137.here hx rfl (hb hby at_166) rfl (by decide) k) ?_
            refine Goes.by (T' := Tj137) (g' := (mkF m 171 #[l0, l1, l2, l3, l4, l5, SI ia, SI ib, SI ic, l9, l10, l11, SD z1, S2, SD z2, S2, SD z3, S2, l18, l19, SI 1, SI 1, SI 1, SA a, SU, SU, SU, SU] [(.ref a)])) (fun _ k => XS.aload Xj137.here hx rfl (hb hby at_169) rfl rfl k) ?_
            refine Goes.by (T' := Tj137) (g' := (mkF m 173 #[l0, l1, l2, l3, l4, l5, SI ia, SI ib, SI ic, l9, l10, l11, SD z1, S2, SD z2, S2, SD z3, S2, l18, l19, SI 1, SI 1, SI 1, SA a, SU, SU, SU, SU] [(.int ia), (.ref a)])) (fun _ k => XS.iload Xj137.here hx rfl (hb hby at_171) rfl k) ?_
            refine Goes.by (T' := Tj137) (g' := (mkF m 175 #[l0, l1, l2, l3, l4, l5, SI ia, SI ib, SI ic, l9, l10, l11, SD z1, S2, SD z2, S2, SD z3, S2, l18, l19, SI 1, SI 1, SI 1, SA a, SU, SU, SU, SU] [(.double z1), (.int ia), (.ref a)])) (fun _ k => XS.dload Xj137.here hx rfl (hb hby at_173) rfl k) ?_
            obtain ⟨v161, T161, L161, X161, hQ161, st161⟩ := callV Xj137 hx hZ (y := (⟨"com/example/gibbon/gibbon/analysis/SparseSum", "add", "(ID)D"⟩ : MethodName)) hown (hw _ (List.mem_of_getElem? (i := 15) rfl)) (hw _ (List.mem_of_getElem? (i := 16) rfl)) (hw _ (List.mem_of_getElem? (i := 18) rfl)) (hw _ (List.mem_of_getElem? (i := 17) rfl)) (hw _ (List.mem_of_getElem? (i := 19) rfl)) (hw _ (List.mem_of_getElem? (i := 2) rfl)) (by decide) ej137 EA (argsL := [(.int ia), (.double z1)]) (rest := []) (W := 0) (rm_addU l Z a0 hw a br bi (0 : Int32) ia ka z1 w1.toInt (fun _ => 0) [] _ _ hj137 n0 Z0 EA FS FI FN VS VI hR hka (by omega) D_z1 bw1 (by decide) (by simp) ge_a gr gi n4 n2 n5) rfl (by decide) (by decide) (by decide) (by decide) (g := (mkF m 175 #[l0, l1, l2, l3, l4, l5, SI ia, SI ib, SI ic, l9, l10, l11, SD z1, S2, SD z2, S2, SD z3, S2, l18, l19, SI 1, SI 1, SI 1, SA a, SU, SU, SU, SU] [(.double z1), (.int ia), (.ref a)])) rfl (by rw [hml]; rfl) (lenOf pd3 rfl) rfl (by show 2 * 0 + _ ≤ _; exact Nat.le_of_eq rfl) (hb hby at_175)
            obtain ⟨rq11, b11, nq11, x11, y11, rfl, -, FS, FI, FN, VS, VI, hR11, hl11, hpr11, g11, na11, nb11, K161, NL161⟩ := hQ161
            have N0 := Fr.app N0 NL161
            have e161 : T161.heap = T161.heap := rfl
            have EA := EA.keep K161
            have Z0 := Nat.le_trans Z0 K161.1
            refine Goes.by (T' := T161) (g' := (mkF m 178 #[l0, l1, l2, l3, l4, l5, SI ia, SI ib, SI ic, l9, l10, l11, SD z1, S2, SD z2, S2, SD z3, S2, l18, l19, SI 1, SI 1, SI 1, SA a, SU, SU, SU, SU] [(.double rq11)])) st161 ?_
            rw [if_pos rfl] at hR11
            obtain rfl : nq11 = (1 : Int32) := Int32.toInt_inj.mp (by rw [hR11.2.2.2.2.1]; rfl)
            refine Goes.by (T' := T161) (g' := (mkF m 179 #[l0, l1, l2, l3, l4, l5, SI ia, SI ib, SI ic, l9, l10, l11, SD z1, S2, SD z2, S2, SD z3, S2, l18, l19, SI 1, SI 1, SI 1, SA a, SU, SU, SU, SU] [])) (fun _ k => XS.pop2W X161.here hx rfl (hb hby at_178) rfl rfl k) ?_
            refine Goes.by (T' := T161) (g' := (mkF m 181 #[l0, l1, l2, l3, l4, l5, SI ia, SI ib, SI ic, l9, l10, l11, SD z1, S2, SD z2, S2, SD z3, S2, l18, l19, SI 1, SI 1, SI 1, SA a, SU, SU, SU, SU] [(.int (1 : Int32))])) (fun _ k => XS.iload X161.here hx rfl (hb hby at_179) rfl k) ?_
            refine Goes.by (T' := T161) (g' := (mkF m 184 #[l0, l1, l2, l3, l4, l5, SI ia, SI ib, SI ic, l9, l10, l11, SD z1, S2, SD z2, S2, SD z3, S2, l18, l19, SI 1, SI 1, SI 1, SA a, SU, SU, SU, SU] [])) (fun _ k => XS.ifNo X161.here hx rfl (hb hby at_181) rfl (by decide) k) ?_
            refine Goes.by (T' := T161) (g' := (mkF m 186 #[l0, l1, l2, l3, l4, l5, SI ia, SI ib, SI ic, l9, l10, l11, SD z1, S2, SD z2, S2, SD z3, S2, l18, l19, SI 1, SI 1, SI 1, SA a, SU, SU, SU, SU] [(.ref a)])) (fun _ k => XS.aload X161.here hx rfl (hb hby at_184) rfl rfl k) ?_
            refine Goes.by (T' := T161) (g' := (mkF m 188 #[l0, l1, l2, l3, l4, l5, SI ia, SI ib, SI ic, l9, l10, l11, SD z1, S2, SD z2, S2, SD z3, S2, l18, l19, SI 1, SI 1, SI 1, SA a, SU, SU, SU, SU] [(.int ib), (.ref a)])) (fun _ k => XS.iload X161.here hx rfl (hb hby at_186) rfl k) ?_
            refine Goes.by (T' := T161) (g' := (mkF m 190 #[l0, l1, l2, l3, l4, l5, SI ia, SI ib, SI ic, l9, l10, l11, SD z1, S2, SD z2, S2, SD z3, S2, l18, l19, SI 1, SI 1, SI 1, SA a, SU, SU, SU, SU] [(.double z2), (.int ib), (.ref a)])) (fun _ k => XS.dload X161.here hx rfl (hb hby at_188) rfl k) ?_
            have fv2 : (own_upd (fun _ => 0) ka w1.toInt) kb = 0 := by simp [own_upd, nkab, nkab.symm, nkac, nkac.symm, nkbc, nkbc.symm]
            obtain ⟨v162, T162, L162, X162, hQ162, st162⟩ := callV X161 hx hZ (y := (⟨"com/example/gibbon/gibbon/analysis/SparseSum", "add", "(ID)D"⟩ : MethodName)) hown (hw _ (List.mem_of_getElem? (i := 15) rfl)) (hw _ (List.mem_of_getElem? (i := 16) rfl)) (hw _ (List.mem_of_getElem? (i := 18) rfl)) (hw _ (List.mem_of_getElem? (i := 17) rfl)) (hw _ (List.mem_of_getElem? (i := 19) rfl)) (hw _ (List.mem_of_getElem? (i := 2) rfl)) (by decide) e161 EA (argsL := [(.int ib), (.double z2)]) (rest := []) (W := 0) (rm_addU l Z a0 hw a b11 bi (1 : Int32) ib kb z2 w2.toInt (own_upd (fun _ => 0) ka w1.toInt) ([] ++ [ka]) _ _ T161.heap n0 Z0 EA FS FI FN VS VI hR11 hkb (by omega) D_z2 bw2 (by rw [fv2]; omega) (by simp) ge_a g11 gi na11 n2 nb11) rfl (by decide) (by decide) (by decide) (by decide) (g := (mkF m 190 #[l0, l1, l2, l3, l4, l5, SI ia, SI ib, SI ic, l9, l10, l11, SD z1, S2, SD z2, S2, SD z3, S2, l18, l19, SI 1, SI 1, SI 1, SA a, SU, SU, SU, SU] [(.double z2), (.int ib), (.ref a)])) rfl (by rw [hml]; rfl) (lenOf pd3 rfl) rfl (by show 2 * 0 + _ ≤ _; exact Nat.le_of_eq rfl) (hb hby at_190)
            obtain ⟨rq12, b12, nq12, x12, y12, rfl, -, FS, FI, FN, VS, VI, hR12, hl12, hpr12, g12, na12, nb12, K162, NL162⟩ := hQ162
            have N0 := Fr.app N0 NL162
            have e162 : T162.heap = T162.heap := rfl
            have EA := EA.keep K162
            have Z0 := Nat.le_trans Z0 K162.1
            refine Goes.by (T' := T162) (g' := (mkF m 193 #[l0, l1, l2, l3, l4, l5, SI ia, SI ib, SI ic, l9, l10, l11, SD z1, S2, SD z2, S2, SD z3, S2, l18, l19, SI 1, SI 1, SI 1, SA a, SU, SU, SU, SU] [(.double rq12)])) st162 ?_
            rw [if_pos fv2] at hR12
            obtain rfl : nq12 = (2 : Int32) := Int32.toInt_inj.mp (by rw [hR12.2.2.2.2.1]; rfl)
            refine Goes.by (T' := T162) (g' := (mkF m 194 #[l0, l1, l2, l3, l4, l5, SI ia, SI ib, SI ic, l9, l10, l11, SD z1, S2, SD z2, S2, SD z3, S2, l18, l19, SI 1, SI 1, SI 1, SA a, SU, SU, SU, SU] [])) (fun _ k => XS.pop2W X162.here hx rfl (hb hby at_193) rfl rfl k) ?_
            refine Goes.by (T' := T162) (g' := (mkF m 196 #[l0, l1, l2, l3, l4, l5, SI ia, SI ib, SI ic, l9, l10, l11, SD z1, S2, SD z2, S2, SD z3, S2, l18, l19, SI 1, SI 1, SI 1, SA a, SU, SU, SU, SU] [(.int (1 : Int32))])) (fun _ k => XS.iload X162.here hx rfl (hb hby at_194) rfl k) ?_
            refine Goes.by (T' := T162) (g' := (mkF m 199 #[l0, l1, l2, l3, l4, l5, SI ia, SI ib, SI ic, l9, l10, l11, SD z1, S2, SD z2, S2, SD z3, S2, l18, l19, SI 1, SI 1, SI 1, SA a, SU, SU, SU, SU] [])) (fun _ k => XS.ifNo X162.here hx rfl (hb hby at_196) rfl (by decide) k) ?_
            refine Goes.by (T' := T162) (g' := (mkF m 201 #[l0, l1, l2, l3, l4, l5, SI ia, SI ib, SI ic, l9, l10, l11, SD z1, S2, SD z2, S2, SD z3, S2, l18, l19, SI 1, SI 1, SI 1, SA a, SU, SU, SU, SU] [(.ref a)])) (fun _ k => XS.aload X162.here hx rfl (hb hby at_199) rfl rfl k) ?_
            refine Goes.by (T' := T162) (g' := (mkF m 203 #[l0, l1, l2, l3, l4, l5, SI ia, SI ib, SI ic, l9, l10, l11, SD z1, S2, SD z2, S2, SD z3, S2, l18, l19, SI 1, SI 1, SI 1, SA a, SU, SU, SU, SU] [(.int ic), (.ref a)])) (fun _ k => XS.iload X162.here hx rfl (hb hby at_201) rfl k) ?_
            refine Goes.by (T' := T162) (g' := (mkF m 205 #[l0, l1, l2, l3, l4, l5, SI ia, SI ib, SI ic, l9, l10, l11, SD z1, S2, SD z2, S2, SD z3, S2, l18, l19, SI 1, SI 1, SI 1, SA a, SU, SU, SU, SU] [(.double z3), (.int ic), (.ref a)])) (fun _ k => XS.dload X162.here hx rfl (hb hby at_203) rfl k) ?_
            have fv3 : (own_upd (own_upd (fun _ => 0) ka w1.toInt) kb w2.toInt) kc = 0 := by simp [own_upd, nkab, nkab.symm, nkac, nkac.symm, nkbc, nkbc.symm]
            obtain ⟨v163, T163, L163, X163, hQ163, st163⟩ := callV X162 hx hZ (y := (⟨"com/example/gibbon/gibbon/analysis/SparseSum", "add", "(ID)D"⟩ : MethodName)) hown (hw _ (List.mem_of_getElem? (i := 15) rfl)) (hw _ (List.mem_of_getElem? (i := 16) rfl)) (hw _ (List.mem_of_getElem? (i := 18) rfl)) (hw _ (List.mem_of_getElem? (i := 17) rfl)) (hw _ (List.mem_of_getElem? (i := 19) rfl)) (hw _ (List.mem_of_getElem? (i := 2) rfl)) (by decide) e162 EA (argsL := [(.int ic), (.double z3)]) (rest := []) (W := 0) (rm_addU l Z a0 hw a b12 bi (2 : Int32) ic kc z3 w3.toInt (own_upd (own_upd (fun _ => 0) ka w1.toInt) kb w2.toInt) (([] ++ [ka]) ++ [kb]) _ _ T162.heap n0 Z0 EA FS FI FN VS VI hR12 hkc (by omega) D_z3 bw3 (by rw [fv3]; omega) (by simp) ge_a g12 gi na12 n2 nb12) rfl (by decide) (by decide) (by decide) (by decide) (g := (mkF m 205 #[l0, l1, l2, l3, l4, l5, SI ia, SI ib, SI ic, l9, l10, l11, SD z1, S2, SD z2, S2, SD z3, S2, l18, l19, SI 1, SI 1, SI 1, SA a, SU, SU, SU, SU] [(.double z3), (.int ic), (.ref a)])) rfl (by rw [hml]; rfl) (lenOf pd3 rfl) rfl (by show 2 * 0 + _ ≤ _; exact Nat.le_of_eq rfl) (hb hby at_205)
            obtain ⟨rq13, b13, nq13, x13, y13, rfl, -, FS, FI, FN, VS, VI, hR13, hl13, hpr13, g13, na13, nb13, K163, NL163⟩ := hQ163
            have N0 := Fr.app N0 NL163
            have e163 : T163.heap = T163.heap := rfl
            have EA := EA.keep K163
            have Z0 := Nat.le_trans Z0 K163.1
            refine Goes.by (T' := T163) (g' := (mkF m 208 #[l0, l1, l2, l3, l4, l5, SI ia, SI ib, SI ic, l9, l10, l11, SD z1, S2, SD z2, S2, SD z3, S2, l18, l19, SI 1, SI 1, SI 1, SA a, SU, SU, SU, SU] [(.double rq13)])) st163 ?_
            rw [if_pos fv3] at hR13
            obtain rfl : nq13 = (3 : Int32) := Int32.toInt_inj.mp (by rw [hR13.2.2.2.2.1]; rfl)
            refine Goes.by (T' := T163) (g' := (mkF m 209 #[l0, l1, l2, l3, l4, l5, SI ia, SI ib, SI ic, l9, l10, l11, SD z1, S2, SD z2, S2, SD z3, S2, l18, l19, SI 1, SI 1, SI 1, SA a, SU, SU, SU, SU] [])) (fun _ k => XS.pop2W X163.here hx rfl (hb hby at_208) rfl rfl k) ?_
            refine Goes.by (T' := T163) (g' := (mkF m 210 #[l0, l1, l2, l3, l4, l5, SI ia, SI ib, SI ic, l9, l10, l11, SD z1, S2, SD z2, S2, SD z3, S2, l18, l19, SI 1, SI 1, SI 1, SA a, SU, SU, SU, SU] [(.int (3 : Int32))])) (fun _ k => XS.iconst X163.here hx rfl (hb hby at_209)  k) ?_
            obtain ⟨T164, h164, k164, X164, e164, E164, A164, st164⟩ := newP X163 hx hZ (hw _ (List.mem_of_getElem? (i := 9) rfl)) e163 (g := (mkF m 210 #[l0, l1, l2, l3, l4, l5, SI ia, SI ib, SI ic, l9, l10, l11, SD z1, S2, SD z2, S2, SD z3, S2, l18, l19, SI 1, SI 1, SI 1, SA a, SU, SU, SU, SU] [(.int (3 : Int32))])) rfl (hb hby at_210) rfl (by decide) (cap := 3) (by decide) (by decide) (by decide) (by decide)
            obtain ⟨ea, g164⟩ : ∃ z, z = T163.heap.size := ⟨_, rfl⟩
            rw [← g164] at A164 st164
            have ne_a_ea : a ≠ ea := fun q => Nat.lt_irrefl _ (Nat.lt_of_lt_of_eq EA.lt (g164.symm.trans q.symm))
            have ne_b13_ea : b13 ≠ ea := fun q => Nat.lt_irrefl _ (Nat.lt_of_lt_of_eq VS.lt (g164.symm.trans q.symm))
            have ne_bi_ea : bi ≠ ea := fun q => Nat.lt_irrefl _ (Nat.lt_of_lt_of_eq VI.lt (g164.symm.trans q.symm))
            have ge_ea : n0 ≤ ea := Nat.le_trans Z0 (Nat.le_of_eq g164.symm)
            have EA := EA.ext E164
            have FS := FS.ext E164
            have FI := FI.ext E164
            have FN := FN.ext E164
            have VS := VS.ext E164
            have VI := VI.ext E164
            have Z0 := Nat.le_trans Z0 E164.1
            have V_ea : Sar Z h164 ea .double [(.double (0 : UInt64)), (.double (0 : UInt64)), (.double (0 : UInt64))] := Sar.new (n := 3) A164 (by decide)
            refine Goes.by (T' := T164) (g' := (mkF m 212 #[l0, l1, l2, l3, l4, l5, SI ia, SI ib, SI ic, l9, l10, l11, SD z1, S2, SD z2, S2, SD z3, S2, l18, l19, SI 1, SI 1, SI 1, SA a, SU, SU, SU, SU] [(.ref ea)])) st164 ?_
            refine Goes.by (T' := T164) (g' := (mkF m 214 #[l0, l1, l2, l3, l4, l5, SI ia, SI ib, SI ic, l9, l10, l11, SD z1, S2, SD z2, S2, SD z3, S2, l18, l19, SI 1, SI 1, SI 1, SA a, SA ea, SU, SU, SU] [])) (fun _ k => XS.astore X164.here hx rfl (hb hby at_212) rfl rfl (l' := #[l0, l1, l2, l3, l4, l5, SI ia, SI ib, SI ic, l9, l10, l11, SD z1, S2, SD z2, S2, SD z3, S2, l18, l19, SI 1, SI 1, SI 1, SA a, SA ea, SU, SU, SU]) rfl k) ?_
            refine Goes.by (T' := T164) (g' := (mkF m 215 #[l0, l1, l2, l3, l4, l5, SI ia, SI ib, SI ic, l9, l10, l11, SD z1, S2, SD z2, S2, SD z3, S2, l18, l19, SI 1, SI 1, SI 1, SA a, SA ea, SU, SU, SU] [(.int (0 : Int32))])) (fun _ k => XS.iconst X164.here hx rfl (hb hby at_214)  k) ?_
            refine Goes.by (T' := T164) (g' := (mkF m 217 #[l0, l1, l2, l3, l4, l5, SI ia, SI ib, SI ic, l9, l10, l11, SD z1, S2, SD z2, S2, SD z3, S2, l18, l19, SI 1, SI 1, SI 1, SA a, SA ea, SI 0, SU, SU] [])) (fun _ k => XS.istore X164.here hx rfl (hb hby at_215) rfl (l' := #[l0, l1, l2, l3, l4, l5, SI ia, SI ib, SI ic, l9, l10, l11, SD z1, S2, SD z2, S2, SD z3, S2, l18, l19, SI 1, SI 1, SI 1, SA a, SA ea, SI 0, SU, SU]) rfl k) ?_
            refine Goes.by (T' := T164) (g' := (mkF m 219 #[l0, l1, l2, l3, l4, l5, SI ia, SI ib, SI ic, l9, l10, l11, SD z1, S2, SD z2, S2, SD z3, S2, l18, l19, SI 1, SI 1, SI 1, SA a, SA ea, SI 0, SU, SU] [(.int (1 : Int32))])) (fun _ k => XS.iload X164.here hx rfl (hb hby at_217) rfl k) ?_
            refine Goes.by (T' := T164) (g' := (mkF m 222 #[l0, l1, l2, l3, l4, l5, SI ia, SI ib, SI ic, l9, l10, l11, SD z1, S2, SD z2, S2, SD z3, S2, l18, l19, SI 1, SI 1, SI 1, SA a, SA ea, SI 0, SU, SU] [])) (fun _ k => XS.ifNo X164.here hx rfl (hb hby at_219) rfl (by decide) k) ?_
            refine Goes.by (T' := T164) (g' := (mkF m 224 #[l0, l1, l2, l3, l4, l5, SI ia, SI ib, SI ic, l9, l10, l11, SD z1, S2, SD z2, S2, SD z3, S2, l18, l19, SI 1, SI 1, SI 1, SA a, SA ea, SI 0, SU, SU] [(.double z1)])) (fun _ k => XS.dload X164.here hx rfl (hb hby at_222) rfl k) ?_
            refine Goes.by (T' := T164) (g' := (mkF m 226 #[l0, l1, l2, l3, l4, l5, SI ia, SI ib, SI ic, l9, l10, l11, SD z1, S2, SD z2, S2, SD z3, S2, l18, l19, SI 1, SI 1, SI 1, SA a, SA ea, SI 0, SD z1, S2] [])) (fun _ k => XS.dstore X164.here hx rfl (hb hby at_224) rfl (l' := #[l0, l1, l2, l3, l4, l5, SI ia, SI ib, SI ic, l9, l10, l11, SD z1, S2, SD z2, S2, SD z3, S2, l18, l19, SI 1, SI 1, SI 1, SA a, SA ea, SI 0, SD z1, S2]) rfl k) ?_
            refine Goes.by (T' := T164) (g' := (mkF m 228 #[l0, l1, l2, l3, l4, l5, SI ia, SI ib, SI ic, l9, l10, l11, SD z1, S2, SD z2, S2, SD z3, S2, l18, l19, SI 1, SI 1, SI 1, SA a, SA ea, SI 0, SD z1, S2] [(.int (1 : Int32))])) (fun _ k => XS.iload X164.here hx rfl (hb hby at_226) rfl k) ?_
            refine Goes.by (T' := T164) (g' := (mkF m 231 #[l0, l1, l2, l3, l4, l5, SI ia, SI ib, SI ic, l9, l10, l11, SD z1, S2, SD z2, S2, SD z3, S2, l18, l19, SI 1, SI 1, SI 1, SA a, SA ea, SI 0, SD z1, S2] [])) (fun _ k => XS.ifNo X164.here hx rfl (hb hby at_228) rfl (by decide) k) ?_
            refine Goes.by (T' := T164) (g' := (mkF m 233 #[l0, l1, l2, l3, l4, l5, SI ia, SI ib, SI ic, l9, l10, l11, SD z1, S2, SD z2, S2, SD z3, S2, l18, l19, SI 1, SI 1, SI 1, SA a, SA ea, SI 0, SD z1, S2] [(.int ib)])) (fun _ k => XS.iload X164.here hx rfl (hb hby at_231) rfl k) ?_
            refine Goes.by (T' := T164) (g' := (mkF m 235 #[l0, l1, l2, l3, l4, l5, SI ia, SI ib, SI ic, l9, l10, l11, SD z1, S2, SD z2, S2, SD z3, S2, l18, l19, SI 1, SI 1, SI 1, SA a, SA ea, SI 0, SD z1, S2] [(.int ia), (.int ib)])) (fun _ k => XS.iload X164.here hx rfl (hb hby at_233) rfl k) ?_
            refine Goes.by (T' := T164) (g' := (mkF m 245 #[l0, l1, l2, l3, l4, l5, SI ia, SI ib, SI ic, l9, l10, l11, SD z1, S2, SD z2, S2, SD z3, S2, l18, l19, SI 1, SI 1, SI 1, SA a, SA ea, SI 0, SD z1, S2] [])) (fun _ k => XS.icmpYes X164.here hx rfl (pc0 := 235) (pc' := 245) rfl (hb hby at_235) rfl (feq (fun q => hab q.symm)).2 (by decide) (by decide) k) ?_
            refine Goes.by (T' := T164) (g' := (mkF m 247 #[l0, l1, l2, l3, l4, l5, SI ia, SI ib, SI ic, l9, l10, l11, SD z1, S2, SD z2, S2, SD z3, S2, l18, l19, SI 1, SI 1, SI 1, SA a, SA ea, SI 0, SD z1, S2] [(.int (1 : Int32))])) (fun _ k => XS.iload X164.here hx rfl (hb hby at_245) rfl k) ?_
            refine Goes.by (T' := T164) (g' := (mkF m 250 #[l0, l1, l2, l3, l4, l5, SI ia, SI ib, SI ic, l9, l10, l11, SD z1, S2, SD z2, S2, SD z3, S2, l18, l19, SI 1, SI 1, SI 1, SA a, SA ea, SI 0, SD z1, S2] [])) (fun _ k => XS.ifNo X164.here hx rfl (hb hby at_247) rfl (by decide) k) ?_
            refine Goes.by (T' := T164) (g' := (mkF m 252 #[l0, l1, l2, l3, l4, l5, SI ia, SI ib, SI ic, l9, l10, l11, SD z1, S2, SD z2, S2, SD z3, S2, l18, l19, SI 1, SI 1, SI 1, SA a, SA ea, SI 0, SD z1, S2] [(.int ic)])) (fun _ k => XS.iload X164.here hx rfl (hb hby at_250) rfl k) ?_
            refine Goes.by (T' := T164) (g' := (mkF m 254 #[l0, l1, l2, l3, l4, l5, SI ia, SI ib, SI ic, l9, l10, l11, SD z1, S2, SD z2, S2, SD z3, S2, l18, l19, SI 1, SI 1, SI 1, SA a, SA ea, SI 0, SD z1, S2] [(.int ia), (.int ic)])) (fun _ k => XS.iload X164.here hx rfl (hb hby at_252) rfl k) ?_
            refine Goes.by (T' := T164) (g' := (mkF m 264 #[l0, l1, l2, l3, l4, l5, SI ia, SI ib, SI ic, l9, l10, l11, SD z1, S2, SD z2, S2, SD z3, S2, l18, l19, SI 1, SI 1, SI 1, SA a, SA ea, SI 0, SD z1, S2] [])) (fun _ k => XS.icmpYes X164.here hx rfl (pc0 := 254) (pc' := 264) rfl (hb hby at_254) rfl (feq (fun q => hac q.symm)).2 (by decide) (by decide) k) ?_
            refine Goes.by (T' := T164) (g' := (mkF m 266 #[l0, l1, l2, l3, l4, l5, SI ia, SI ib, SI ic, l9, l10, l11, SD z1, S2, SD z2, S2, SD z3, S2, l18, l19, SI 1, SI 1, SI 1, SA a, SA ea, SI 0, SD z1, S2] [(.ref ea)])) (fun _ k => XS.aload X164.here hx rfl (hb hby at_264) rfl rfl k) ?_
            refine Goes.by (T' := T164) (g' := (mkF m 268 #[l0, l1, l2, l3, l4, l5, SI ia, SI ib, SI ic, l9, l10, l11, SD z1, S2, SD z2, S2, SD z3, S2, l18, l19, SI 1, SI 1, SI 1, SA a, SA ea, SI 0, SD z1, S2] [(.int (0 : Int32)), (.ref ea)])) (fun _ k => XS.iload X164.here hx rfl (hb hby at_266) rfl k) ?_
            refine Goes.by (T' := T164) (g' := (mkF m 270 #[l0, l1, l2, l3, l4, l5, SI ia, SI ib, SI ic, l9, l10, l11, SD z1, S2, SD z2, S2, SD z3, S2, l18, l19, SI 1, SI 1, SI 1, SA a, SA ea, SI 0, SD z1, S2] [(.double z1), (.int (0 : Int32)), (.ref ea)])) (fun _ k => XS.dload X164.here hx rfl (hb hby at_268) rfl k) ?_
            obtain ⟨T165, h165, X165, e165, W165, V165, st165⟩ := stDS X164 hx hZ e164 V_ea (j := (0 : Int32)) 0 (by decide) (by show 0 < 3; decide) (g := (mkF m 270 #[l0, l1, l2, l3, l4, l5, SI ia, SI ib, SI ic, l9, l10, l11, SD z1, S2, SD z2, S2, SD z3, S2, l18, l19, SI 1, SI 1, SI 1, SA a, SA ea, SI 0, SD z1, S2] [(.double z1), (.int (0 : Int32)), (.ref ea)])) rfl rfl (hb hby at_270)
            have N0 := Fr.snoc X165 N0 ge_ea
            have EA := EA.wr W165
            have FS := FS.other W165 (Or.inl ne_a_ea)
            have FI := FI.other W165 (Or.inl ne_a_ea)
            have FN := FN.other W165 (Or.inl ne_a_ea)
            have VS := VS.other W165 ne_b13_ea
            have VI := VI.other W165 ne_bi_ea
            have Z0 := Nat.le_trans Z0 (Nat.le_of_eq W165.size.symm)
            have V_ea : Sar Z h165 ea .double [(.double z1), (.double (0 : UInt64)), (.double (0 : UInt64))] := V165
            refine Goes.by (T' := T165) (g' := (mkF m 271 #[l0, l1, l2, l3, l4, l5, SI ia, SI ib, SI ic, l9, l10, l11, SD z1, S2, SD z2, S2, SD z3, S2, l18, l19, SI 1, SI 1, SI 1, SA a, SA ea, SI 0, SD z1, S2] [])) st165 ?_
            refine Goes.by (T' := T165) (g' := (mkF m 273 #[l0, l1, l2, l3, l4, l5, SI ia, SI ib, SI ic, l9, l10, l11, SD z1, S2, SD z2, S2, SD z3, S2, l18, l19, SI 1, SI 1, SI 1, SA a, SA ea, SI 0, SD z1, S2] [(.int (0 : Int32))])) (fun _ k => XS.iload X165.here hx rfl (hb hby at_271) rfl k) ?_
            refine Goes.by (T' := T165) (g' := (mkF m 274 #[l0, l1, l2, l3, l4, l5, SI ia, SI ib, SI ic, l9, l10, l11, SD z1, S2, SD z2, S2, SD z3, S2, l18, l19, SI 1, SI 1, SI 1, SA a, SA ea, SI 0, SD z1, S2] [(.int (1 : Int32)), (.int (0 : Int32))])) (fun _ k => XS.iconst X165.here hx rfl (hb hby at_273)  k) ?_
            refine Goes.by (T' := T165) (g' := (mkF m 275 #[l0, l1, l2, l3, l4, l5, SI ia, SI ib, SI ic, l9, l10, l11, SD z1, S2, SD z2, S2, SD z3, S2, l18, l19, SI 1, SI 1, SI 1, SA a, SA ea, SI 0, SD z1, S2] [(.int (1 : Int32))])) (fun _ k => XS.iadd X165.here hx rfl (hb hby at_274) rfl k) ?_
            refine Goes.by (T' := T165) (g' := (mkF m 277 #[l0, l1, l2, l3, l4, l5, SI ia, SI ib, SI ic, l9, l10, l11, SD z1, S2, SD z2, S2, SD z3, S2, l18, l19, SI 1, SI 1, SI 1, SA a, SA ea, SI 1, SD z1, S2] [])) (fun _ k => XS.istore X165.here hx rfl (hb hby at_275) rfl (l' := #[l0, l1, l2, l3, l4, l5, SI ia, SI ib, SI ic, l9, l10, l11, SD z1, S2, SD z2, S2, SD z3, S2, l18, l19, SI 1, SI 1, SI 1, SA a, SA ea, SI 1, SD z1, S2]) rfl k) ?_
            refine Goes.by (T' := T165) (g' := (mkF m 279 #[l0, l1, l2, l3, l4, l5, SI ia, SI ib, SI ic, l9, l10, l11, SD z1, S2, SD z2, S2, SD z3, S2, l18, l19, SI 1, SI 1, SI 1, SA a, SA ea, SI 1, SD z1, S2] [(.int (1 : Int32))])) (fun _ k => XS.iload X165.here hx rfl (hb hby at_277) rfl k) ?_
            refine Goes.by (T' := T165) (g' := (mkF m 282 #[l0, l1, l2, l3, l4, l5, SI ia, SI ib, SI ic, l9, l10, l11, SD z1, S2, SD z2, S2, SD z3, S2, l18, l19, SI 1, SI 1, SI 1, SA a, SA ea, SI 1, SD z1, S2] [])) (fun _ k => XS.ifNo X165.here hx rfl (hb hby at_279) rfl (by decide) k) ?_
            refine Goes.by (T' := T165) (g' := (mkF m 284 #[l0, l1, l2, l3, l4, l5, SI ia, SI ib, SI ic, l9, l10, l11, SD z1, S2, SD z2, S2, SD z3, S2, l18, l19, SI 1, SI 1, SI 1, SA a, SA ea, SI 1, SD z1, S2] [(.int ib)])) (fun _ k => XS.iload X165.here hx rfl (hb hby at_282) rfl k) ?_
            refine Goes.by (T' := T165) (g' := (mkF m 286 #[l0, l1, l2, l3, l4, l5, SI ia, SI ib, SI ic, l9, l10, l11, SD z1, S2, SD z2, S2, SD z3, S2, l18, l19, SI 1, SI 1, SI 1, SA a, SA ea, SI 1, SD z1, S2] [(.int ia), (.int ib)])) (fun _ k => XS.iload X165.here hx rfl (hb hby at_284) rfl k) ?_
            refine Goes.by (T' := T165) (g' := (mkF m 289 #[l0, l1, l2, l3, l4, l5, SI ia, SI ib, SI ic, l9, l10, l11, SD z1, S2, SD z2, S2, SD z3, S2, l18, l19, SI 1, SI 1, SI 1, SA a, SA ea, SI 1, SD z1, S2] [])) (fun _ k => XS.icmpNo X165.here hx rfl (hb hby at_286) rfl (feq (fun q => hab q.symm)).1 k) ?_
            refine Goes.by (T' := T165) (g' := (mkF m 291 #[l0, l1, l2, l3, l4, l5, SI ia, SI ib, SI ic, l9, l10, l11, SD z1, S2, SD z2, S2, SD z3, S2, l18, l19, SI 1, SI 1, SI 1, SA a, SA ea, SI 1, SD z1, S2] [(.double z2)])) (fun _ k => XS.dload X165.here hx rfl (hb hby at_289) rfl k) ?_
            refine Goes.by (T' := T165) (g' := (mkF m 293 #[l0, l1, l2, l3, l4, l5, SI ia, SI ib, SI ic, l9, l10, l11, SD z1, S2, SD z2, S2, SD z3, S2, l18, l19, SI 1, SI 1, SI 1, SA a, SA ea, SI 1, SD z2, S2] [])) (fun _ k => XS.dstore X165.here hx rfl (hb hby at_291) rfl (l' := #[l0, l1, l2, l3, l4, l5, SI ia, SI ib, SI ic, l9, l10, l11, SD z1, S2, SD z2, S2, SD z3, S2, l18, l19, SI 1, SI 1, SI 1, SA a, SA ea, SI 1, SD z2, S2]) rfl k) ?_
            refine Goes.by (T' := T165) (g' := (mkF m 295 #[l0, l1, l2, l3, l4, l5, SI ia, SI ib, SI ic, l9, l10, l11, SD z1, S2, SD z2, S2, SD z3, S2, l18, l19, SI 1, SI 1, SI 1, SA a, SA ea, SI 1, SD z2, S2] [(.int (1 : Int32))])) (fun _ k => XS.iload X165.here hx rfl (hb hby at_293) rfl k) ?_
            refine Goes.by (T' := T165) (g' := (mkF m 298 #[l0, l1, l2, l3, l4, l5, SI ia, SI ib, SI ic, l9, l10, l11, SD z1, S2, SD z2, S2, SD z3, S2, l18, l19, SI 1, SI 1, SI 1, SA a, SA ea, SI 1, SD z2, S2] [])) (fun _ k => XS.ifNo X165.here hx rfl (hb hby at_295) rfl (by decide) k) ?_
            refine Goes.by (T' := T165) (g' := (mkF m 300 #[l0, l1, l2, l3, l4, l5, SI ia, SI ib, SI ic, l9, l10, l11, SD z1, S2, SD z2, S2, SD z3, S2, l18, l19, SI 1, SI 1, SI 1, SA a, SA ea, SI 1, SD z2, S2] [(.int ic)])) (fun _ k => XS.iload X165.here hx rfl (hb hby at_298) rfl k) ?_
            refine Goes.by (T' := T165) (g' := (mkF m 302 #[l0, l1, l2, l3, l4, l5, SI ia, SI ib, SI ic, l9, l10, l11, SD z1, S2, SD z2, S2, SD z3, S2, l18, l19, SI 1, SI 1, SI 1, SA a, SA ea, SI 1, SD z2, S2] [(.int ib), (.int ic)])) (fun _ k => XS.iload X165.here hx rfl (hb hby at_300) rfl k) ?_
            refine Goes.by (T' := T165) (g' := (mkF m 312 #[l0, l1, l2, l3, l4, l5, SI ia, SI ib, SI ic, l9, l10, l11, SD z1, S2, SD z2, S2, SD z3, S2, l18, l19, SI 1, SI 1, SI 1, SA a, SA ea, SI 1, SD z2, S2] [])) (fun _ k => XS.icmpYes X165.here hx rfl (pc0 := 302) (pc' := 312) rfl (hb hby at_302) rfl (feq (fun q => hbc q.symm)).2 (by decide) (by decide) k) ?_
            refine Goes.by (T' := T165) (g' := (mkF m 314 #[l0, l1, l2, l3, l4, l5, SI ia, SI ib, SI ic, l9, l10, l11, SD z1, S2, SD z2, S2, SD z3, S2, l18, l19, SI 1, SI 1, SI 1, SA a, SA ea, SI 1, SD z2, S2] [(.ref ea)])) (fun _ k => XS.aload X165.here hx rfl (hb hby at_312) rfl rfl k) ?_
            refine Goes.by (T' := T165) (g' := (mkF m 316 #[l0, l1, l2, l3, l4, l5, SI ia, SI ib, SI ic, l9, l10, l11, SD z1, S2, SD z2, S2, SD z3, S2, l18, l19, SI 1, SI 1, SI 1, SA a, SA ea, SI 1, SD z2, S2] [(.int (1 : Int32)), (.ref ea)])) (fun _ k => XS.iload X165.here hx rfl (hb hby at_314) rfl k) ?_
            refine Goes.by (T' := T165) (g' := (mkF m 318 #[l0, l1, l2, l3, l4, l5, SI ia, SI ib, SI ic, l9, l10, l11, SD z1, S2, SD z2, S2, SD z3, S2, l18, l19, SI 1, SI 1, SI 1, SA a, SA ea, SI 1, SD z2, S2] [(.double z2), (.int (1 : Int32)), (.ref ea)])) (fun _ k => XS.dload X165.here hx rfl (hb hby at_316) rfl k) ?_
            obtain ⟨T166, h166, X166, e166, W166, V166, st166⟩ := stDS X165 hx hZ e165 V_ea (j := (1 : Int32)) 1 (by decide) (by show 1 < 3; decide) (g := (mkF m 318 #[l0, l1, l2, l3, l4, l5, SI ia, SI ib, SI ic, l9, l10, l11, SD z1, S2, SD z2, S2, SD z3, S2, l18, l19, SI 1, SI 1, SI 1, SA a, SA ea, SI 1, SD z2, S2] [(.double z2), (.int (1 : Int32)), (.ref ea)])) rfl rfl (hb hby at_318)
            have N0 := Fr.snoc X166 N0 ge_ea
            have EA := EA.wr W166
            have FS := FS.other W166 (Or.inl ne_a_ea)
            have FI := FI.other W166 (Or.inl ne_a_ea)
            have FN := FN.other W166 (Or.inl ne_a_ea)
            have VS := VS.other W166 ne_b13_ea
            have VI := VI.other W166 ne_bi_ea
            have Z0 := Nat.le_trans Z0 (Nat.le_of_eq W166.size.symm)
            have V_ea : Sar Z h166 ea .double [(.double z1), (.double z2), (.double (0 : UInt64))] := V166
            refine Goes.by (T' := T166) (g' := (mkF m 319 #[l0, l1, l2, l3, l4, l5, SI ia, SI ib, SI ic, l9, l10, l11, SD z1, S2, SD z2, S2, SD z3, S2, l18, l19, SI 1, SI 1, SI 1, SA a, SA ea, SI 1, SD z2, S2] [])) st166 ?_
            refine Goes.by (T' := T166) (g' := (mkF m 321 #[l0, l1, l2, l3, l4, l5, SI ia, SI ib, SI ic, l9, l10, l11, SD z1, S2, SD z2, S2, SD z3, S2, l18, l19, SI 1, SI 1, SI 1, SA a, SA ea, SI 1, SD z2, S2] [(.int (1 : Int32))])) (fun _ k => XS.iload X166.here hx rfl (hb hby at_319) rfl k) ?_
            refine Goes.by (T' := T166) (g' := (mkF m 322 #[l0, l1, l2, l3, l4, l5, SI ia, SI ib, SI ic, l9, l10, l11, SD z1, S2, SD z2, S2, SD z3, S2, l18, l19, SI 1, SI 1, SI 1, SA a, SA ea, SI 1, SD z2, S2] [(.int (1 : Int32)), (.int (1 : Int32))])) (fun _ k => XS.iconst X166.here hx rfl (hb hby at_321)  k) ?_
            refine Goes.by (T' := T166) (g' := (mkF m 323 #[l0, l1, l2, l3, l4, l5, SI ia, SI ib, SI ic, l9, l10, l11, SD z1, S2, SD z2, S2, SD z3, S2, l18, l19, SI 1, SI 1, SI 1, SA a, SA ea, SI 1, SD z2, S2] [(.int (2 : Int32))])) (fun _ k => XS.iadd X166.here hx rfl (hb hby at_322) rfl k) ?_
            refine Goes.by (T' := T166) (g' := (mkF m 325 #[l0, l1, l2, l3, l4, l5, SI ia, SI ib, SI ic, l9, l10, l11, SD z1, S2, SD z2, S2, SD z3, S2, l18, l19, SI 1, SI 1, SI 1, SA a, SA ea, SI 2, SD z2, S2] [])) (fun _ k => XS.istore X166.here hx rfl (hb hby at_323) rfl (l' := #[l0, l1, l2, l3, l4, l5, SI ia, SI ib, SI ic, l9, l10, l11, SD z1, S2, SD z2, S2, SD z3, S2, l18, l19, SI 1, SI 1, SI 1, SA a, SA ea, SI 2, SD z2, S2]) rfl k) ?_
            refine Goes.by (T' := T166) (g' := (mkF m 327 #[l0, l1, l2, l3, l4, l5, SI ia, SI ib, SI ic, l9, l10, l11, SD z1, S2, SD z2, S2, SD z3, S2, l18, l19, SI 1, SI 1, SI 1, SA a, SA ea, SI 2, SD z2, S2] [(.int (1 : Int32))])) (fun _ k => XS.iload X166.here hx rfl (hb hby at_325) rfl k) ?_
            refine Goes.by (T' := T166) (g' := (mkF m 330 #[l0, l1, l2, l3, l4, l5, SI ia, SI ib, SI ic, l9, l10, l11, SD z1, S2, SD z2, S2, SD z3, S2, l18, l19, SI 1, SI 1, SI 1, SA a, SA ea, SI 2, SD z2, S2] [])) (fun _ k => XS.ifNo X166.here hx rfl (hb hby at_327) rfl (by decide) k) ?_
            refine Goes.by (T' := T166) (g' := (mkF m 332 #[l0, l1, l2, l3, l4, l5, SI ia, SI ib, SI ic, l9, l10, l11, SD z1, S2, SD z2, S2, SD z3, S2, l18, l19, SI 1, SI 1, SI 1, SA a, SA ea, SI 2, SD z2, S2] [(.int ic)])) (fun _ k => XS.iload X166.here hx rfl (hb hby at_330) rfl k) ?_
            refine Goes.by (T' := T166) (g' := (mkF m 334 #[l0, l1, l2, l3, l4, l5, SI ia, SI ib, SI ic, l9, l10, l11, SD z1, S2, SD z2, S2, SD z3, S2, l18, l19, SI 1, SI 1, SI 1, SA a, SA ea, SI 2, SD z2, S2] [(.int ia), (.int ic)])) (fun _ k => XS.iload X166.here hx rfl (hb hby at_332) rfl k) ?_
            refine Goes.by (T' := T166) (g' := (mkF m 337 #[l0, l1, l2, l3, l4, l5, SI ia, SI ib, SI ic, l9, l10, l11, SD z1, S2, SD z2, S2, SD z3, S2, l18, l19, SI 1, SI 1, SI 1, SA a, SA ea, SI 2, SD z2, S2] [])) (fun _ k => XS.icmpNo X166.here hx rfl (hb hby at_334) rfl (feq (fun q => hac q.symm)).1 k) ?_
            refine Goes.by (T' := T166) (g' := (mkF m 339 #[l0, l1, l2, l3, l4, l5, SI ia, SI ib, SI ic, l9, l10, l11, SD z1, S2, SD z2, S2, SD z3, S2, l18, l19, SI 1, SI 1, SI 1, SA a, SA ea, SI 2, SD z2, S2] [(.int ic)])) (fun _ k => XS.iload X166.here hx rfl (hb hby at_337) rfl k) ?_
            refine Goes.by (T' := T166) (g' := (mkF m 341 #[l0, l1, l2, l3, l4, l5, SI ia, SI ib, SI ic, l9, l10, l11, SD z1, S2, SD z2, S2, SD z3, S2, l18, l19, SI 1, SI 1, SI 1, SA a, SA ea, SI 2, SD z2, S2] [(.int ib), (.int ic)])) (fun _ k => XS.iload X166.here hx rfl (hb hby at_339) rfl k) ?_
            refine Goes.by (T' := T166) (g' := (mkF m 344 #[l0, l1, l2, l3, l4, l5, SI ia, SI ib, SI ic, l9, l10, l11, SD z1, S2, SD z2, S2, SD z3, S2, l18, l19, SI 1, SI 1, SI 1, SA a, SA ea, SI 2, SD z2, S2] [])) (fun _ k => XS.icmpNo X166.here hx rfl (hb hby at_341) rfl (feq (fun q => hbc q.symm)).1 k) ?_
            refine Goes.by (T' := T166) (g' := (mkF m 346 #[l0, l1, l2, l3, l4, l5, SI ia, SI ib, SI ic, l9, l10, l11, SD z1, S2, SD z2, S2, SD z3, S2, l18, l19, SI 1, SI 1, SI 1, SA a, SA ea, SI 2, SD z2, S2] [(.ref ea)])) (fun _ k => XS.aload X166.here hx rfl (hb hby at_344) rfl rfl k) ?_
            refine Goes.by (T' := T166) (g' := (mkF m 348 #[l0, l1, l2, l3, l4, l5, SI ia, SI ib, SI ic, l9, l10, l11, SD z1, S2, SD z2, S2, SD z3, S2, l18, l19, SI 1, SI 1, SI 1, SA a, SA ea, SI 2, SD z2, S2] [(.int (2 : Int32)), (.ref ea)])) (fun _ k => XS.iload X166.here hx rfl (hb hby at_346) rfl k) ?_
            refine Goes.by (T' := T166) (g' := (mkF m 350 #[l0, l1, l2, l3, l4, l5, SI ia, SI ib, SI ic, l9, l10, l11, SD z1, S2, SD z2, S2, SD z3, S2, l18, l19, SI 1, SI 1, SI 1, SA a, SA ea, SI 2, SD z2, S2] [(.double z3), (.int (2 : Int32)), (.ref ea)])) (fun _ k => XS.dload X166.here hx rfl (hb hby at_348) rfl k) ?_
            obtain ⟨T167, h167, X167, e167, W167, V167, st167⟩ := stDS X166 hx hZ e166 V_ea (j := (2 : Int32)) 2 (by decide) (by show 2 < 3; decide) (g := (mkF m 350 #[l0, l1, l2, l3, l4, l5, SI ia, SI ib, SI ic, l9, l10, l11, SD z1, S2, SD z2, S2, SD z3, S2, l18, l19, SI 1, SI 1, SI 1, SA a, SA ea, SI 2, SD z2, S2] [(.double z3), (.int (2 : Int32)), (.ref ea)])) rfl rfl (hb hby at_350)
            have N0 := Fr.snoc X167 N0 ge_ea
            have EA := EA.wr W167
            have FS := FS.other W167 (Or.inl ne_a_ea)
            have FI := FI.other W167 (Or.inl ne_a_ea)
            have FN := FN.other W167 (Or.inl ne_a_ea)
            have VS := VS.other W167 ne_b13_ea
            have VI := VI.other W167 ne_bi_ea
            have Z0 := Nat.le_trans Z0 (Nat.le_of_eq W167.size.symm)
            have V_ea : Sar Z h167 ea .double [(.double z1), (.double z2), (.double z3)] := V167
            refine Goes.by (T' := T167) (g' := (mkF m 351 #[l0, l1, l2, l3, l4, l5, SI ia, SI ib, SI ic, l9, l10, l11, SD z1, S2, SD z2, S2, SD z3, S2, l18, l19, SI 1, SI 1, SI 1, SA a, SA ea, SI 2, SD z2, S2] [])) st167 ?_
            refine Goes.by (T' := T167) (g' := (mkF m 353 #[l0, l1, l2, l3, l4, l5, SI ia, SI ib, SI ic, l9, l10, l11, SD z1, S2, SD z2, S2, SD z3, S2, l18, l19, SI 1, SI 1, SI 1, SA a, SA ea, SI 2, SD z2, S2] [(.int (2 : Int32))])) (fun _ k => XS.iload X167.here hx rfl (hb hby at_351) rfl k) ?_
            refine Goes.by (T' := T167) (g' := (mkF m 354 #[l0, l1, l2, l3, l4, l5, SI ia, SI ib, SI ic, l9, l10, l11, SD z1, S2, SD z2, S2, SD z3, S2, l18, l19, SI 1, SI 1, SI 1, SA a, SA ea, SI 2, SD z2, S2] [(.int (1 : Int32)), (.int (2 : Int32))])) (fun _ k => XS.iconst X167.here hx rfl (hb hby at_353)  k) ?_
            refine Goes.by (T' := T167) (g' := (mkF m 355 #[l0, l1, l2, l3, l4, l5, SI ia, SI ib, SI ic, l9, l10, l11, SD z1, S2, SD z2, S2, SD z3, S2, l18, l19, SI 1, SI 1, SI 1, SA a, SA ea, SI 2, SD z2, S2] [(.int (3 : Int32))])) (fun _ k => XS.iadd X167.here hx rfl (hb hby at_354) rfl k) ?_
            refine Goes.by (T' := T167) (g' := (mkF m 357 #[l0, l1, l2, l3, l4, l5, SI ia, SI ib, SI ic, l9, l10, l11, SD z1, S2, SD z2, S2, SD z3, S2, l18, l19, SI 1, SI 1, SI 1, SA a, SA ea, SI 3, SD z2, S2] [])) (fun _ k => XS.istore X167.here hx rfl (hb hby at_355) rfl (l' := #[l0, l1, l2, l3, l4, l5, SI ia, SI ib, SI ic, l9, l10, l11, SD z1, S2, SD z2, S2, SD z3, S2, l18, l19, SI 1, SI 1, SI 1, SA a, SA ea, SI 3, SD z2, S2]) rfl k) ?_
            refine Goes.by (T' := T167) (g' := (mkF m 359 #[l0, l1, l2, l3, l4, l5, SI ia, SI ib, SI ic, l9, l10, l11, SD z1, S2, SD z2, S2, SD z3, S2, l18, l19, SI 1, SI 1, SI 1, SA a, SA ea, SI 3, SD z2, S2] [(.ref a)])) (fun _ k => XS.aload X167.here hx rfl (hb hby at_357) rfl rfl k) ?_
            obtain ⟨hq0, v0, hy0, hv0⟩ := hR13.2.2.2.2.2.2 0 ka (by simp)
            obtain ⟨d0, hx0, Dd0⟩ := hR13.2.1 ka hq0
            have fe0 : (own_upd (own_upd (own_upd (fun _ => 0) ka w1.toInt) kb w2.toInt) kc w3.toInt) ka = w1.toInt := by simp [own_upd, nkab, nkab.symm, nkac, nkac.symm, nkbc, nkbc.symm]
            rw [fe0] at Dd0
            obtain ⟨hq1, v1, hy1, hv1⟩ := hR13.2.2.2.2.2.2 1 kb (by simp)
            obtain ⟨d1, hx1, Dd1⟩ := hR13.2.1 kb hq1
            have fe1 : (own_upd (own_upd (own_upd (fun _ => 0) ka w1.toInt) kb w2.toInt) kc w3.toInt) kb = w2.toInt := by simp [own_upd, nkab, nkab.symm, nkac, nkac.symm, nkbc, nkbc.symm]
            rw [fe1] at Dd1
            obtain ⟨hq2, v2, hy2, hv2⟩ := hR13.2.2.2.2.2.2 2 kc (by simp)
            obtain ⟨d2, hx2, Dd2⟩ := hR13.2.1 kc hq2
            have fe2 : (own_upd (own_upd (own_upd (fun _ => 0) ka w1.toInt) kb w2.toInt) kc w3.toInt) kc = w3.toInt := by simp [own_upd, nkab, nkab.symm, nkac, nkac.symm, nkbc, nkbc.symm]
            rw [fe2] at Dd2
            exact cmp3 a b13 bi ea _ _ _ _ _ v0 ka d0 w1.toInt v1 kb d1 w2.toInt v2 kc d2 w3.toInt _ _ _ _ _ _ _ _ _ _ _ _ _ _ _ _ _ _ _ _ _ _ _ _ _ _ _ (X167.wide (fun x hx _ => hx) (by decide) (by decide)) e167 N0 Z0 EA FS FI FN VS VI V_ea ge_a g13 gi ge_ea na13 nb13 n2 ne_a_ea ne_b13_ea ne_bi_ea hy0 hv0 hx0 Dd0 D_z1 hy1 hv1 hx1 Dd1 D_z2 hy2 hv2 hx2 Dd2 D_z3
    have restN : ∀ (br : Addr) (xr yr : List Value) (l0 l1 l2 l3 l4 l5 l9 l10 l11 l18 l19 : Slot)  (Tj168 : State) (hj168 : Heap) (Lj168 : List Loc), Stand p l e room_1 s m #[(.int y0), (.int y1), (.int y2), (.int y3), (.int y4), (.int y5)] below meth c Tj168 Lj168 4 259 → Tj168.heap = hj168 → Fr n0 Lj168 → n0 ≤ hj168.size → Exa Z hj168 a "com/example/gibbon/gibbon/analysis/SparseSum" → Fld Z hj168 a "com/example/gibbon/gibbon/analysis/SparseSum" "sums" "[D" (.ref br) → Fld Z hj168 a "com/example/gibbon/gibbon/analysis/SparseSum" "indices" "[I" (.ref bi) → Fld Z hj168 a "com/example/gibbon/gibbon/analysis/SparseSum" "size" "I" (.int (0 : Int32)) → Sar Z hj168 br .double xr → Sar Z hj168 bi .int yr → OwnRep (fun _ => 0) [] xr yr 0 → n0 ≤ br → a ≠ br → br ≠ bi → xr.length = 128 → Goes p e below (Fin1 below s room_1 (fun v h L => v = some (.int 1) ∧ Fr n0 L)) Tj168 (mkF m 164 #[l0, l1, l2, l3, l4, l5, SI ia, SI ib, SI ic, l9, l10, l11, SD z1, S2, SD z2, S2, SD z3, S2, l18, l19, SI 1, SI 1, SI 1, SA a, SU, SU, SU, SU] []) := by
      intro br xr yr l0 l1 l2 l3 l4 l5 l9 l10 l11 l18 l19 Tj168 hj168 Lj168 Xj168 ej168 N0 Z0 EA FS FI FN VS VI hR gr n4 n5 h128
      by_cases hab : ia = ib
      · subst hab
        by_cases hac : ia = ic
        · subst hac
          refine Goes.by (T' := Tj168) (g' := (mkF m 166 #[l0, l1, l2, l3, l4, l5, SI ia, SI ia, SI ia, l9, l10, l11, SD z1, S2, SD z2, S2, SD z3, S2, l18, l19, SI 1, SI 1, SI 1, SA a, SU, SU, SU, SU] [(.int (1 : Int32))])) (fun _ k => XS.iload Xj168.here hx rfl (hb hby at_164) rfl k) ?_
          refine Goes.by (T' := Tj168) (g' := (mkF m 169 #[l0, l1, l2, l3, l4, l5, SI ia, SI ia, SI ia, l9, l10, l11, SD z1, S2, SD z2, S2, SD z3, S2, l18, l19, SI 1, SI 1, SI 1, SA a, SU, SU, SU, SU] [])) (fun _ k => XS.ifNo Xj168.here hx rfl (hb hby at_166) rfl (by decide) k) ?_
          refine Goes.by (T' := Tj168) (g' := (mkF m 171 #[l0, l1, l2, l3, l4, l5, SI ia, SI ia, SI ia, l9, l10, l11, SD z1, S2, SD z2, S2, SD z3, S2, l18, l19, SI 1, SI 1, SI 1, SA a, SU, SU, SU, SU] [(.ref a)])) (fun _ k => XS.aload Xj168.here hx rfl (hb hby at_169) rfl rfl k) ?_
          refine Goes.by (T' := Tj168) (g' := (mkF m 173 #[l0, l1, l2, l3, l4, l5, SI ia, SI ia, SI ia, l9, l10, l11, SD z1, S2, SD z2, S2, SD z3, S2, l18, l19, SI 1, SI 1, SI 1, SA a, SU, SU, SU, SU] [(.int ia), (.ref a)])) (fun _ k => XS.iload Xj168.here hx rfl (hb hby at_171) rfl k) ?_
          refine Goes.by (T' := Tj168) (g' := (mkF m 175 #[l0, l1, l2, l3, l4, l5, SI ia, SI ia, SI ia, l9, l10, l11, SD z1, S2, SD z2, S2, SD z3, S2, l18, l19, SI 1, SI 1, SI 1, SA a, SU, SU, SU, SU] [(.double z1), (.int ia), (.ref a)])) (fun _ k => XS.dload Xj168.here hx rfl (hb hby at_173) rfl k) ?_
          obtain ⟨v169, T169, L169, X169, hQ169, st169⟩ := callV Xj168 hx hZ (y := (⟨"com/example/gibbon/gibbon/analysis/SparseSum", "add", "(ID)D"⟩ : MethodName)) hown (hw _ (List.mem_of_getElem? (i := 15) rfl)) (hw _ (List.mem_of_getElem? (i := 16) rfl)) (hw _ (List.mem_of_getElem? (i := 18) rfl)) (hw _ (List.mem_of_getElem? (i := 17) rfl)) (hw _ (List.mem_of_getElem? (i := 19) rfl)) (hw _ (List.mem_of_getElem? (i := 2) rfl)) (by decide) ej168 EA (argsL := [(.int ia), (.double z1)]) (rest := []) (W := 0) (rm_addN l Z a0 hw a br bi (0 : Int32) ia ka z1 w1.toInt (fun _ => 0) [] _ _ hj168 n0 Z0 EA FS FI FN VS VI hR hka (by omega) D_z1 bw1 (by decide) (by simp) ge_a gr gi n4 n2 n5 (by rw [h128]; omega)) rfl (by decide) (by decide) (by decide) (by decide) (g := (mkF m 175 #[l0, l1, l2, l3, l4, l5, SI ia, SI ia, SI ia, l9, l10, l11, SD z1, S2, SD z2, S2, SD z3, S2, l18, l19, SI 1, SI 1, SI 1, SA a, SU, SU, SU, SU] [(.double z1), (.int ia), (.ref a)])) rfl (by rw [hml]; rfl) (lenOf pd3 rfl) rfl (by show 2 * 0 + _ ≤ _; exact Nat.le_of_eq rfl) (hb hby at_175)
          obtain ⟨rq11, b11, nq11, x11, y11, rfl, -, FS, FI, FN, VS, VI, hR11, hl11, hpr11, g11, na11, nb11, K169, NL169⟩ := hQ169
          have N0 := Fr.app N0 NL169
          have e169 : T169.heap = T169.heap := rfl
          have EA := EA.keep K169
          have Z0 := Nat.le_trans Z0 K169.1
          refine Goes.by (T' := T169) (g' := (mkF m 178 #[l0, l1, l2, l3, l4, l5, SI ia, SI ia, SI ia, l9, l10, l11, SD z1, S2, SD z2, S2, SD z3, S2, l18, l19, SI 1, SI 1, SI 1, SA a, SU, SU, SU, SU] [(.double rq11)])) st169 ?_
          rw [if_pos rfl] at hR11
          obtain rfl : nq11 = (1 : Int32) := Int32.toInt_inj.mp (by rw [hR11.2.2.2.2.1]; rfl)
          have h128_11 : x11.length = 128 := hpr11.trans h128
          refine Goes.by (T' := T169) (g' := (mkF m 179 #[l0, l1, l2, l3, l4, l5, SI ia, SI ia, SI ia, l9, l10, l11, SD z1, S2, SD z2, S2, SD z3, S2, l18, l19, SI 1, SI 1, SI 1, SA a, SU, SU, SU, SU] [])) (fun _ k => XS.pop2W X169.here hx rfl (hb hby at_178) rfl rfl k) ?_
          refine Goes.by (T' := T169) (g' := (mkF m 181 #[l0, l1, l2, l3, l4, l5, SI ia, SI ia, SI ia, l9, l10, l11, SD z1, S2, SD z2, S2, SD z3, S2, l18, l19, SI 1, SI 1, SI 1, SA a, SU, SU, SU, SU] [(.int (1 : Int32))])) (fun _ k => XS.iload X169.here hx rfl (hb hby at_179) rfl k) ?_
          refine Goes.by (T' := T169) (g' := (mkF m 184 #[l0, l1, l2, l3, l4, l5, SI ia, SI ia, SI ia, l9, l10, l11, SD z1, S2, SD z2, S2, SD z3, S2, l18, l19, SI 1, SI 1, SI 1, SA a, SU, SU, SU, SU] [])) (fun _ k => XS.ifNo X169.here hx rfl (hb hby at_181) rfl (by decide) k) ?_
          refine Goes.by (T' := T169) (g' := (mkF m 186 #[l0, l1, l2, l3, l4, l5, SI ia, SI ia, SI ia, l9, l10, l11, SD z1, S2, SD z2, S2, SD z3, S2, l18, l19, SI 1, SI 1, SI 1, SA a, SU, SU, SU, SU] [(.ref a)])) (fun _ k => XS.aload X169.here hx rfl (hb hby at_184) rfl rfl k) ?_
          refine Goes.by (T' := T169) (g' := (mkF m 188 #[l0, l1, l2, l3, l4, l5, SI ia, SI ia, SI ia, l9, l10, l11, SD z1, S2, SD z2, S2, SD z3, S2, l18, l19, SI 1, SI 1, SI 1, SA a, SU, SU, SU, SU] [(.int ia), (.ref a)])) (fun _ k => XS.iload X169.here hx rfl (hb hby at_186) rfl k) ?_
          refine Goes.by (T' := T169) (g' := (mkF m 190 #[l0, l1, l2, l3, l4, l5, SI ia, SI ia, SI ia, l9, l10, l11, SD z1, S2, SD z2, S2, SD z3, S2, l18, l19, SI 1, SI 1, SI 1, SA a, SU, SU, SU, SU] [(.double z2), (.int ia), (.ref a)])) (fun _ k => XS.dload X169.here hx rfl (hb hby at_188) rfl k) ?_
          have fv2 : (own_upd (fun _ => 0) ka w1.toInt) ka = w1.toInt := by simp [own_upd]
          obtain ⟨v170, T170, L170, X170, hQ170, st170⟩ := callV X169 hx hZ (y := (⟨"com/example/gibbon/gibbon/analysis/SparseSum", "add", "(ID)D"⟩ : MethodName)) hown (hw _ (List.mem_of_getElem? (i := 15) rfl)) (hw _ (List.mem_of_getElem? (i := 16) rfl)) (hw _ (List.mem_of_getElem? (i := 18) rfl)) (hw _ (List.mem_of_getElem? (i := 17) rfl)) (hw _ (List.mem_of_getElem? (i := 19) rfl)) (hw _ (List.mem_of_getElem? (i := 2) rfl)) (by decide) e169 EA (argsL := [(.int ia), (.double z2)]) (rest := []) (W := 0) (rm_addN l Z a0 hw a b11 bi (1 : Int32) ia ka z2 w2.toInt (own_upd (fun _ => 0) ka w1.toInt) ([] ++ [ka]) _ _ T169.heap n0 Z0 EA FS FI FN VS VI hR11 hka (by omega) D_z2 bw2 (by rw [fv2]; omega) (by simp) ge_a g11 gi na11 n2 nb11 (by rw [h128_11]; omega)) rfl (by decide) (by decide) (by decide) (by decide) (g := (mkF m 190 #[l0, l1, l2, l3, l4, l5, SI ia, SI ia, SI ia, l9, l10, l11, SD z1, S2, SD z2, S2, SD z3, S2, l18, l19, SI 1, SI 1, SI 1, SA a, SU, SU, SU, SU] [(.double z2), (.int ia), (.ref a)])) rfl (by rw [hml]; rfl) (lenOf pd3 rfl) rfl (by show 2 * 0 + _ ≤ _; exact Nat.le_of_eq rfl) (hb hby at_190)
          obtain ⟨rq12, b12, nq12, x12, y12, rfl, -, FS, FI, FN, VS, VI, hR12, hl12, hpr12, g12, na12, nb12, K170, NL170⟩ := hQ170
          have N0 := Fr.app N0 NL170
          have e170 : T170.heap = T170.heap := rfl
          have EA := EA.keep K170
          have Z0 := Nat.le_trans Z0 K170.1
          refine Goes.by (T' := T170) (g' := (mkF m 193 #[l0, l1, l2, l3, l4, l5, SI ia, SI ia, SI ia, l9, l10, l11, SD z1, S2, SD z2, S2, SD z3, S2, l18, l19, SI 1, SI 1, SI 1, SA a, SU, SU, SU, SU] [(.double rq12)])) st170 ?_
          rw [if_neg (by rw [fv2]; omega)] at hR12
          obtain rfl : nq12 = (1 : Int32) := Int32.toInt_inj.mp (by rw [hR12.2.2.2.2.1]; rfl)
          have h128_12 : x12.length = 128 := hpr12.trans h128_11
          refine Goes.by (T' := T170) (g' := (mkF m 194 #[l0, l1, l2, l3, l4, l5, SI ia, SI ia, SI ia, l9, l10, l11, SD z1, S2, SD z2, S2, SD z3, S2, l18, l19, SI 1, SI 1, SI 1, SA a, SU, SU, SU, SU] [])) (fun _ k => XS.pop2W X170.here hx rfl (hb hby at_193) rfl rfl k) ?_
          refine Goes.by (T' := T170) (g' := (mkF m 196 #[l0, l1, l2, l3, l4, l5, SI ia, SI ia, SI ia, l9, l10, l11, SD z1, S2, SD z2, S2, SD z3, S2, l18, l19, SI 1, SI 1, SI 1, SA a, SU, SU, SU, SU] [(.int (1 : Int32))])) (fun _ k => XS.iload X170.here hx rfl (hb hby at_194) rfl k) ?_
          refine Goes.by (T' := T170) (g' := (mkF m 199 #[l0, l1, l2, l3, l4, l5, SI ia, SI ia, SI ia, l9, l10, l11, SD z1, S2, SD z2, S2, SD z3, S2, l18, l19, SI 1, SI 1, SI 1, SA a, SU, SU, SU, SU] [])) (fun _ k => XS.ifNo X170.here hx rfl (hb hby at_196) rfl (by decide) k) ?_
          refine Goes.by (T' := T170) (g' := (mkF m 201 #[l0, l1, l2, l3, l4, l5, SI ia, SI ia, SI ia, l9, l10, l11, SD z1, S2, SD z2, S2, SD z3, S2, l18, l19, SI 1, SI 1, SI 1, SA a, SU, SU, SU, SU] [(.ref a)])) (fun _ k => XS.aload X170.here hx rfl (hb hby at_199) rfl rfl k) ?_
          refine Goes.by (T' := T170) (g' := (mkF m 203 #[l0, l1, l2, l3, l4, l5, SI ia, SI ia, SI ia, l9, l10, l11, SD z1, S2, SD z2, S2, SD z3, S2, l18, l19, SI 1, SI 1, SI 1, SA a, SU, SU, SU, SU] [(.int ia), (.ref a)])) (fun _ k => XS.iload X170.here hx rfl (hb hby at_201) rfl k) ?_
          refine Goes.by (T' := T170) (g' := (mkF m 205 #[l0, l1, l2, l3, l4, l5, SI ia, SI ia, SI ia, l9, l10, l11, SD z1, S2, SD z2, S2, SD z3, S2, l18, l19, SI 1, SI 1, SI 1, SA a, SU, SU, SU, SU] [(.double z3), (.int ia), (.ref a)])) (fun _ k => XS.dload X170.here hx rfl (hb hby at_203) rfl k) ?_
          have fv3 : (own_upd (own_upd (fun _ => 0) ka w1.toInt) ka w2.toInt) ka = w1.toInt + w2.toInt := by simp [own_upd]
          obtain ⟨v171, T171, L171, X171, hQ171, st171⟩ := callV X170 hx hZ (y := (⟨"com/example/gibbon/gibbon/analysis/SparseSum", "add", "(ID)D"⟩ : MethodName)) hown (hw _ (List.mem_of_getElem? (i := 15) rfl)) (hw _ (List.mem_of_getElem? (i := 16) rfl)) (hw _ (List.mem_of_getElem? (i := 18) rfl)) (hw _ (List.mem_of_getElem? (i := 17) rfl)) (hw _ (List.mem_of_getElem? (i := 19) rfl)) (hw _ (List.mem_of_getElem? (i := 2) rfl)) (by decide) e170 EA (argsL := [(.int ia), (.double z3)]) (rest := []) (W := 0) (rm_addN l Z a0 hw a b12 bi (1 : Int32) ia ka z3 w3.toInt (own_upd (own_upd (fun _ => 0) ka w1.toInt) ka w2.toInt) ([] ++ [ka]) _ _ T170.heap n0 Z0 EA FS FI FN VS VI hR12 hka (by omega) D_z3 bw3 (by rw [fv3]; omega) (by simp) ge_a g12 gi na12 n2 nb12 (by rw [h128_12]; omega)) rfl (by decide) (by decide) (by decide) (by decide) (g := (mkF m 205 #[l0, l1, l2, l3, l4, l5, SI ia, SI ia, SI ia, l9, l10, l11, SD z1, S2, SD z2, S2, SD z3, S2, l18, l19, SI 1, SI 1, SI 1, SA a, SU, SU, SU, SU] [(.double z3), (.int ia), (.ref a)])) rfl (by rw [hml]; rfl) (lenOf pd3 rfl) rfl (by show 2 * 0 + _ ≤ _; exact Nat.le_of_eq rfl) (hb hby at_205)
          obtain ⟨rq13, b13, nq13, x13, y13, rfl, -, FS, FI, FN, VS, VI, hR13, hl13, hpr13, g13, na13, nb13, K171, NL171⟩ := hQ171
          have N0 := Fr.app N0 NL171
          have e171 : T171.heap = T171.heap := rfl
          have EA := EA.keep K171
          have Z0 := Nat.le_trans Z0 K171.1
          refine Goes.by (T' := T171) (g' := (mkF m 208 #[l0, l1, l2, l3, l4, l5, SI ia, SI ia, SI ia, l9, l10, l11, SD z1, S2, SD z2, S2, SD z3, S2, l18, l19, SI 1, SI 1, SI 1, SA a, SU, SU, SU, SU] [(.double rq13)])) st171 ?_
          rw [if_neg (by rw [fv3]; omega)] at hR13
          obtain rfl : nq13 = (1 : Int32) := Int32.toInt_inj.mp (by rw [hR13.2.2.2.2.1]; rfl)
          have h128_13 : x13.length = 128 := hpr13.trans h128_12
          refine Goes.by (T' := T171) (g' := (mkF m 209 #[l0, l1, l2, l3, l4, l5, SI ia, SI ia, SI ia, l9, l10, l11, SD z1, S2, SD z2, S2, SD z3, S2, l18, l19, SI 1, SI 1, SI 1, SA a, SU, SU, SU, SU] [])) (fun _ k => XS.pop2W X171.here hx rfl (hb hby at_208) rfl rfl k) ?_
          refine Goes.by (T' := T171) (g' := (mkF m 210 #[l0, l1, l2, l3, l4, l5, SI ia, SI ia, SI ia, l9, l10, l11, SD z1, S2, SD z2, S2, SD z3, S2, l18, l19, SI 1, SI 1, SI 1, SA a, SU, SU, SU, SU] [(.int (3 : Int32))])) (fun _ k => XS.iconst X171.here hx rfl (hb hby at_209)  k) ?_
          obtain ⟨T172, h172, k172, X172, e172, E172, A172, st172⟩ := newP X171 hx hZ (hw _ (List.mem_of_getElem? (i := 9) rfl)) e171 (g := (mkF m 210 #[l0, l1, l2, l3, l4, l5, SI ia, SI ia, SI ia, l9, l10, l11, SD z1, S2, SD z2, S2, SD z3, S2, l18, l19, SI 1, SI 1, SI 1, SA a, SU, SU, SU, SU] [(.int (3 : Int32))])) rfl (hb hby at_210) rfl (by decide) (cap := 3) (by decide) (by decide) (by decide) (by decide)
          obtain ⟨ea, g172⟩ : ∃ z, z = T171.heap.size := ⟨_, rfl⟩
          rw [← g172] at A172 st172
          have ne_a_ea : a ≠ ea := fun q => Nat.lt_irrefl _ (Nat.lt_of_lt_of_eq EA.lt (g172.symm.trans q.symm))
          have ne_b13_ea : b13 ≠ ea := fun q => Nat.lt_irrefl _ (Nat.lt_of_lt_of_eq VS.lt (g172.symm.trans q.symm))
          have ne_bi_ea : bi ≠ ea := fun q => Nat.lt_irrefl _ (Nat.lt_of_lt_of_eq VI.lt (g172.symm.trans q.symm))
          have ge_ea : n0 ≤ ea := Nat.le_trans Z0 (Nat.le_of_eq g172.symm)
          have EA := EA.ext E172
          have FS := FS.ext E172
          have FI := FI.ext E172
          have FN := FN.ext E172
          have VS := VS.ext E172
          have VI := VI.ext E172
          have Z0 := Nat.le_trans Z0 E172.1
          have V_ea : Sar Z h172 ea .double [(.double (0 : UInt64)), (.double (0 : UInt64)), (.double (0 : UInt64))] := Sar.new (n := 3) A172 (by decide)
          refine Goes.by (T' := T172) (g' := (mkF m 212 #[l0, l1, l2, l3, l4, l5, SI ia, SI ia, SI ia, l9, l10, l11, SD z1, S2, SD z2, S2, SD z3, S2, l18, l19, SI 1, SI 1, SI 1, SA a, SU, SU, SU, SU] [(.ref ea)])) st172 ?_
          refine Goes.by (T' := T172) (g' := (mkF m 214 #[l0, l1, l2, l3, l4, l5, SI ia, SI ia, SI ia, l9, l10, l11, SD z1, S2, SD z2, S2, SD z3, S2, l18, l19, SI 1, SI 1, SI 1, SA a, SA ea, SU, SU, SU] [])) (fun _ k => XS.astore X172.here hx rfl (hb hby at_212) rfl rfl (l' := #[l0, l1, l2, l3, l4, l5, SI ia, SI ia, SI ia, l9, l10, l11, SD z1, S2, SD z2, S2, SD z3, S2, l18, l19, SI 1, SI 1, SI 1, SA a, SA ea, SU, SU, SU]) rfl k) ?_
          refine Goes.by (T' := T172) (g' := (mkF m 215 #[l0, l1, l2, l3, l4, l5, SI ia, SI ia, SI ia, l9, l10, l11, SD z1, S2, SD z2, S2, SD z3, S2, l18, l19, SI 1, SI 1, SI 1, SA a, SA ea, SU, SU, SU] [(.int (0 : Int32))])) (fun _ k => XS.iconst X172.here hx rfl (hb hby at_214)  k) ?_
          refine Goes.by (T' := T172) (g' := (mkF m 217 #[l0, l1, l2, l3, l4, l5, SI ia, SI ia, SI ia, l9, l10, l11, SD z1, S2, SD z2, S2, SD z3, S2, l18, l19, SI 1, SI 1, SI 1, SA a, SA ea, SI 0, SU, SU] [])) (fun _ k => XS.istore X172.here hx rfl (hb hby at_215) rfl (l' := #[l0, l1, l2, l3, l4, l5, SI ia, SI ia, SI ia, l9, l10, l11, SD z1, S2, SD z2, S2, SD z3, S2, l18, l19, SI 1, SI 1, SI 1, SA a, SA ea, SI 0, SU, SU]) rfl k) ?_
          refine Goes.by (T' := T172) (g' := (mkF m 219 #[l0, l1, l2, l3, l4, l5, SI ia, SI ia, SI ia, l9, l10, l11, SD z1, S2, SD z2, S2, SD z3, S2, l18, l19, SI 1, SI 1, SI 1, SA a, SA ea, SI 0, SU, SU] [(.int (1 : Int32))])) (fun _ k => XS.iload X172.here hx rfl (hb hby at_217) rfl k) ?_
          refine Goes.by (T' := T172) (g' := (mkF m 222 #[l0, l1, l2, l3, l4, l5, SI ia, SI ia, SI ia, l9, l10, l11, SD z1, S2, SD z2, S2, SD z3, S2, l18, l19, SI 1, SI 1, SI 1, SA a, SA ea, SI 0, SU, SU] [])) (fun _ k => XS.ifNo X172.here hx rfl (hb hby at_219) rfl (by decide) k) ?_
          refine Goes.by (T' := T172) (g' := (mkF m 224 #[l0, l1, l2, l3, l4, l5, SI ia, SI ia, SI ia, l9, l10, l11, SD z1, S2, SD z2, S2, SD z3, S2, l18, l19, SI 1, SI 1, SI 1, SA a, SA ea, SI 0, SU, SU] [(.double z1)])) (fun _ k => XS.dload X172.here hx rfl (hb hby at_222) rfl k) ?_
          refine Goes.by (T' := T172) (g' := (mkF m 226 #[l0, l1, l2, l3, l4, l5, SI ia, SI ia, SI ia, l9, l10, l11, SD z1, S2, SD z2, S2, SD z3, S2, l18, l19, SI 1, SI 1, SI 1, SA a, SA ea, SI 0, SD z1, S2] [])) (fun _ k => XS.dstore X172.here hx rfl (hb hby at_224) rfl (l' := #[l0, l1, l2, l3, l4, l5, SI ia, SI ia, SI ia, l9, l10, l11, SD z1, S2, SD z2, S2, SD z3, S2, l18, l19, SI 1, SI 1, SI 1, SA a, SA ea, SI 0, SD z1, S2]) rfl k) ?_
          refine Goes.by (T' := T172) (g' := (mkF m 228 #[l0, l1, l2, l3, l4, l5, SI ia, SI ia, SI ia, l9, l10, l11, SD z1, S2, SD z2, S2, SD z3, S2, l18, l19, SI 1, SI 1, SI 1, SA a, SA ea, SI 0, SD z1, S2] [(.int (1 : Int32))])) (fun _ k => XS.iload X172.here hx rfl (hb hby at_226) rfl k) ?_
          refine Goes.by (T' := T172) (g' := (mkF m 231 #[l0, l1, l2, l3, l4, l5, SI ia, SI ia, SI ia, l9, l10, l11, SD z1, S2, SD z2, S2, SD z3, S2, l18, l19, SI 1, SI 1, SI 1, SA a, SA ea, SI 0, SD z1, S2] [])) (fun _ k => XS.ifNo X172.here hx rfl (hb hby at_228) rfl (by decide) k) ?_
          refine Goes.by (T' := T172) (g' := (mkF m 233 #[l0, l1, l2, l3, l4, l5, SI ia, SI ia, SI ia, l9, l10, l11, SD z1, S2, SD z2, S2, SD z3, S2, l18, l19, SI 1, SI 1, SI 1, SA a, SA ea, SI 0, SD z1, S2] [(.int ia)])) (fun _ k => XS.iload X172.here hx rfl (hb hby at_231) rfl k) ?_
          refine Goes.by (T' := T172) (g' := (mkF m 235 #[l0, l1, l2, l3, l4, l5, SI ia, SI ia, SI ia, l9, l10, l11, SD z1, S2, SD z2, S2, SD z3, S2, l18, l19, SI 1, SI 1, SI 1, SA a, SA ea, SI 0, SD z1, S2] [(.int ia), (.int ia)])) (fun _ k => XS.iload X172.here hx rfl (hb hby at_233) rfl k) ?_
          refine Goes.by (T' := T172) (g' := (mkF m 238 #[l0, l1, l2, l3, l4, l5, SI ia, SI ia, SI ia, l9, l10, l11, SD z1, S2, SD z2, S2, SD z3, S2, l18, l19, SI 1, SI 1, SI 1, SA a, SA ea, SI 0, SD z1, S2] [])) (fun _ k => XS.icmpNo X172.here hx rfl (hb hby at_235) rfl (teq rfl).2 k) ?_
          refine Goes.by (T' := T172) (g' := (mkF m 240 #[l0, l1, l2, l3, l4, l5, SI ia, SI ia, SI ia, l9, l10, l11, SD z1, S2, SD z2, S2, SD z3, S2, l18, l19, SI 1, SI 1, SI 1, SA a, SA ea, SI 0, SD z1, S2] [(.double z1)])) (fun _ k => XS.dload X172.here hx rfl (hb hby at_238) rfl k) ?_
          refine Goes.by (T' := T172) (g' := (mkF m 242 #[l0, l1, l2, l3, l4, l5, SI ia, SI ia, SI ia, l9, l10, l11, SD z1, S2, SD z2, S2, SD z3, S2, l18, l19, SI 1, SI 1, SI 1, SA a, SA ea, SI 0, SD z1, S2] [(.double z2), (.double z1)])) (fun _ k => XS.dload X172.here hx rfl (hb hby at_240) rfl k) ?_
          obtain ⟨t1, q_t1⟩ : ∃ zz, FP.dadd z1 z2 = zz := ⟨_, rfl⟩
          have D_t1 : Core.DInt (w1.toInt + w2.toInt) t1 := DInt_add q_t1 D_z1 D_z2 (by omega)
          refine Goes.by (T' := T172) (g' := (mkF m 243 #[l0, l1, l2, l3, l4, l5, SI ia, SI ia, SI ia, l9, l10, l11, SD z1, S2, SD z2, S2, SD z3, S2, l18, l19, SI 1, SI 1, SI 1, SA a, SA ea, SI 0, SD z1, S2] [(.double t1)])) (fun _ k => XS.daddS X172.here hx rfl (hb hby at_242) rfl (by rw [q_t1]; exact DInt_nn D_t1) q_t1 k) ?_
          refine Goes.by (T' := T172) (g' := (mkF m 245 #[l0, l1, l2, l3, l4, l5, SI ia, SI ia, SI ia, l9, l10, l11, SD z1, S2, SD z2, S2, SD z3, S2, l18, l19, SI 1, SI 1, SI 1, SA a, SA ea, SI 0, SD t1, S2] [])) (fun _ k => XS.dstore X172.here hx rfl (hb hby at_243) rfl (l' := #[l0, l1, l2, l3, l4, l5, SI ia, SI ia, SI ia, l9, l10, l11, SD z1, S2, SD z2, S2, SD z3, S2, l18, l19, SI 1, SI 1, SI 1, SA a, SA ea, SI 0, SD t1, S2]) rfl k) ?_
          refine Goes.by (T' := T172) (g' := (mkF m 247 #[l0, l1, l2, l3, l4, l5, SI ia, SI ia, SI ia, l9, l10, l11, SD z1, S2, SD z2, S2, SD z3, S2, l18, l19, SI 1, SI 1, SI 1, SA a, SA ea, SI 0, SD t1, S2] [(.int (1 : Int32))])) (fun _ k => XS.iload X172.here hx rfl (hb hby at_245) rfl k) ?_
          refine Goes.by (T' := T172) (g' := (mkF m 250 #[l0, l1, l2, l3, l4, l5, SI ia, SI ia, SI ia, l9, l10, l11, SD z1, S2, SD z2, S2, SD z3, S2, l18, l19, SI 1, SI 1, SI 1, SA a, SA ea, SI 0, SD t1, S2] [])) (fun _ k => XS.ifNo X172.here hx rfl (hb hby at_247) rfl (by decide) k) ?_
          refine Goes.by (T' := T172) (g' := (mkF m 252 #[l0, l1, l2, l3, l4, l5, SI ia, SI ia, SI ia, l9, l10, l11, SD z1, S2, SD z2, S2, SD z3, S2, l18, l19, SI 1, SI 1, SI 1, SA a, SA ea, SI 0, SD t1, S2] [(.int ia)])) (fun _ k => XS.iload X172.here hx rfl (hb hby at_250) rfl k) ?_
          refine Goes.by (T' := T172) (g' := (mkF m 254 #[l0, l1, l2, l3, l4, l5, SI ia, SI ia, SI ia, l9, l10, l11, SD z1, S2, SD z2, S2, SD z3, S2, l18, l19, SI 1, SI 1, SI 1, SA a, SA ea, SI 0, SD t1, S2] [(.int ia), (.int ia)])) (fun _ k => XS.iload X172.here hx rfl (hb hby at_252) rfl k) ?_
          refine Goes.by (T' := T172) (g' := (mkF m 257 #[l0, l1, l2, l3, l4, l5, SI ia, SI ia, SI ia, l9, l10, l11, SD z1, S2, SD z2, S2, SD z3, S2, l18, l19, SI 1, SI 1, SI 1, SA a, SA ea, SI 0, SD t1, S2] [])) (fun _ k => XS.icmpNo X172.here hx rfl (hb hby at_254) rfl (teq rfl).2 k) ?_
          refine Goes.by (T' := T172) (g' := (mkF m 259 #[l0, l1, l2, l3, l4, l5, SI ia, SI ia, SI ia, l9, l10, l11, SD z1, S2, SD z2, S2, SD z3, S2, l18, l19, SI 1, SI 1, SI 1, SA a, SA ea, SI 0, SD t1, S2] [(.double t1)])) (fun _ k => XS.dload X172.here hx rfl (hb hby at_257) rfl k) ?_
          refine Goes.by (T' := T172) (g' := (mkF m 261 #[l0, l1, l2, l3, l4, l5, SI ia, SI ia, SI ia, l9, l10, l11, SD z1, S2, SD z2, S2, SD z3, S2, l18, l19, SI 1, SI 1, SI 1, SA a, SA ea, SI 0, SD t1, S2] [(.double z3), (.double t1)])) (fun _ k => XS.dload X172.here hx rfl (hb hby at_259) rfl k) ?_
          obtain ⟨t2, q_t2⟩ : ∃ zz, FP.dadd t1 z3 = zz := ⟨_, rfl⟩
          have D_t2 : Core.DInt ((w1.toInt + w2.toInt) + w3.toInt) t2 := DInt_add q_t2 D_t1 D_z3 (by omega)
          refine Goes.by (T' := T172) (g' := (mkF m 262 #[l0, l1, l2, l3, l4, l5, SI ia, SI ia, SI ia, l9, l10, l11, SD z1, S2, SD z2, S2, SD z3, S2, l18, l19, SI 1, SI 1, SI 1, SA a, SA ea, SI 0, SD t1, S2] [(.double t2)])) (fun _ k => XS.daddS X172.here hx rfl (hb hby at_261) rfl (by rw [q_t2]; exact DInt_nn D_t2) q_t2 k) ?_
          refine Goes.by (T' := T172) (g' := (mkF m 264 #[l0, l1, l2, l3, l4, l5, SI ia, SI ia, SI ia, l9, l10, l11, SD z1, S2, SD z2, S2, SD z3, S2, l18, l19, SI 1, SI 1, SI 1, SA a, SA ea, SI 0, SD t2, S2] [])) (fun _ k => XS.dstore X172.here hx rfl (hb hby at_262) rfl (l' := #[l0, l1, l2, l3, l4, l5, SI ia, SI ia, SI ia, l9, l10, l11, SD z1, S2, SD z2, S2, SD z3, S2, l18, l19, SI 1, SI 1, SI 1, SA a, SA ea, SI 0, SD t2, S2]) rfl k) ?_
          refine Goes.by (T' := T172) (g' := (mkF m 266 #[l0, l1, l2, l3, l4, l5, SI ia, SI ia, SI ia, l9, l10, l11, SD z1, S2, SD z2, S2, SD z3, S2, l18, l19, SI 1, SI 1, SI 1, SA a, SA ea, SI 0, SD t2, S2] [(.ref ea)])) (fun _ k => XS.aload X172.here hx rfl (hb hby at_264) rfl rfl k) ?_
          refine Goes.by (T' := T172) (g' := (mkF m 268 #[l0, l1, l2, l3, l4, l5, SI ia, SI ia, SI ia, l9, l10, l11, SD z1, S2, SD z2, S2, SD z3, S2, l18, l19, SI 1, SI 1, SI 1, SA a, SA ea, SI 0, SD t2, S2] [(.int (0 : Int32)), (.ref ea)])) (fun _ k => XS.iload X172.here hx rfl (hb hby at_266) rfl k) ?_
          refine Goes.by (T' := T172) (g' := (mkF m 270 #[l0, l1, l2, l3, l4, l5, SI ia, SI ia, SI ia, l9, l10, l11, SD z1, S2, SD z2, S2, SD z3, S2, l18, l19, SI 1, SI 1, SI 1, SA a, SA ea, SI 0, SD t2, S2] [(.double t2), (.int (0 : Int32)), (.ref ea)])) (fun _ k => XS.dload X172.here hx rfl (hb hby at_268) rfl k) ?_
          obtain ⟨T173, h173, X173, e173, W173, V173, st173⟩ := stDS X172 hx hZ e172 V_ea (j := (0 : Int32)) 0 (by decide) (by show 0 < 3; decide) (g := (mkF m 270 #[l0, l1, l2, l3, l4, l5, SI ia, SI ia, SI ia, l9, l10, l11, SD z1, S2, SD z2, S2, SD z3, S2, l18, l19, SI 1, SI 1, SI 1, SA a, SA ea, SI 0, SD t2, S2] [(.double t2), (.int (0 : Int32)), (.ref ea)])) rfl rfl (hb hby at_270)
          have N0 := Fr.snoc X173 N0 ge_ea
          have EA := EA.wr W173
          have FS := FS.other W173 (Or.inl ne_a_ea)
          have FI := FI.other W173 (Or.inl ne_a_ea)
          have FN := FN.other W173 (Or.inl ne_a_ea)
          have VS := VS.other W173 ne_b13_ea
          have VI := VI.other W173 ne_bi_ea
          have Z0 := Nat.le_trans Z0 (Nat.le_of_eq W173.size.symm)
          have V_ea : Sar Z h173 ea .double [(.double t2), (.double (0 : UInt64)), (.double (0 : UInt64))] := V173
          refine Goes.by (T' := T173) (g' := (mkF m 271 #[l0, l1, l2, l3, l4, l5, SI ia, SI ia, SI ia, l9, l10, l11, SD z1, S2, SD z2, S2, SD z3, S2, l18, l19, SI 1, SI 1, SI 1, SA a, SA ea, SI 0, SD t2, S2] [])) st173 ?_
          refine Goes.by (T' := T173) (g' := (mkF m 273 #[l0, l1, l2, l3, l4, l5, SI ia, SI ia, SI ia, l9, l10, l11, SD z1, S2, SD z2, S2, SD z3, S2, l18, l19, SI 1, SI 1, SI 1, SA a, SA ea, SI 0, SD t2, S2] [(.int (0 : Int32))])) (fun _ k => XS.iload X173.here hx rfl (hb hby at_271) rfl k) ?_
          refine Goes.by (T' := T173) (g' := (mkF m 274 #[l0, l1, l2, l3, l4, l5, SI ia, SI ia, SI ia, l9, l10, l11, SD z1, S2, SD z2, S2, SD z3, S2, l18, l19, SI 1, SI 1, SI 1, SA a, SA ea, SI 0, SD t2, S2] [(.int (1 : Int32)), (.int (0 : Int32))])) (fun _ k => XS.iconst X173.here hx rfl (hb hby at_273)  k) ?_
          refine Goes.by (T' := T173) (g' := (mkF m 275 #[l0, l1, l2, l3, l4, l5, SI ia, SI ia, SI ia, l9, l10, l11, SD z1, S2, SD z2, S2, SD z3, S2, l18, l19, SI 1, SI 1, SI 1, SA a, SA ea, SI 0, SD t2, S2] [(.int (1 : Int32))])) (fun _ k => XS.iadd X173.here hx rfl (hb hby at_274) rfl k) ?_
          refine Goes.by (T' := T173) (g' := (mkF m 277 #[l0, l1, l2, l3, l4, l5, SI ia, SI ia, SI ia, l9, l10, l11, SD z1, S2, SD z2, S2, SD z3, S2, l18, l19, SI 1, SI 1, SI 1, SA a, SA ea, SI 1, SD t2, S2] [])) (fun _ k => XS.istore X173.here hx rfl (hb hby at_275) rfl (l' := #[l0, l1, l2, l3, l4, l5, SI ia, SI ia, SI ia, l9, l10, l11, SD z1, S2, SD z2, S2, SD z3, S2, l18, l19, SI 1, SI 1, SI 1, SA a, SA ea, SI 1, SD t2, S2]) rfl k) ?_
          refine Goes.by (T' := T173) (g' := (mkF m 279 #[l0, l1, l2, l3, l4, l5, SI ia, SI ia, SI ia, l9, l10, l11, SD z1, S2, SD z2, S2, SD z3, S2, l18, l19, SI 1, SI 1, SI 1, SA a, SA ea, SI 1, SD t2, S2] [(.int (1 : Int32))])) (fun _ k => XS.iload X173.here hx rfl (hb hby at_277) rfl k) ?_
          refine Goes.by (T' := T173) (g' := (mkF m 282 #[l0, l1, l2, l3, l4, l5, SI ia, SI ia, SI ia, l9, l10, l11, SD z1, S2, SD z2, S2, SD z3, S2, l18, l19, SI 1, SI 1, SI 1, SA a, SA ea, SI 1, SD t2, S2] [])) (fun _ k => XS.ifNo X173.here hx rfl (hb hby at_279) rfl (by decide) k) ?_
          refine Goes.by (T' := T173) (g' := (mkF m 284 #[l0, l1, l2, l3, l4, l5, SI ia, SI ia, SI ia, l9, l10, l11, SD z1, S2, SD z2, S2, SD z3, S2, l18, l19, SI 1, SI 1, SI 1, SA a, SA ea, SI 1, SD t2, S2] [(.int ia)])) (fun _ k => XS.iload X173.here hx rfl (hb hby at_282) rfl k) ?_
          refine Goes.by (T' := T173) (g' := (mkF m 286 #[l0, l1, l2, l3, l4, l5, SI ia, SI ia, SI ia, l9, l10, l11, SD z1, S2, SD z2, S2, SD z3, S2, l18, l19, SI 1, SI 1, SI 1, SA a, SA ea, SI 1, SD t2, S2] [(.int ia), (.int ia)])) (fun _ k => XS.iload X173.here hx rfl (hb hby at_284) rfl k) ?_
          refine Goes.by (T' := T173) (g' := (mkF m 325 #[l0, l1, l2, l3, l4, l5, SI ia, SI ia, SI ia, l9, l10, l11, SD z1, S2, SD z2, S2, SD z3, S2, l18, l19, SI 1, SI 1, SI 1, SA a, SA ea, SI 1, SD t2, S2] [])) (fun _ k => XS.icmpYes X173.here hx rfl (pc0 := 286) (pc' := 325) rfl (hb hby at_286) rfl (teq rfl).1 (by decide) (by decide) k) ?_
          refine Goes.by (T' := T173) (g' := (mkF m 327 #[l0, l1, l2, l3, l4, l5, SI ia, SI ia, SI ia, l9, l10, l11, SD z1, S2, SD z2, S2, SD z3, S2, l18, l19, SI 1, SI 1, SI 1, SA a, SA ea, SI 1, SD t2, S2] [(.int (1 : Int32))])) (fun _ k => XS.iload X173.here hx rfl (hb hby at_325) rfl k) ?_
          refine Goes.by (T' := T173) (g' := (mkF m 330 #[l0, l1, l2, l3, l4, l5, SI ia, SI ia, SI ia, l9, l10, l11, SD z1, S2, SD z2, S2, SD z3, S2, l18, l19, SI 1, SI 1, SI 1, SA a, SA ea, SI 1, SD t2, S2] [])) (fun _ k => XS.ifNo X173.here hx rfl (hb hby at_327) rfl (by decide) k) ?_
          refine Goes.by (T' := T173) (g' := (mkF m 332 #[l0, l1, l2, l3, l4, l5, SI ia, SI ia, SI ia, l9, l10, l11, SD z1, S2, SD z2, S2, SD z3, S2, l18, l19, SI 1, SI 1, SI 1, SA a, SA ea, SI 1, SD t2, S2] [(.int ia)])) (fun _ k => XS.iload X173.here hx rfl (hb hby at_330) rfl k) ?_
          refine Goes.by (T' := T173) (g' := (mkF m 334 #[l0, l1, l2, l3, l4, l5, SI ia, SI ia, SI ia, l9, l10, l11, SD z1, S2, SD z2, S2, SD z3, S2, l18, l19, SI 1, SI 1, SI 1, SA a, SA ea, SI 1, SD t2, S2] [(.int ia), (.int ia)])) (fun _ k => XS.iload X173.here hx rfl (hb hby at_332) rfl k) ?_
          refine Goes.by (T' := T173) (g' := (mkF m 357 #[l0, l1, l2, l3, l4, l5, SI ia, SI ia, SI ia, l9, l10, l11, SD z1, S2, SD z2, S2, SD z3, S2, l18, l19, SI 1, SI 1, SI 1, SA a, SA ea, SI 1, SD t2, S2] [])) (fun _ k => XS.icmpYes X173.here hx rfl (pc0 := 334) (pc' := 357) rfl (hb hby at_334) rfl (teq rfl).1 (by decide) (by decide) k) ?_
          refine Goes.by (T' := T173) (g' := (mkF m 359 #[l0, l1, l2, l3, l4, l5, SI ia, SI ia, SI ia, l9, l10, l11, SD z1, S2, SD z2, S2, SD z3, S2, l18, l19, SI 1, SI 1, SI 1, SA a, SA ea, SI 1, SD t2, S2] [(.ref a)])) (fun _ k => XS.aload X173.here hx rfl (hb hby at_357) rfl rfl k) ?_
          obtain ⟨hq0, v0, hy0, hv0⟩ := hR13.2.2.2.2.2.2 0 ka (by simp)
          obtain ⟨d0, hx0, Dd0⟩ := hR13.2.1 ka hq0
          have fe0 : (own_upd (own_upd (own_upd (fun _ => 0) ka w1.toInt) ka w2.toInt) ka w3.toInt) ka = w1.toInt + w2.toInt + w3.toInt := by simp [own_upd]
          rw [fe0] at Dd0
          exact cmp1 a b13 bi ea _ _ _ _ _ v0 ka d0 ((w1.toInt + w2.toInt) + w3.toInt) _ _ _ _ _ _ _ _ _ _ _ _ _ _ _ _ _ _ _ _ _ _ _ _ _ _ _ (X173.wide (fun x hx _ => hx) (by decide) (by decide)) e173 N0 Z0 EA FS FI FN VS VI V_ea ge_a g13 gi ge_ea na13 nb13 n2 ne_a_ea ne_b13_ea ne_bi_ea hy0 hv0 hx0 Dd0 D_t2
        · have nkac : ka ≠ kc := fun q => hac (Int32.toInt_inj.mp (by rw [hka, hkc, q]))
          refine Goes.by (T' := Tj168) (g' := (mkF m 166 #[l0, l1, l2, l3, l4, l5, SI ia, SI ia, SI ic, l9, l10, l11, SD z1, S2, SD z2, S2, SD z3, S2, l18, l19, SI 1, SI 1, SI 1, SA a, SU, SU, SU, SU] [(.int (1 : Int32))])) (fun _ k => XS.iload Xj168.here hx rfl (hb hby at_164) rfl k) ?_
          refine Goes.by (T' := Tj168) (g' := (mkF m 169 #[l0, l1, l2, l3, l4, l5, SI ia, SI ia, SI ic, l9, l10, l11, SD z1, S2, SD z2, S2, SD z3, S2, l18, l19, SI 1, SI 1, SI 1, SA a, SU, SU, SU, SU] [])) (fun _ k => XS.ifNo Xj168.here hx rfl (hb hby at_166) rfl (by decide) k) ?_
          refine Goes.by (T' := Tj168) (g' := (mkF m 171 #[l0, l1, l2, l3, l4, l5, SI ia, SI ia, SI ic, l9, l10, l11, SD z1, S2, SD z2, S2, SD z3, S2, l18, l19, SI 1, SI 1, SI 1, SA a, SU, SU, SU, SU] [(.ref a)])) (fun _ k => XS.aload Xj168.here hx rfl (hb hby at_169) rfl rfl k) ?_
          refine Goes.by (T' := Tj168) (g' := (mkF m 173 #[l0, l1, l2, l3, l4, l5, SI ia, SI ia, SI ic, l9, l10, l11, SD z1, S2, SD z2, S2, SD z3, S2, l18, l19, SI 1, SI 1, SI 1, SA a, SU, SU, SU, SU] [(.int ia), (.ref a)])) (fun _ k => XS.iload Xj168.here hx rfl (hb hby at_171) rfl k) ?_
          refine Goes.by (T' := Tj168) (g' := (mkF m 175 #[l0, l1, l2, l3, l4, l5, SI ia, SI ia, SI ic, l9, l10, l11, SD z1, S2, SD z2, S2, SD z3, S2, l18, l19, SI 1, SI 1, SI 1, SA a, SU, SU, SU, SU] [(.double z1), (.int ia), (.ref a)])) (fun _ k => XS.dload Xj168.here hx rfl (hb hby at_173) rfl k) ?_
          obtain ⟨v174, T174, L174, X174, hQ174, st174⟩ := callV Xj168 hx hZ (y := (⟨"com/example/gibbon/gibbon/analysis/SparseSum", "add", "(ID)D"⟩ : MethodName)) hown (hw _ (List.mem_of_getElem? (i := 15) rfl)) (hw _ (List.mem_of_getElem? (i := 16) rfl)) (hw _ (List.mem_of_getElem? (i := 18) rfl)) (hw _ (List.mem_of_getElem? (i := 17) rfl)) (hw _ (List.mem_of_getElem? (i := 19) rfl)) (hw _ (List.mem_of_getElem? (i := 2) rfl)) (by decide) ej168 EA (argsL := [(.int ia), (.double z1)]) (rest := []) (W := 0) (rm_addN l Z a0 hw a br bi (0 : Int32) ia ka z1 w1.toInt (fun _ => 0) [] _ _ hj168 n0 Z0 EA FS FI FN VS VI hR hka (by omega) D_z1 bw1 (by decide) (by simp) ge_a gr gi n4 n2 n5 (by rw [h128]; omega)) rfl (by decide) (by decide) (by decide) (by decide) (g := (mkF m 175 #[l0, l1, l2, l3, l4, l5, SI ia, SI ia, SI ic, l9, l10, l11, SD z1, S2, SD z2, S2, SD z3, S2, l18, l19, SI 1, SI 1, SI 1, SA a, SU, SU, SU, SU] [(.double z1), (.int ia), (.ref a)])) rfl (by rw [hml]; rfl) (lenOf pd3 rfl) rfl (by show 2 * 0 + _ ≤ _; exact Nat.le_of_eq rfl) (hb hby at_175)
          obtain ⟨rq11, b11, nq11, x11, y11, rfl, -, FS, FI, FN, VS, VI, hR11, hl11, hpr11, g11, na11, nb11, K174, NL174⟩ := hQ174
          have N0 := Fr.app N0 NL174
          have e174 : T174.heap = T174.heap := rfl
          have EA := EA.keep K174
          have Z0 := Nat.le_trans Z0 K174.1
          refine Goes.by (T' := T174) (g' := (mkF m 178 #[l0, l1, l2, l3, l4, l5, SI ia, SI ia, SI ic, l9, l10, l11, SD z1, S2, SD z2, S2, SD z3, S2, l18, l19, SI 1, SI 1, SI 1, SA a, SU, SU, SU, SU] [(.double rq11)])) st174 ?_
          rw [if_pos rfl] at hR11
          obtain rfl : nq11 = (1 : Int32) := Int32.toInt_inj.mp (by rw [hR11.2.2.2.2.1]; rfl)
          have h128_11 : x11.length = 128 := hpr11.trans h128
          refine Goes.by (T' := T174) (g' := (mkF m 179 #[l0, l1, l2, l3, l4, l5, SI ia, SI ia, SI ic, l9, l10, l11, SD z1, S2, SD z2, S2, SD z3, S2, l18, l19, SI 1, SI 1, SI 1, SA a, SU, SU, SU, SU] [])) (fun _ k => XS.pop2W X174.here hx rfl (hb hby at_178) rfl rfl k) ?_
          refine Goes.by (T' := T174) (g' := (mkF m 181 #[l0, l1, l2, l3, l4, l5, SI ia, SI ia, SI ic, l9, l10, l11, SD z1, S2, SD z2, S2, SD z3, S2, l18, l19, SI 1, SI 1, SI 1, SA a, SU, SU, SU, SU] [(.int (1 : Int32))])) (fun _ k => XS.iload X174.here hx rfl (hb hby at_179) rfl k) ?_
          refine Goes.by (T' := T174) (g' := (mkF m 184 #[l0, l1, l2, l3, l4, l5, SI ia, SI ia, SI ic, l9, l10, l11, SD z1, S2, SD z2, S2, SD z3, S2, l18, l19, SI 1, SI 1, SI 1, SA a, SU, SU, SU, SU] [])) (fun _ k => XS.ifNo X174.here hx rfl (hb hby at_181) rfl (by decide) k) ?_
          refine Goes.by (T' := T174) (g' := (mkF m 186 #[l0, l1, l2, l3, l4, l5, SI ia, SI ia, SI ic, l9, l10, l11, SD z1, S2, SD z2, S2, SD z3, S2, l18, l19, SI 1, SI 1, SI 1, SA a, SU, SU, SU, SU] [(.ref a)])) (fun _ k => XS.aload X174.here hx rfl (hb hby at_184) rfl rfl k) ?_
          refine Goes.by (T' := T174) (g' := (mkF m 188 #[l0, l1, l2, l3, l4, l5, SI ia, SI ia, SI ic, l9, l10, l11, SD z1, S2, SD z2, S2, SD z3, S2, l18, l19, SI 1, SI 1, SI 1, SA a, SU, SU, SU, SU] [(.int ia), (.ref a)])) (fun _ k => XS.iload X174.here hx rfl (hb hby at_186) rfl k) ?_
          refine Goes.by (T' := T174) (g' := (mkF m 190 #[l0, l1, l2, l3, l4, l5, SI ia, SI ia, SI ic, l9, l10, l11, SD z1, S2, SD z2, S2, SD z3, S2, l18, l19, SI 1, SI 1, SI 1, SA a, SU, SU, SU, SU] [(.double z2), (.int ia), (.ref a)])) (fun _ k => XS.dload X174.here hx rfl (hb hby at_188) rfl k) ?_
          have fv2 : (own_upd (fun _ => 0) ka w1.toInt) ka = w1.toInt := by simp [own_upd, nkac, nkac.symm]
          obtain ⟨v175, T175, L175, X175, hQ175, st175⟩ := callV X174 hx hZ (y := (⟨"com/example/gibbon/gibbon/analysis/SparseSum", "add", "(ID)D"⟩ : MethodName)) hown (hw _ (List.mem_of_getElem? (i := 15) rfl)) (hw _ (List.mem_of_getElem? (i := 16) rfl)) (hw _ (List.mem_of_getElem? (i := 18) rfl)) (hw _ (List.mem_of_getElem? (i := 17) rfl)) (hw _ (List.mem_of_getElem? (i := 19) rfl)) (hw _ (List.mem_of_getElem? (i := 2) rfl)) (by decide) e174 EA (argsL := [(.int ia), (.double z2)]) (rest := []) (W := 0) (rm_addN l Z a0 hw a b11 bi (1 : Int32) ia ka z2 w2.toInt (own_upd (fun _ => 0) ka w1.toInt) ([] ++ [ka]) _ _ T174.heap n0 Z0 EA FS FI FN VS VI hR11 hka (by omega) D_z2 bw2 (by rw [fv2]; omega) (by simp) ge_a g11 gi na11 n2 nb11 (by rw [h128_11]; omega)) rfl (by decide) (by decide) (by decide) (by decide) (g := (mkF m 190 #[l0, l1, l2, l3, l4, l5, SI ia, SI ia, SI ic, l9, l10, l11, SD z1, S2, SD z2, S2, SD z3, S2, l18, l19, SI 1, SI 1, SI 1, SA a, SU, SU, SU, SU] [(.double z2), (.int ia), (.ref a)])) rfl (by rw [hml]; rfl) (lenOf pd3 rfl) rfl (by show 2 * 0 + _ ≤ _; exact Nat.le_of_eq rfl) (hb hby at_190)
          obtain ⟨rq12, b12, nq12, x12, y12, rfl, -, FS, FI, FN, VS, VI, hR12, hl12, hpr12, g12, na12, nb12, K175, NL175⟩ := hQ175
          have N0 := Fr.app N0 NL175
          have e175 : T175.heap = T175.heap := rfl
          have EA := EA.keep K175
          have Z0 := Nat.le_trans Z0 K175.1
          refine Goes.by (T' := T175) (g' := (mkF m 193 #[l0, l1, l2, l3, l4, l5, SI ia, SI ia, SI ic, l9, l10, l11, SD z1, S2, SD z2, S2, SD z3, S2, l18, l19, SI 1, SI 1, SI 1, SA a, SU, SU, SU, SU] [(.double rq12)])) st175 ?_
          rw [if_neg (by rw [fv2]; omega)] at hR12
          obtain rfl : nq12 = (1 : Int32) := Int32.toInt_inj.mp (by rw [hR12.2.2.2.2.1]; rfl)
          have h128_12 : x12.length = 128 := hpr12.trans h128_11
          refine Goes.by (T' := T175) (g' := (mkF m 194 #[l0, l1, l2, l3, l4, l5, SI ia, SI ia, SI ic, l9, l10, l11, SD z1, S2, SD z2, S2, SD z3, S2, l18, l19, SI 1, SI 1, SI 1, SA a, SU, SU, SU, SU] [])) (fun _ k => XS.pop2W X175.here hx rfl (hb hby at_193) rfl rfl k) ?_
          refine Goes.by (T' := T175) (g' := (mkF m 196 #[l0, l1, l2, l3, l4, l5, SI ia, SI ia, SI ic, l9, l10, l11, SD z1, S2, SD z2, S2, SD z3, S2, l18, l19, SI 1, SI 1, SI 1, SA a, SU, SU, SU, SU] [(.int (1 : Int32))])) (fun _ k => XS.iload X175.here hx rfl (hb hby at_194) rfl k) ?_
          refine Goes.by (T' := T175) (g' := (mkF m 199 #[l0, l1, l2, l3, l4, l5, SI ia, SI ia, SI ic, l9, l10, l11, SD z1, S2, SD z2, S2, SD z3, S2, l18, l19, SI 1, SI 1, SI 1, SA a, SU, SU, SU, SU] [])) (fun _ k => XS.ifNo X175.here hx rfl (hb hby at_196) rfl (by decide) k) ?_
          refine Goes.by (T' := T175) (g' := (mkF m 201 #[l0, l1, l2, l3, l4, l5, SI ia, SI ia, SI ic, l9, l10, l11, SD z1, S2, SD z2, S2, SD z3, S2, l18, l19, SI 1, SI 1, SI 1, SA a, SU, SU, SU, SU] [(.ref a)])) (fun _ k => XS.aload X175.here hx rfl (hb hby at_199) rfl rfl k) ?_
          refine Goes.by (T' := T175) (g' := (mkF m 203 #[l0, l1, l2, l3, l4, l5, SI ia, SI ia, SI ic, l9, l10, l11, SD z1, S2, SD z2, S2, SD z3, S2, l18, l19, SI 1, SI 1, SI 1, SA a, SU, SU, SU, SU] [(.int ic), (.ref a)])) (fun _ k => XS.iload X175.here hx rfl (hb hby at_201) rfl k) ?_
          refine Goes.by (T' := T175) (g' := (mkF m 205 #[l0, l1, l2, l3, l4, l5, SI ia, SI ia, SI ic, l9, l10, l11, SD z1, S2, SD z2, S2, SD z3, S2, l18, l19, SI 1, SI 1, SI 1, SA a, SU, SU, SU, SU] [(.double z3), (.int ic), (.ref a)])) (fun _ k => XS.dload X175.here hx rfl (hb hby at_203) rfl k) ?_
          have fv3 : (own_upd (own_upd (fun _ => 0) ka w1.toInt) ka w2.toInt) kc = 0 := by simp [own_upd, nkac, nkac.symm]
          obtain ⟨v176, T176, L176, X176, hQ176, st176⟩ := callV X175 hx hZ (y := (⟨"com/example/gibbon/gibbon/analysis/SparseSum", "add", "(ID)D"⟩ : MethodName)) hown (hw _ (List.mem_of_getElem? (i := 15) rfl)) (hw _ (List.mem_of_getElem? (i := 16) rfl)) (hw _ (List.mem_of_getElem? (i := 18) rfl)) (hw _ (List.mem_of_getElem? (i := 17) rfl)) (hw _ (List.mem_of_getElem? (i := 19) rfl)) (hw _ (List.mem_of_getElem? (i := 2) rfl)) (by decide) e175 EA (argsL := [(.int ic), (.double z3)]) (rest := []) (W := 0) (rm_addN l Z a0 hw a b12 bi (1 : Int32) ic kc z3 w3.toInt (own_upd (own_upd (fun _ => 0) ka w1.toInt) ka w2.toInt) ([] ++ [ka]) _ _ T175.heap n0 Z0 EA FS FI FN VS VI hR12 hkc (by omega) D_z3 bw3 (by rw [fv3]; omega) (by simp) ge_a g12 gi na12 n2 nb12 (by rw [h128_12]; omega)) rfl (by decide) (by decide) (by decide) (by decide) (g := (mkF m 205 #[l0, l1, l2, l3, l4, l5, SI ia, SI ia, SI ic, l9, l10, l11, SD z1, S2, SD z2, S2, SD z3, S2, l18, l19, SI 1, SI 1, SI 1, SA a, SU, SU, SU, SU] [(.double z3), (.int ic), (.ref a)])) rfl (by rw [hml]; rfl) (lenOf pd3 rfl) rfl (by show 2 * 0 + _ ≤ _; exact Nat.le_of_eq rfl) (hb hby at_205)
          obtain ⟨rq13, b13, nq13, x13, y13, rfl, -, FS, FI, FN, VS, VI, hR13, hl13, hpr13, g13, na13, nb13, K176, NL176⟩ := hQ176
          have N0 := Fr.app N0 NL176
          have e176 : T176.heap = T176.heap := rfl
          have EA := EA.keep K176
          have Z0 := Nat.le_trans Z0 K176.1
          refine Goes.by (T' := T176) (g' := (mkF m 208 #[l0, l1, l2, l3, l4, l5, SI ia, SI ia, SI ic, l9, l10, l11, SD z1, S2, SD z2, S2, SD z3, S2, l18, l19, SI 1, SI 1, SI 1, SA a, SU, SU, SU, SU] [(.double rq13)])) st176 ?_
          rw [if_pos fv3] at hR13
          obtain rfl : nq13 = (2 : Int32) := Int32.toInt_inj.mp (by rw [hR13.2.2.2.2.1]; rfl)
          have h128_13 : x13.length = 128 := hpr13.trans h128_12
          refine Goes.by (T' := T176) (g' := (mkF m 209 #[l0, l1, l2, l3, l4, l5, SI ia, SI ia, SI ic, l9, l10, l11, SD z1, S2, SD z2, S2, SD z3, S2, l18, l19, SI 1, SI 1, SI 1, SA a, SU, SU, SU, SU] [])) (fun _ k => XS.pop2W X176.here hx rfl (hb hby at_208) rfl rfl k) ?_
          refine Goes.by (T' := T176) (g' := (mkF m 210 #[l0, l1, l2, l3, l4, l5, SI ia, SI ia, SI ic, l9, l10, l11, SD z1, S2, SD z2, S2, SD z3, S2, l18, l19, SI 1, SI 1, SI 1, SA a, SU, SU, SU, SU] [(.int (3 : Int32))])) (fun _ k => XS.iconst X176.here hx rfl (hb hby at_209)  k) ?_
          obtain ⟨T177, h177, k177, X177, e177, E177, A177, st177⟩ := newP X176 hx hZ (hw _ (List.mem_of_getElem? (i := 9) rfl)) e176 (g := (mkF m 210 #[l0, l1, l2, l3, l4, l5, SI ia, SI ia, SI ic, l9, l10, l11, SD z1, S2, SD z2, S2, SD z3, S2, l18, l19, SI 1, SI 1, SI 1, SA a, SU, SU, SU, SU] [(.int (3 : Int32))])) rfl (hb hby at_210) rfl (by decide) (cap := 3) (by decide) (by decide) (by decide) (by decide)
          obtain ⟨ea, g177⟩ : ∃ z, z = T176.heap.size := ⟨_, rfl⟩
          rw [← g177] at A177 st177
          have ne_a_ea : a ≠ ea := fun q => Nat.lt_irrefl _ (Nat.lt_of_lt_of_eq EA.lt (g177.symm.trans q.symm))
          have ne_b13_ea : b13 ≠ ea := fun q => Nat.lt_irrefl _ (Nat.lt_of_lt_of_eq VS.lt (g177.symm.trans q.symm))
          have ne_bi_ea : bi ≠ ea := fun q => Nat.lt_irrefl _ (Nat.lt_of_lt_of_eq VI.lt (g177.symm.trans q.symm))
          have ge_ea : n0 ≤ ea := Nat.le_trans Z0 (Nat.le_of_eq g177.symm)
          have EA := EA.ext E177
          have FS := FS.ext E177
          have FI := FI.ext E177
          have FN := FN.ext E177
          have VS := VS.ext E177
          have VI := VI.ext E177
          have Z0 := Nat.le_trans Z0 E177.1
          have V_ea : Sar Z h177 ea .double [(.double (0 : UInt64)), (.double (0 : UInt64)), (.double (0 : UInt64))] := Sar.new (n := 3) A177 (by decide)
          refine Goes.by (T' := T177) (g' := (mkF m 212 #[l0, l1, l2, l3, l4, l5, SI ia, SI ia, SI ic, l9, l10, l11, SD z1, S2, SD z2, S2, SD z3, S2, l18, l19, SI 1, SI 1, SI 1, SA a, SU, SU, SU, SU] [(.ref ea)])) st177 ?_
          refine Goes.by (T' := T177) (g' := (mkF m 214 #[l0, l1, l2, l3, l4, l5, SI ia, SI ia, SI ic, l9, l10, l11, SD z1, S2, SD z2, S2, SD z3, S2, l18, l19, SI 1, SI 1, SI 1, SA a, SA ea, SU, SU, SU] [])) (fun _ k => XS.astore X177.here hx rfl (hb hby at_212) rfl rfl (l' := #[l0, l1, l2, l3, l4, l5, SI ia, SI ia, SI ic, l9, l10, l11, SD z1, S2, SD z2, S2, SD z3, S2, l18, l19, SI 1, SI 1, SI 1, SA a, SA ea, SU, SU, SU]) rfl k) ?_
          refine Goes.by (T' := T177) (g' := (mkF m 215 #[l0, l1, l2, l3, l4, l5, SI ia, SI ia, SI ic, l9, l10, l11, SD z1, S2, SD z2, S2, SD z3, S2, l18, l19, SI 1, SI 1, SI 1, SA a, SA ea, SU, SU, SU] [(.int (0 : Int32))])) (fun _ k => XS.iconst X177.here hx rfl (hb hby at_214)  k) ?_
          refine Goes.by (T' := T177) (g' := (mkF m 217 #[l0, l1, l2, l3, l4, l5, SI ia, SI ia, SI ic, l9, l10, l11, SD z1, S2, SD z2, S2, SD z3, S2, l18, l19, SI 1, SI 1, SI 1, SA a, SA ea, SI 0, SU, SU] [])) (fun _ k => XS.istore X177.here hx rfl (hb hby at_215) rfl (l' := #[l0, l1, l2, l3, l4, l5, SI ia, SI ia, SI ic, l9, l10, l11, SD z1, S2, SD z2, S2, SD z3, S2, l18, l19, SI 1, SI 1, SI 1, SA a, SA ea, SI 0, SU, SU]) rfl k) ?_
          refine Goes.by (T' := T177) (g' := (mkF m 219 #[l0, l1, l2, l3, l4, l5, SI ia, SI ia, SI ic, l9, l10, l11, SD z1, S2, SD z2, S2, SD z3, S2, l18, l19, SI 1, SI 1, SI 1, SA a, SA ea, SI 0, SU, SU] [(.int (1 : Int32))])) (fun _ k => XS.iload X177.here hx rfl (hb hby at_217) rfl k) ?_
          refine Goes.by (T' := T177) (g' := (mkF m 222 #[l0, l1, l2, l3, l4, l5, SI ia, SI ia, SI ic, l9, l10, l11, SD z1, S2, SD z2, S2, SD z3, S2, l18, l19, SI 1, SI 1, SI 1, SA a, SA ea, SI 0, SU, SU] [])) (fun _ k => XS.ifNo X177.here hx rfl (hb hby at_219) rfl (by decide) k) ?_
          refine Goes.by (T' := T177) (g' := (mkF m 224 #[l0, l1, l2, l3, l4, l5, SI ia, SI ia, SI ic, l9, l10, l11, SD z1, S2, SD z2, S2, SD z3, S2, l18, l19, SI 1, SI 1, SI 1, SA a, SA ea, SI 0, SU, SU] [(.double z1)])) (fun _ k => XS.dload X177.here hx rfl (hb hby at_222) rfl k) ?_
          refine Goes.by (T' := T177) (g' := (mkF m 226 #[l0, l1, l2, l3, l4, l5, SI ia, SI ia, SI ic, l9, l10, l11, SD z1, S2, SD z2, S2, SD z3, S2, l18, l19, SI 1, SI 1, SI 1, SA a, SA ea, SI 0, SD z1, S2] [])) (fun _ k => XS.dstore X177.here hx rfl (hb hby at_224) rfl (l' := #[l0, l1, l2, l3, l4, l5, SI ia, SI ia, SI ic, l9, l10, l11, SD z1, S2, SD z2, S2, SD z3, S2, l18, l19, SI 1, SI 1, SI 1, SA a, SA ea, SI 0, SD z1, S2]) rfl k) ?_
          refine Goes.by (T' := T177) (g' := (mkF m 228 #[l0, l1, l2, l3, l4, l5, SI ia, SI ia, SI ic, l9, l10, l11, SD z1, S2, SD z2, S2, SD z3, S2, l18, l19, SI 1, SI 1, SI 1, SA a, SA ea, SI 0, SD z1, S2] [(.int (1 : Int32))])) (fun _ k => XS.iload X177.here hx rfl (hb hby at_226) rfl k) ?_
          refine Goes.by (T' := T177) (g' := (mkF m 231 #[l0, l1, l2, l3, l4, l5, SI ia, SI ia, SI ic, l9, l10, l11, SD z1, S2, SD z2, S2, SD z3, S2, l18, l19, SI 1, SI 1, SI 1, SA a, SA ea, SI 0, SD z1, S2] [])) (fun _ k => XS.ifNo X177.here hx rfl (hb hby at_228) rfl (by decide) k) ?_
          refine Goes.by (T' := T177) (g' := (mkF m 233 #[l0, l1, l2, l3, l4, l5, SI ia, SI ia, SI ic, l9, l10, l11, SD z1, S2, SD z2, S2, SD z3, S2, l18, l19, SI 1, SI 1, SI 1, SA a, SA ea, SI 0, SD z1, S2] [(.int ia)])) (fun _ k => XS.iload X177.here hx rfl (hb hby at_231) rfl k) ?_
          refine Goes.by (T' := T177) (g' := (mkF m 235 #[l0, l1, l2, l3, l4, l5, SI ia, SI ia, SI ic, l9, l10, l11, SD z1, S2, SD z2, S2, SD z3, S2, l18, l19, SI 1, SI 1, SI 1, SA a, SA ea, SI 0, SD z1, S2] [(.int ia), (.int ia)])) (fun _ k => XS.iload X177.here hx rfl (hb hby at_233) rfl k) ?_
          refine Goes.by (T' := T177) (g' := (mkF m 238 #[l0, l1, l2, l3, l4, l5, SI ia, SI ia, SI ic, l9, l10, l11, SD z1, S2, SD z2, S2, SD z3, S2, l18, l19, SI 1, SI 1, SI 1, SA a, SA ea, SI 0, SD z1, S2] [])) (fun _ k => XS.icmpNo X177.here hx rfl (hb hby at_235) rfl (teq rfl).2 k) ?_
          refine Goes.by (T' := T177) (g' := (mkF m 240 #[l0, l1, l2, l3, l4, l5, SI ia, SI ia, SI ic, l9, l10, l11, SD z1, S2, SD z2, S2, SD z3, S2, l18, l19, SI 1, SI 1, SI 1, SA a, SA ea, SI 0, SD z1, S2] [(.double z1)])) (fun _ k => XS.dload X177.here hx rfl (hb hby at_238) rfl k) ?_
          refine Goes.by (T' := T177) (g' := (mkF m 242 #[l0, l1, l2, l3, l4, l5, SI ia, SI ia, SI ic, l9, l10, l11, SD z1, S2, SD z2, S2, SD z3, S2, l18, l19, SI 1, SI 1, SI 1, SA a, SA ea, SI 0, SD z1, S2] [(.double z2), (.double z1)])) (fun _ k => XS.dload X177.here hx rfl (hb hby at_240) rfl k) ?_
          obtain ⟨t1, q_t1⟩ : ∃ zz, FP.dadd z1 z2 = zz := ⟨_, rfl⟩
          have D_t1 : Core.DInt (w1.toInt + w2.toInt) t1 := DInt_add q_t1 D_z1 D_z2 (by omega)
          refine Goes.by (T' := T177) (g' := (mkF m 243 #[l0, l1, l2, l3, l4, l5, SI ia, SI ia, SI ic, l9, l10, l11, SD z1, S2, SD z2, S2, SD z3, S2, l18, l19, SI 1, SI 1, SI 1, SA a, SA ea, SI 0, SD z1, S2] [(.double t1)])) (fun _ k => XS.daddS X177.here hx rfl (hb hby at_242) rfl (by rw [q_t1]; exact DInt_nn D_t1) q_t1 k) ?_
          refine Goes.by (T' := T177) (g' := (mkF m 245 #[l0, l1, l2, l3, l4, l5, SI ia, SI ia, SI ic, l9, l10, l11, SD z1, S2, SD z2, S2, SD z3, S2, l18, l19, SI 1, SI 1, SI 1, SA a, SA ea, SI 0, SD t1, S2] [])) (fun _ k => XS.dstore X177.here hx rfl (hb hby at_243) rfl (l' := #[l0, l1, l2, l3, l4, l5, SI ia, SI ia, SI ic, l9, l10, l11, SD z1, S2, SD z2, S2, SD z3, S2, l18, l19, SI 1, SI 1, SI 1, SA a, SA ea, SI 0, SD t1, S2]) rfl k) ?_
          refine Goes.by (T' := T177) (g' := (mkF m 247 #[l0, l1, l2, l3, l4, l5, SI ia, SI ia, SI ic, l9, l10, l11, SD z1, S2, SD z2, S2, SD z3, S2, l18, l19, SI 1, SI 1, SI 1, SA a, SA ea, SI 0, SD t1, S2] [(.int (1 : Int32))])) (fun _ k => XS.iload X177.here hx rfl (hb hby at_245) rfl k) ?_
          refine Goes.by (T' := T177) (g' := (mkF m 250 #[l0, l1, l2, l3, l4, l5, SI ia, SI ia, SI ic, l9, l10, l11, SD z1, S2, SD z2, S2, SD z3, S2, l18, l19, SI 1, SI 1, SI 1, SA a, SA ea, SI 0, SD t1, S2] [])) (fun _ k => XS.ifNo X177.here hx rfl (hb hby at_247) rfl (by decide) k) ?_
          refine Goes.by (T' := T177) (g' := (mkF m 252 #[l0, l1, l2, l3, l4, l5, SI ia, SI ia, SI ic, l9, l10, l11, SD z1, S2, SD z2, S2, SD z3, S2, l18, l19, SI 1, SI 1, SI 1, SA a, SA ea, SI 0, SD t1, S2] [(.int ic)])) (fun _ k => XS.iload X177.here hx rfl (hb hby at_250) rfl k) ?_
          refine Goes.by (T' := T177) (g' := (mkF m 254 #[l0, l1, l2, l3, l4, l5, SI ia, SI ia, SI ic, l9, l10, l11, SD z1, S2, SD z2, S2, SD z3, S2, l18, l19, SI 1, SI 1, SI 1, SA a, SA ea, SI 0, SD t1, S2] [(.int ia), (.int ic)])) (fun _ k => XS.iload X177.here hx rfl (hb hby at_252) rfl k) ?_
          refine Goes.by (T' := T177) (g' := (mkF m 264 #[l0, l1, l2, l3, l4, l5, SI ia, SI ia, SI ic, l9, l10, l11, SD z1, S2, SD z2, S2, SD z3, S2, l18, l19, SI 1, SI 1, SI 1, SA a, SA ea, SI 0, SD t1, S2] [])) (fun _ k => XS.icmpYes X177.here hx rfl (pc0 := 254) (pc' := 264) rfl (hb hby at_254) rfl (feq (fun q => hac q.symm)).2 (by decide) (by decide) k) ?_
          refine Goes.by (T' := T177) (g' := (mkF m 266 #[l0, l1, l2, l3, l4, l5, SI ia, SI ia, SI ic, l9, l10, l11, SD z1, S2, SD z2, S2, SD z3, S2, l18, l19, SI 1, SI 1, SI 1, SA a, SA ea, SI 0, SD t1, S2] [(.ref ea)])) (fun _ k => XS.aload X177.here hx rfl (hb hby at_264) rfl rfl k) ?_
          refine Goes.by (T' := T177) (g' := (mkF m 268 #[l0, l1, l2, l3, l4, l5, SI ia, SI ia, SI ic, l9, l10, l11, SD z1, S2, SD z2, S2, SD z3, S2, l18, l19, SI 1, SI 1, SI 1, SA a, SA ea, SI 0, SD t1, S2] [(.int (0 : Int32)), (.ref ea)])) (fun _ k => XS.iload X177.here hx rfl (hb hby at_266) rfl k) ?_
          refine Goes.by (T' := T177) (g' := (mkF m 270 #[l0, l1, l2, l3, l4, l5, SI ia, SI ia, SI ic, l9, l10, l11, SD z1, S2, SD z2, S2, SD z3, S2, l18, l19, SI 1, SI 1, SI 1, SA a, SA ea, SI 0, SD t1, S2] [(.double t1), (.int (0 : Int32)), (.ref ea)])) (fun _ k => XS.dload X177.here hx rfl (hb hby at_268) rfl k) ?_
          obtain ⟨T178, h178, X178, e178, W178, V178, st178⟩ := stDS X177 hx hZ e177 V_ea (j := (0 : Int32)) 0 (by decide) (by show 0 < 3; decide) (g := (mkF m 270 #[l0, l1, l2, l3, l4, l5, SI ia, SI ia, SI ic, l9, l10, l11, SD z1, S2, SD z2, S2, SD z3, S2, l18, l19, SI 1, SI 1, SI 1, SA a, SA ea, SI 0, SD t1, S2] [(.double t1), (.int (0 : Int32)), (.ref ea)])) rfl rfl (hb hby at_270)
          have N0 := Fr.snoc X178 N0 ge_ea
          have EA := EA.wr W178
          have FS := FS.other W178 (Or.inl ne_a_ea)
          have FI := FI.other W178 (Or.inl ne_a_ea)
          have FN := FN.other W178 (Or.inl ne_a_ea)
          have VS := VS.other W178 ne_b13_ea
          have VI := VI.other W178 ne_bi_ea
          have Z0 := Nat.le_trans Z0 (Nat.le_of_eq W178.size.symm)
          have V_ea : Sar Z h178 ea .double [(.double t1), (.double (0 : UInt64)), (.double (0 : UInt64))] := V178
          refine Goes.by (T' := T178) (g' := (mkF m 271 #[l0, l1, l2, l3, l4, l5, SI ia, SI ia, SI ic, l9, l10, l11, SD z1, S2, SD z2, S2, SD z3, S2, l18, l19, SI 1, SI 1, SI 1, SA a, SA ea, SI 0, SD t1, S2] [])) st178 ?_
          refine Goes.by (T' := T178) (g' := (mkF m 273 #[l0, l1, l2, l3, l4, l5, SI ia, SI ia, SI ic, l9, l10, l11, SD z1, S2, SD z2, S2, SD z3, S2, l18, l19, SI 1, SI 1, SI 1, SA a, SA ea, SI 0, SD t1, S2] [(.int (0 : Int32))])) (fun _ k => XS.iload X178.here hx rfl (hb hby at_271) rfl k) ?_
          refine Goes.by (T' := T178) (g' := (mkF m 274 #[l0, l1, l2, l3, l4, l5, SI ia, SI ia, SI ic, l9, l10, l11, SD z1, S2, SD z2, S2, SD z3, S2, l18, l19, SI 1, SI 1, SI 1, SA a, SA ea, SI 0, SD t1, S2] [(.int (1 : Int32)), (.int (0 : Int32))])) (fun _ k => XS.iconst X178.here hx rfl (hb hby at_273)  k) ?_
          refine Goes.by (T' := T178) (g' := (mkF m 275 #[l0, l1, l2, l3, l4, l5, SI ia, SI ia, SI ic, l9, l10, l11, SD z1, S2, SD z2, S2, SD z3, S2, l18, l19, SI 1, SI 1, SI 1, SA a, SA ea, SI 0, SD t1, S2] [(.int (1 : Int32))])) (fun _ k => XS.iadd X178.here hx rfl (hb hby at_274) rfl k) ?_
          refine Goes.by (T' := T178) (g' := (mkF m 277 #[l0, l1, l2, l3, l4, l5, SI ia, SI ia, SI ic, l9, l10, l11, SD z1, S2, SD z2, S2, SD z3, S2, l18, l19, SI 1, SI 1, SI 1, SA a, SA ea, SI 1, SD t1, S2] [])) (fun _ k => XS.istore X178.here hx rfl (hb hby at_275) rfl (l' := #[l0, l1, l2, l3, l4, l5, SI ia, SI ia, SI ic, l9, l10, l11, SD z1, S2, SD z2, S2, SD z3, S2, l18, l19, SI 1, SI 1, SI 1, SA a, SA ea, SI 1, SD t1, S2]) rfl k) ?_
          refine Goes.by (T' := T178) (g' := (mkF m 279 #[l0, l1, l2, l3, l4, l5, SI ia, SI ia, SI ic, l9, l10, l11, SD z1, S2, SD z2, S2, SD z3, S2, l18, l19, SI 1, SI 1, SI 1, SA a, SA ea, SI 1, SD t1, S2] [(.int (1 : Int32))])) (fun _ k => XS.iload X178.here hx rfl (hb hby at_277) rfl k) ?_
          refine Goes.by (T' := T178) (g' := (mkF m 282 #[l0, l1, l2, l3, l4, l5, SI ia, SI ia, SI ic, l9, l10, l11, SD z1, S2, SD z2, S2, SD z3, S2, l18, l19, SI 1, SI 1, SI 1, SA a, SA ea, SI 1, SD t1, S2] [])) (fun _ k => XS.ifNo X178.here hx rfl (hb hby at_279) rfl (by decide) k) ?_
          refine Goes.by (T' := T178) (g' := (mkF m 284 #[l0, l1, l2, l3, l4, l5, SI ia, SI ia, SI ic, l9, l10, l11, SD z1, S2, SD z2, S2, SD z3, S2, l18, l19, SI 1, SI 1, SI 1, SA a, SA ea, SI 1, SD t1, S2] [(.int ia)])) (fun _ k => XS.iload X178.here hx rfl (hb hby at_282) rfl k) ?_
          refine Goes.by (T' := T178) (g' := (mkF m 286 #[l0, l1, l2, l3, l4, l5, SI ia, SI ia, SI ic, l9, l10, l11, SD z1, S2, SD z2, S2, SD z3, S2, l18, l19, SI 1, SI 1, SI 1, SA a, SA ea, SI 1, SD t1, S2] [(.int ia), (.int ia)])) (fun _ k => XS.iload X178.here hx rfl (hb hby at_284) rfl k) ?_
          refine Goes.by (T' := T178) (g' := (mkF m 325 #[l0, l1, l2, l3, l4, l5, SI ia, SI ia, SI ic, l9, l10, l11, SD z1, S2, SD z2, S2, SD z3, S2, l18, l19, SI 1, SI 1, SI 1, SA a, SA ea, SI 1, SD t1, S2] [])) (fun _ k => XS.icmpYes X178.here hx rfl (pc0 := 286) (pc' := 325) rfl (hb hby at_286) rfl (teq rfl).1 (by decide) (by decide) k) ?_
          refine Goes.by (T' := T178) (g' := (mkF m 327 #[l0, l1, l2, l3, l4, l5, SI ia, SI ia, SI ic, l9, l10, l11, SD z1, S2, SD z2, S2, SD z3, S2, l18, l19, SI 1, SI 1, SI 1, SA a, SA ea, SI 1, SD t1, S2] [(.int (1 : Int32))])) (fun _ k => XS.iload X178.here hx rfl (hb hby at_325) rfl k) ?_
          refine Goes.by (T' := T178) (g' := (mkF m 330 #[l0, l1, l2, l3, l4, l5, SI ia, SI ia, SI ic, l9, l10, l11, SD z1, S2, SD z2, S2, SD z3, S2, l18, l19, SI 1, SI 1, SI 1, SA a, SA ea, SI 1, SD t1, S2] [])) (fun _ k => XS.ifNo X178.here hx rfl (hb hby at_327) rfl (by decide) k) ?_
          refine Goes.by (T' := T178) (g' := (mkF m 332 #[l0, l1, l2, l3, l4, l5, SI ia, SI ia, SI ic, l9, l10, l11, SD z1, S2, SD z2, S2, SD z3, S2, l18, l19, SI 1, SI 1, SI 1, SA a, SA ea, SI 1, SD t1, S2] [(.int ic)])) (fun _ k => XS.iload X178.here hx rfl (hb hby at_330) rfl k) ?_
          refine Goes.by (T' := T178) (g' := (mkF m 334 #[l0, l1, l2, l3, l4, l5, SI ia, SI ia, SI ic, l9, l10, l11, SD z1, S2, SD z2, S2, SD z3, S2, l18, l19, SI 1, SI 1, SI 1, SA a, SA ea, SI 1, SD t1, S2] [(.int ia), (.int ic)])) (fun _ k => XS.iload X178.here hx rfl (hb hby at_332) rfl k) ?_
          refine Goes.by (T' := T178) (g' := (mkF m 337 #[l0, l1, l2, l3, l4, l5, SI ia, SI ia, SI ic, l9, l10, l11, SD z1, S2, SD z2, S2, SD z3, S2, l18, l19, SI 1, SI 1, SI 1, SA a, SA ea, SI 1, SD t1, S2] [])) (fun _ k => XS.icmpNo X178.here hx rfl (hb hby at_334) rfl (feq (fun q => hac q.symm)).1 k) ?_
          refine Goes.by (T' := T178) (g' := (mkF m 339 #[l0, l1, l2, l3, l4, l5, SI ia, SI ia, SI ic, l9, l10, l11, SD z1, S2, SD z2, S2, SD z3, S2, l18, l19, SI 1, SI 1, SI 1, SA a, SA ea, SI 1, SD t1, S2] [(.int ic)])) (fun _ k => XS.iload X178.here hx rfl (hb hby at_337) rfl k) ?_
          refine Goes.by (T' := T178) (g' := (mkF m 341 #[l0, l1, l2, l3, l4, l5, SI ia, SI ia, SI ic, l9, l10, l11, SD z1, S2, SD z2, S2, SD z3, S2, l18, l19, SI 1, SI 1, SI 1, SA a, SA ea, SI 1, SD t1, S2] [(.int ia), (.int ic)])) (fun _ k => XS.iload X178.here hx rfl (hb hby at_339) rfl k) ?_
          refine Goes.by (T' := T178) (g' := (mkF m 344 #[l0, l1, l2, l3, l4, l5, SI ia, SI ia, SI ic, l9, l10, l11, SD z1, S2, SD z2, S2, SD z3, S2, l18, l19, SI 1, SI 1, SI 1, SA a, SA ea, SI 1, SD t1, S2] [])) (fun _ k => XS.icmpNo X178.here hx rfl (hb hby at_341) rfl (feq (fun q => hac q.symm)).1 k) ?_
          refine Goes.by (T' := T178) (g' := (mkF m 346 #[l0, l1, l2, l3, l4, l5, SI ia, SI ia, SI ic, l9, l10, l11, SD z1, S2, SD z2, S2, SD z3, S2, l18, l19, SI 1, SI 1, SI 1, SA a, SA ea, SI 1, SD t1, S2] [(.ref ea)])) (fun _ k => XS.aload X178.here hx rfl (hb hby at_344) rfl rfl k) ?_
          refine Goes.by (T' := T178) (g' := (mkF m 348 #[l0, l1, l2, l3, l4, l5, SI ia, SI ia, SI ic, l9, l10, l11, SD z1, S2, SD z2, S2, SD z3, S2, l18, l19, SI 1, SI 1, SI 1, SA a, SA ea, SI 1, SD t1, S2] [(.int (1 : Int32)), (.ref ea)])) (fun _ k => XS.iload X178.here hx rfl (hb hby at_346) rfl k) ?_
          refine Goes.by (T' := T178) (g' := (mkF m 350 #[l0, l1, l2, l3, l4, l5, SI ia, SI ia, SI ic, l9, l10, l11, SD z1, S2, SD z2, S2, SD z3, S2, l18, l19, SI 1, SI 1, SI 1, SA a, SA ea, SI 1, SD t1, S2] [(.double z3), (.int (1 : Int32)), (.ref ea)])) (fun _ k => XS.dload X178.here hx rfl (hb hby at_348) rfl k) ?_
          obtain ⟨T179, h179, X179, e179, W179, V179, st179⟩ := stDS X178 hx hZ e178 V_ea (j := (1 : Int32)) 1 (by decide) (by show 1 < 3; decide) (g := (mkF m 350 #[l0, l1, l2, l3, l4, l5, SI ia, SI ia, SI ic, l9, l10, l11, SD z1, S2, SD z2, S2, SD z3, S2, l18, l19, SI 1, SI 1, SI 1, SA a, SA ea, SI 1, SD t1, S2] [(.double z3), (.int (1 : Int32)), (.ref ea)])) rfl rfl (hb hby at_350)
          have N0 := Fr.snoc X179 N0 ge_ea
          have EA := EA.wr W179
          have FS := FS.other W179 (Or.inl ne_a_ea)
          have FI := FI.other W179 (Or.inl ne_a_ea)
          have FN := FN.other W179 (Or.inl ne_a_ea)
          have VS := VS.other W179 ne_b13_ea
          have VI := VI.other W179 ne_bi_ea
          have Z0 := Nat.le_trans Z0 (Nat.le_of_eq W179.size.symm)
          have V_ea : Sar Z h179 ea .double [(.double t1), (.double z3), (.double (0 : UInt64))] := V179
          refine Goes.by (T' := T179) (g' := (mkF m 351 #[l0, l1, l2, l3, l4, l5, SI ia, SI ia, SI ic, l9, l10, l11, SD z1, S2, SD z2, S2, SD z3, S2, l18, l19, SI 1, SI 1, SI 1, SA a, SA ea, SI 1, SD t1, S2] [])) st179 ?_
          refine Goes.by (T' := T179) (g' := (mkF m 353 #[l0, l1, l2, l3, l4, l5, SI ia, SI ia, SI ic, l9, l10, l11, SD z1, S2, SD z2, S2, SD z3, S2, l18, l19, SI 1, SI 1, SI 1, SA a, SA ea, SI 1, SD t1, S2] [(.int (1 : Int32))])) (fun _ k => XS.iload X179.here hx rfl (hb hby at_351) rfl k) ?_
          refine Goes.by (T' := T179) (g' := (mkF m 354 #[l0, l1, l2, l3, l4, l5, SI ia, SI ia, SI ic, l9, l10, l11, SD z1, S2, SD z2, S2, SD z3, S2, l18, l19, SI 1, SI 1, SI 1, SA a, SA ea, SI 1, SD t1, S2] [(.int (1 : Int32)), (.int (1 : Int32))])) (fun _ k => XS.iconst X179.here hx rfl (hb hby at_353)  k) ?_
          refine Goes.by (T' := T179) (g' := (mkF m 355 #[l0, l1, l2, l3, l4, l5, SI ia, SI ia, SI ic, l9, l10, l11, SD z1, S2, SD z2, S2, SD z3, S2, l18, l19, SI 1, SI 1, SI 1, SA a, SA ea, SI 1, SD t1, S2] [(.int (2 : Int32))])) (fun _ k => XS.iadd X179.here hx rfl (hb hby at_354) rfl k) ?_
          refine Goes.by (T' := T179) (g' := (mkF m 357 #[l0, l1, l2, l3, l4, l5, SI ia, SI ia, SI ic, l9, l10, l11, SD z1, S2, SD z2, S2, SD z3, S2, l18, l19, SI 1, SI 1, SI 1, SA a, SA ea, SI 2, SD t1, S2] [])) (fun _ k => XS.istore X179.here hx rfl (hb hby at_355) rfl (l' := #[l0, l1, l2, l3, l4, l5, SI ia, SI ia, SI ic, l9, l10, l11, SD z1, S2, SD z2, S2, SD z3, S2, l18, l19, SI 1, SI 1, SI 1, SA a, SA ea, SI 2, SD t1, S2]) rfl k) ?_
          refine Goes.by (T' := T179) (g' := (mkF m 359 #[l0, l1, l2, l3, l4, l5, SI ia, SI ia, SI ic, l9, l10, l11, SD z1, S2, SD z2, S2, SD z3, S2, l18, l19, SI 1, SI 1, SI 1, SA a, SA ea, SI 2, SD t1, S2] [(.ref a)])) (fun _ k => XS.aload X179.here hx rfl (hb hby at_357) rfl rfl k) ?_
          obtain ⟨hq0, v0, hy0, hv0⟩ := hR13.2.2.2.2.2.2 0 ka (by simp)
          obtain ⟨d0, hx0, Dd0⟩ := hR13.2.1 ka hq0
          have fe0 : (own_upd (own_upd (own_upd (fun _ => 0) ka w1.toInt) ka w2.toInt) kc w3.toInt) ka = w1.toInt + w2.toInt := by simp [own_upd, nkac, nkac.symm]
          rw [fe0] at Dd0
          obtain ⟨hq1, v1, hy1, hv1⟩ := hR13.2.2.2.2.2.2 1 kc (by simp)
          obtain ⟨d1, hx1, Dd1⟩ := hR13.2.1 kc hq1
          have fe1 : (own_upd (own_upd (own_upd (fun _ => 0) ka w1.toInt) ka w2.toInt) kc w3.toInt) kc = w3.toInt := by simp [own_upd, nkac, nkac.symm]
          rw [fe1] at Dd1
          exact cmp2 a b13 bi ea _ _ _ _ _ v0 ka d0 (w1.toInt + w2.toInt) v1 kc d1 w3.toInt _ _ _ _ _ _ _ _ _ _ _ _ _ _ _ _ _ _ _ _ _ _ _ _ _ _ _ (X179.wide (fun x hx _ => hx) (by decide) (by decide)) e179 N0 Z0 EA FS FI FN VS VI V_ea ge_a g13 gi ge_ea na13 nb13 n2 ne_a_ea ne_b13_ea ne_bi_ea hy0 hv0 hx0 Dd0 D_t1 hy1 hv1 hx1 Dd1 D_z3
      · have nkab : ka ≠ kb := fun q => hab (Int32.toInt_inj.mp (by rw [hka, hkb, q]))
        by_cases hac : ia = ic
        · subst hac
          refine Goes.by (T' := Tj168) (g' := (mkF m 166 #[l0, l1, l2, l3, l4, l5, SI ia, SI ib, SI ia, l9, l10, l11, SD z1, S2, SD z2, S2, SD z3, S2, l18, l19, SI 1, SI 1, SI 1, SA a, SU, SU, SU, SU] [(.int (1 : Int32))])) (fun _ k => XS.iload Xj168.here hx rfl (hb hby at_164) rfl k) ?_
          refine Goes.by (T' := Tj168) (g' := (mkF m 169 #[l0, l1, l2, l3, l4, l5, SI ia, SI ib, SI ia, l9, l10, l11, SD z1, S2, SD z2, S2, SD z3, S2, l18, l19, SI 1, SI 1, SI 1, SA a, SU, SU, SU, SU] [])) (fun _ k => XS.ifNo Xj168.here hx rfl (hb hby at_166) rfl (by decide) k) ?_
          refine Goes.by (T' := Tj168) (g' := (mkF m 171 #[l0, l1, l2, l3, l4, l5, SI ia, SI ib, SI ia, l9, l10, l11, SD z1, S2, SD z2, S2, SD z3, S2, l18, l19, SI 1, SI 1, SI 1, SA a, SU, SU, SU, SU] [(.ref a)])) (fun _ k => XS.aload Xj168.here hx rfl (hb hby at_169) rfl rfl k) ?_
          refine Goes.by (T' := Tj168) (g' := (mkF m 173 #[l0, l1, l2, l3, l4, l5, SI ia, SI ib, SI ia, l9, l10, l11, SD z1, S2, SD z2, S2, SD z3, S2, l18, l19, SI 1, SI 1, SI 1, SA a, SU, SU, SU, SU] [(.int ia), (.ref a)])) (fun _ k => XS.iload Xj168.here hx rfl (hb hby at_171) rfl k) ?_
          refine Goes.by (T' := Tj168) (g' := (mkF m 175 #[l0, l1, l2, l3, l4, l5, SI ia, SI ib, SI ia, l9, l10, l11, SD z1, S2, SD z2, S2, SD z3, S2, l18, l19, SI 1, SI 1, SI 1, SA a, SU, SU, SU, SU] [(.double z1), (.int ia), (.ref a)])) (fun _ k => XS.dload Xj168.here hx rfl (hb hby at_173) rfl k) ?_
          obtain ⟨v180, T180, L180, X180, hQ180, st180⟩ := callV Xj168 hx hZ (y := (⟨"com/example/gibbon/gibbon/analysis/SparseSum", "add", "(ID)D"⟩ : MethodName)) hown (hw _ (List.mem_of_getElem? (i := 15) rfl)) (hw _ (List.mem_of_getElem? (i := 16) rfl)) (hw _ (List.mem_of_getElem? (i := 18) rfl)) (hw _ (List.mem_of_getElem? (i := 17) rfl)) (hw _ (List.mem_of_getElem? (i := 19) rfl)) (hw _ (List.mem_of_getElem? (i := 2) rfl)) (by decide) ej168 EA (argsL := [(.int ia), (.double z1)]) (rest := []) (W := 0) (rm_addN l Z a0 hw a br bi (0 : Int32) ia ka z1 w1.toInt (fun _ => 0) [] _ _ hj168 n0 Z0 EA FS FI FN VS VI hR hka (by omega) D_z1 bw1 (by decide) (by simp) ge_a gr gi n4 n2 n5 (by rw [h128]; omega)) rfl (by decide) (by decide) (by decide) (by decide) (g := (mkF m 175 #[l0, l1, l2, l3, l4, l5, SI ia, SI ib, SI ia, l9, l10, l11, SD z1, S2, SD z2, S2, SD z3, S2, l18, l19, SI 1, SI 1, SI 1, SA a, SU, SU, SU, SU] [(.double z1), (.int ia), (.ref a)])) rfl (by rw [hml]; rfl) (lenOf pd3 rfl) rfl (by show 2 * 0 + _ ≤ _; exact Nat.le_of_eq rfl) (hb hby at_175)
          obtain ⟨rq11, b11, nq11, x11, y11, rfl, -, FS, FI, FN, VS, VI, hR11, hl11, hpr11, g11, na11, nb11, K180, NL180⟩ := hQ180
          have N0 := Fr.app N0 NL180
          have e180 : T180.heap = T180.heap := rfl
          have EA := EA.keep K180
          have Z0 := Nat.le_trans Z0 K180.1
          refine Goes.by (T' := T180) (g' := (mkF m 178 #[l0, l1, l2, l3, l4, l5, SI ia, SI ib, SI ia, l9, l10, l11, SD z1, S2, SD z2, S2, SD z3, S2, l18, l19, SI 1, SI 1, SI 1, SA a, SU, SU, SU, SU] [(.double rq11)])) st180 ?_
          rw [if_pos rfl] at hR11
          obtain rfl : nq11 = (1 : Int32) := Int32.toInt_inj.mp (by rw [hR11.2.2.2.2.1]; rfl)
          have h128_11 : x11.length = 128 := hpr11.trans h128
          refine Goes.by (T' := T180) (g' := (mkF m 179 #[l0, l1, l2, l3, l4, l5, SI ia, SI ib, SI ia, l9, l10, l11, SD z1, S2, SD z2, S2, SD z3, S2, l18, l19, SI 1, SI 1, SI 1, SA a, SU, SU, SU, SU] [])) (fun _ k => XS.pop2W X180.here hx rfl (hb hby at_178) rfl rfl k) ?_
          refine Goes.by (T' := T180) (g' := (mkF m 181 #[l0, l1, l2, l3, l4, l5, SI ia, SI ib, SI ia, l9, l10, l11, SD z1, S2, SD z2, S2, SD z3, S2, l18, l19, SI 1, SI 1, SI 1, SA a, SU, SU, SU, SU] [(.int (1 : Int32))])) (fun _ k => XS.iload X180.here hx rfl (hb hby at_179) rfl k) ?_
          refine Goes.by (T' := T180) (g' := (mkF m 184 #[l0, l1, l2, l3, l4, l5, SI ia, SI ib, SI ia, l9, l10, l11, SD z1, S2, SD z2, S2, SD z3, S2, l18, l19, SI 1, SI 1, SI 1, SA a, SU, SU, SU, SU] [])) (fun _ k => XS.ifNo X180.here hx rfl (hb hby at_181) rfl (by decide) k) ?_
          refine Goes.by (T' := T180) (g' := (mkF m 186 #[l0, l1, l2, l3, l4, l5, SI ia, SI ib, SI ia, l9, l10, l11, SD z1, S2, SD z2, S2, SD z3, S2, l18, l19, SI 1, SI 1, SI 1, SA a, SU, SU, SU, SU] [(.ref a)])) (fun _ k => XS.aload X180.here hx rfl (hb hby at_184) rfl rfl k) ?_
          refine Goes.by (T' := T180) (g' := (mkF m 188 #[l0, l1, l2, l3, l4, l5, SI ia, SI ib, SI ia, l9, l10, l11, SD z1, S2, SD z2, S2, SD z3, S2, l18, l19, SI 1, SI 1, SI 1, SA a, SU, SU, SU, SU] [(.int ib), (.ref a)])) (fun _ k => XS.iload X180.here hx rfl (hb hby at_186) rfl k) ?_
          refine Goes.by (T' := T180) (g' := (mkF m 190 #[l0, l1, l2, l3, l4, l5, SI ia, SI ib, SI ia, l9, l10, l11, SD z1, S2, SD z2, S2, SD z3, S2, l18, l19, SI 1, SI 1, SI 1, SA a, SU, SU, SU, SU] [(.double z2), (.int ib), (.ref a)])) (fun _ k => XS.dload X180.here hx rfl (hb hby at_188) rfl k) ?_
          have fv2 : (own_upd (fun _ => 0) ka w1.toInt) kb = 0 := by simp [own_upd, nkab, nkab.symm]
          obtain ⟨v181, T181, L181, X181, hQ181, st181⟩ := callV X180 hx hZ (y := (⟨"com/example/gibbon/gibbon/analysis/SparseSum", "add", "(ID)D"⟩ : MethodName)) hown (hw _ (List.mem_of_getElem? (i := 15) rfl)) (hw _ (List.mem_of_getElem? (i := 16) rfl)) (hw _ (List.mem_of_getElem? (i := 18) rfl)) (hw _ (List.mem_of_getElem? (i := 17) rfl)) (hw _ (List.mem_of_getElem? (i := 19) rfl)) (hw _ (List.mem_of_getElem? (i := 2) rfl)) (by decide) e180 EA (argsL := [(.int ib), (.double z2)]) (rest := []) (W := 0) (rm_addN l Z a0 hw a b11 bi (1 : Int32) ib kb z2 w2.toInt (own_upd (fun _ => 0) ka w1.toInt) ([] ++ [ka]) _ _ T180.heap n0 Z0 EA FS FI FN VS VI hR11 hkb (by omega) D_z2 bw2 (by rw [fv2]; omega) (by simp) ge_a g11 gi na11 n2 nb11 (by rw [h128_11]; omega)) rfl (by decide) (by decide) (by decide) (by decide) (g := (mkF m 190 #[l0, l1, l2, l3, l4, l5, SI ia, SI ib, SI ia, l9, l10, l11, SD z1, S2, SD z2, S2, SD z3, S2, l18, l19, SI 1, SI 1, SI 1, SA a, SU, SU, SU, SU] [(.double z2), (.int ib), (.ref a)])) rfl (by rw [hml]; rfl) (lenOf pd3 rfl) rfl (by show 2 * 0 + _ ≤ _; exact Nat.le_of_eq rfl) (hb hby at_190)
          obtain ⟨rq12, b12, nq12, x12, y12, rfl, -, FS, FI, FN, VS, VI, hR12, hl12, hpr12, g12, na12, nb12, K181, NL181⟩ := hQ181
          have N0 := Fr.app N0 NL181
          have e181 : T181.heap = T181.heap := rfl
          have EA := EA.keep K181
          have Z0 := Nat.le_trans Z0 K181.1
          refine Goes.by (T' := T181) (g' := (mkF m 193 #[l0, l1, l2, l3, l4, l5, SI ia, SI ib, SI ia, l9, l10, l11, SD z1, S2, SD z2, S2, SD z3, S2, l18, l19, SI 1, SI 1, SI 1, SA a, SU, SU, SU, SU] [(.double rq12)])) st181 ?_
          rw [if_pos fv2] at hR12
          obtain rfl : nq12 = (2 : Int32) := Int32.toInt_inj.mp (by rw [hR12.2.2.2.2.1]; rfl)
          have h128_12 : x12.length = 128 := hpr12.trans h128_11
          refine Goes.by (T' := T181) (g' := (mkF m 194 #[l0, l1, l2, l3, l4, l5, SI ia, SI ib, SI ia, l9, l10, l11, SD z1, S2, SD z2, S2, SD z3, S2, l18, l19, SI 1, SI 1, SI 1, SA a, SU, SU, SU, SU] [])) (fun _ k => XS.pop2W X181.here hx rfl (hb hby at_193) rfl rfl k) ?_
          refine Goes.by (T' := T181) (g' := (mkF m 196 #[l0, l1, l2, l3, l4, l5, SI ia, SI ib, SI ia, l9, l10, l11, SD z1, S2, SD z2, S2, SD z3, S2, l18, l19, SI 1, SI 1, SI 1, SA a, SU, SU, SU, SU] [(.int (1 : Int32))])) (fun _ k => XS.iload X181.here hx rfl (hb hby at_194) rfl k) ?_
          refine Goes.by (T' := T181) (g' := (mkF m 199 #[l0, l1, l2, l3, l4, l5, SI ia, SI ib, SI ia, l9, l10, l11, SD z1, S2, SD z2, S2, SD z3, S2, l18, l19, SI 1, SI 1, SI 1, SA a, SU, SU, SU, SU] [])) (fun _ k => XS.ifNo X181.here hx rfl (hb hby at_196) rfl (by decide) k) ?_
          refine Goes.by (T' := T181) (g' := (mkF m 201 #[l0, l1, l2, l3, l4, l5, SI ia, SI ib, SI ia, l9, l10, l11, SD z1, S2, SD z2, S2, SD z3, S2, l18, l19, SI 1, SI 1, SI 1, SA a, SU, SU, SU, SU] [(.ref a)])) (fun _ k => XS.aload X181.here hx rfl (hb hby at_199) rfl rfl k) ?_
          refine Goes.by (T' := T181) (g' := (mkF m 203 #[l0, l1, l2, l3, l4, l5, SI ia, SI ib, SI ia, l9, l10, l11, SD z1, S2, SD z2, S2, SD z3, S2, l18, l19, SI 1, SI 1, SI 1, SA a, SU, SU, SU, SU] [(.int ia), (.ref a)])) (fun _ k => XS.iload X181.here hx rfl (hb hby at_201) rfl k) ?_
          refine Goes.by (T' := T181) (g' := (mkF m 205 #[l0, l1, l2, l3, l4, l5, SI ia, SI ib, SI ia, l9, l10, l11, SD z1, S2, SD z2, S2, SD z3, S2, l18, l19, SI 1, SI 1, SI 1, SA a, SU, SU, SU, SU] [(.double z3), (.int ia), (.ref a)])) (fun _ k => XS.dload X181.here hx rfl (hb hby at_203) rfl k) ?_
          have fv3 : (own_upd (own_upd (fun _ => 0) ka w1.toInt) kb w2.toInt) ka = w1.toInt := by simp [own_upd, nkab, nkab.symm]
          obtain ⟨v182, T182, L182, X182, hQ182, st182⟩ := callV X181 hx hZ (y := (⟨"com/example/gibbon/gibbon/analysis/SparseSum", "add", "(ID)D"⟩ : MethodName)) hown (hw _ (List.mem_of_getElem? (i := 15) rfl)) (hw _ (List.mem_of_getElem? (i := 16) rfl)) (hw _ (List.mem_of_getElem? (i := 18) rfl)) (hw _ (List.mem_of_getElem? (i := 17) rfl)) (hw _ (List.mem_of_getElem? (i := 19) rfl)) (hw _ (List.mem_of_getElem? (i := 2) rfl)) (by decide) e181 EA (argsL := [(.int ia), (.double z3)]) (rest := []) (W := 0) (rm_addN l Z a0 hw a b12 bi (2 : Int32) ia ka z3 w3.toInt (own_upd (own_upd (fun _ => 0) ka w1.toInt) kb w2.toInt) (([] ++ [ka]) ++ [kb]) _ _ T181.heap n0 Z0 EA FS FI FN VS VI hR12 hka (by omega) D_z3 bw3 (by rw [fv3]; omega) (by simp) ge_a g12 gi na12 n2 nb12 (by rw [h128_12]; omega)) rfl (by decide) (by decide) (by decide) (by decide) (g := (mkF m 205 #[l0, l1, l2, l3, l4, l5, SI ia, SI ib, SI ia, l9, l10, l11, SD z1, S2, SD z2, S2, SD z3, S2, l18, l19, SI 1, SI 1, SI 1, SA a, SU, SU, SU, SU] [(.double z3), (.int ia), (.ref a)])) rfl (by rw [hml]; rfl) (lenOf pd3 rfl) rfl (by show 2 * 0 + _ ≤ _; exact Nat.le_of_eq rfl) (hb hby at_205)
          obtain ⟨rq13, b13, nq13, x13, y13, rfl, -, FS, FI, FN, VS, VI, hR13, hl13, hpr13, g13, na13, nb13, K182, NL182⟩ := hQ182
          have N0 := Fr.app N0 NL182
          have e182 : T182.heap = T182.heap := rfl
          have EA := EA.keep K182
          have Z0 := Nat.le_trans Z0 K182.1
          refine Goes.by (T' := T182) (g' := (mkF m 208 #[l0, l1, l2, l3, l4, l5, SI ia, SI ib, SI ia, l9, l10, l11, SD z1, S2, SD z2, S2, SD z3, S2, l18, l19, SI 1, SI 1, SI 1, SA a, SU, SU, SU, SU] [(.double rq13)])) st182 ?_
          rw [if_neg (by rw [fv3]; omega)] at hR13
          obtain rfl : nq13 = (2 : Int32) := Int32.toInt_inj.mp (by rw [hR13.2.2.2.2.1]; rfl)
          have h128_13 : x13.length = 128 := hpr13.trans h128_12
          refine Goes.by (T' := T182) (g' := (mkF m 209 #[l0, l1, l2, l3, l4, l5, SI ia, SI ib, SI ia, l9, l10, l11, SD z1, S2, SD z2, S2, SD z3, S2, l18, l19, SI 1, SI 1, SI 1, SA a, SU, SU, SU, SU] [])) (fun _ k => XS.pop2W X182.here hx rfl (hb hby at_208) rfl rfl k) ?_
          refine Goes.by (T' := T182) (g' := (mkF m 210 #[l0, l1, l2, l3, l4, l5, SI ia, SI ib, SI ia, l9, l10, l11, SD z1, S2, SD z2, S2, SD z3, S2, l18, l19, SI 1, SI 1, SI 1, SA a, SU, SU, SU, SU] [(.int (3 : Int32))])) (fun _ k => XS.iconst X182.here hx rfl (hb hby at_209)  k) ?_
          obtain ⟨T183, h183, k183, X183, e183, E183, A183, st183⟩ := newP X182 hx hZ (hw _ (List.mem_of_getElem? (i := 9) rfl)) e182 (g := (mkF m 210 #[l0, l1, l2, l3, l4, l5, SI ia, SI ib, SI ia, l9, l10, l11, SD z1, S2, SD z2, S2, SD z3, S2, l18, l19, SI 1, SI 1, SI 1, SA a, SU, SU, SU, SU] [(.int (3 : Int32))])) rfl (hb hby at_210) rfl (by decide) (cap := 3) (by decide) (by decide) (by decide) (by decide)
          obtain ⟨ea, g183⟩ : ∃ z, z = T182.heap.size := ⟨_, rfl⟩
          rw [← g183] at A183 st183
          have ne_a_ea : a ≠ ea := fun q => Nat.lt_irrefl _ (Nat.lt_of_lt_of_eq EA.lt (g183.symm.trans q.symm))
          have ne_b13_ea : b13 ≠ ea := fun q => Nat.lt_irrefl _ (Nat.lt_of_lt_of_eq VS.lt (g183.symm.trans q.symm))
          have ne_bi_ea : bi ≠ ea := fun q => Nat.lt_irrefl _ (Nat.lt_of_lt_of_eq VI.lt (g183.symm.trans q.symm))
          have ge_ea : n0 ≤ ea := Nat.le_trans Z0 (Nat.le_of_eq g183.symm)
          have EA := EA.ext E183
          have FS := FS.ext E183
          have FI := FI.ext E183
          have FN := FN.ext E183
          have VS := VS.ext E183
          have VI := VI.ext E183
          have Z0 := Nat.le_trans Z0 E183.1
          have V_ea : Sar Z h183 ea .double [(.double (0 : UInt64)), (.double (0 : UInt64)), (.double (0 : UInt64))] := Sar.new (n := 3) A183 (by decide)
          refine Goes.by (T' := T183) (g' := (mkF m 212 #[l0, l1, l2, l3, l4, l5, SI ia, SI ib, SI ia, l9, l10, l11, SD z1, S2, SD z2, S2, SD z3, S2, l18, l19, SI 1, SI 1, SI 1, SA a, SU, SU, SU, SU] [(.ref ea)])) st183 ?_
          refine Goes.by (T' := T183) (g' := (mkF m 214 #[l0, l1, l2, l3, l4, l5, SI ia, SI ib, SI ia, l9, l10, l11, SD z1, S2, SD z2, S2, SD z3, S2, l18, l19, SI 1, SI 1, SI 1, SA a, SA ea, SU, SU, SU] [])) (fun _ k => XS.astore X183.here hx rfl (hb hby at_212) rfl rfl (l' := #[l0, l1, l2, l3, l4, l5, SI ia, SI ib, SI ia, l9, l10, l11, SD z1, S2, SD z2, S2, SD z3, S2, l18, l19, SI 1, SI 1, SI 1, SA a, SA ea, SU, SU, SU]) rfl k) ?_
          refine Goes.by (T' := T183) (g' := (mkF m 215 #[l0, l1, l2, l3, l4, l5, SI ia, SI ib, SI ia, l9, l10, l11, SD z1, S2, SD z2, S2, SD z3, S2, l18, l19, SI 1, SI 1, SI 1, SA a, SA ea, SU, SU, SU] [(.int (0 : Int32))])) (fun _ k => XS.iconst X183.here hx rfl (hb hby at_214)  k) ?_
          refine Goes.by (T' := T183) (g' := (mkF m 217 #[l0, l1, l2, l3, l4, l5, SI ia, SI ib, SI ia, l9, l10, l11, SD z1, S2, SD z2, S2, SD z3, S2, l18, l19, SI 1, SI 1, SI 1, SA a, SA ea, SI 0, SU, SU] [])) (fun _ k => XS.istore X183.here hx rfl (hb hby at_215) rfl (l' := #[l0, l1, l2, l3, l4, l5, SI ia, SI ib, SI ia, l9, l10, l11, SD z1, S2, SD z2, S2, SD z3, S2, l18, l19, SI 1, SI 1, SI 1, SA a, SA ea, SI 0, SU, SU]) rfl k) ?_
          refine Goes.by (T' := T183) (g' := (mkF m 219 #[l0, l1, l2, l3, l4, l5, SI ia, SI ib, SI ia, l9, l10, l11, SD z1, S2, SD z2, S2, SD z3, S2, l18, l19, SI 1, SI 1, SI 1, SA a, SA ea, SI 0, SU, SU] [(.int (1 : Int32))])) (fun _ k => XS.iload X183.here hx rfl (hb hby at_217) rfl k) ?_
          refine Goes.by (T' := T183) (g' := (mkF m 222 #[l0, l1, l2, l3, l4, l5, SI ia, SI ib, SI ia, l9, l10, l11, SD z1, S2, SD z2, S2, SD z3, S2, l18, l19, SI 1, SI 1, SI 1, SA a, SA ea, SI 0, SU, SU] [])) (fun _ k => XS.ifNo X183.here hx rfl (hb hby at_219) rfl (by decide) k) ?_
          refine Goes.by (T' := T183) (g' := (mkF m 224 #[l0, l1, l2, l3, l4, l5, SI ia, SI ib, SI ia, l9, l10, l11, SD z1, S2, SD z2, S2, SD z3, S2, l18, l19, SI 1, SI 1, SI 1, SA a, SA ea, SI 0, SU, SU] [(.double z1)])) (fun _ k => XS.dload X183.here hx rfl (hb hby at_222) rfl k) ?_
          refine Goes.by (T' := T183) (g' := (mkF m 226 #[l0, l1, l2, l3, l4, l5, SI ia, SI ib, SI ia, l9, l10, l11, SD z1, S2, SD z2, S2, SD z3, S2, l18, l19, SI 1, SI 1, SI 1, SA a, SA ea, SI 0, SD z1, S2] [])) (fun _ k => XS.dstore X183.here hx rfl (hb hby at_224) rfl (l' := #[l0, l1, l2, l3, l4, l5, SI ia, SI ib, SI ia, l9, l10, l11, SD z1, S2, SD z2, S2, SD z3, S2, l18, l19, SI 1, SI 1, SI 1, SA a, SA ea, SI 0, SD z1, S2]) rfl k) ?_
          refine Goes.by (T' := T183) (g' := (mkF m 228 #[l0, l1, l2, l3, l4, l5, SI ia, SI ib, SI ia, l9, l10, l11, SD z1, S2, SD z2, S2, SD z3, S2, l18, l19, SI 1, SI 1, SI 1, SA a, SA ea, SI 0, SD z1, S2] [(.int (1 : Int32))])) (fun _ k => XS.iload X183.here hx rfl (hb hby at_226) rfl k) ?_
          refine Goes.by (T' := T183) (g' := (mkF m 231 #[l0, l1, l2, l3, l4, l5, SI ia, SI ib, SI ia, l9, l10, l11, SD z1, S2, SD z2, S2, SD z3, S2, l18, l19, SI 1, SI 1, SI 1, SA a, SA ea, SI 0, SD z1, S2] [])) (fun _ k => XS.ifNo X183.here hx rfl (hb hby at_228) rfl (by decide) k) ?_
          refine Goes.by (T' := T183) (g' := (mkF m 233 #[l0, l1, l2, l3, l4, l5, SI ia, SI ib, SI ia, l9, l10, l11, SD z1, S2, SD z2, S2, SD z3, S2, l18, l19, SI 1, SI 1, SI 1, SA a, SA ea, SI 0, SD z1, S2] [(.int ib)])) (fun _ k => XS.iload X183.here hx rfl (hb hby at_231) rfl k) ?_
          refine Goes.by (T' := T183) (g' := (mkF m 235 #[l0, l1, l2, l3, l4, l5, SI ia, SI ib, SI ia, l9, l10, l11, SD z1, S2, SD z2, S2, SD z3, S2, l18, l19, SI 1, SI 1, SI 1, SA a, SA ea, SI 0, SD z1, S2] [(.int ia), (.int ib)])) (fun _ k => XS.iload X183.here hx rfl (hb hby at_233) rfl k) ?_
          refine Goes.by (T' := T183) (g' := (mkF m 245 #[l0, l1, l2, l3, l4, l5, SI ia, SI ib, SI ia, l9, l10, l11, SD z1, S2, SD z2, S2, SD z3, S2, l18, l19, SI 1, SI 1, SI 1, SA a, SA ea, SI 0, SD z1, S2] [])) (fun _ k => XS.icmpYes X183.here hx rfl (pc0 := 235) (pc' := 245) rfl (hb hby at_235) rfl (feq (fun q => hab q.symm)).2 (by decide) (by decide) k) ?_
          refine Goes.by (T' := T183) (g' := (mkF m 247 #[l0, l1, l2, l3, l4, l5, SI ia, SI ib, SI ia, l9, l10, l11, SD z1, S2, SD z2, S2, SD z3, S2, l18, l19, SI 1, SI 1, SI 1, SA a, SA ea, SI 0, SD z1, S2] [(.int (1 : Int32))])) (fun _ k => XS.iload X183.here hx rfl (hb hby at_245) rfl k) ?_
          refine Goes.by (T' := T183) (g' := (mkF m 250 #[l0, l1, l2, l3, l4, l5, SI ia, SI ib, SI ia, l9, l10, l11, SD z1, S2, SD z2, S2, SD z3, S2, l18, l19, SI 1, SI 1, SI 1, SA a, SA ea, SI 0, SD z1, S2] [])) (fun _ k => XS.ifNo X183.here hx rfl (hb hby at_247) rfl (by decide) k) ?_
          refine Goes.by (T' := T183) (g' := (mkF m 252 #[l0, l1, l2, l3, l4, l5, SI ia, SI ib, SI ia, l9, l10, l11, SD z1, S2, SD z2, S2, SD z3, S2, l18, l19, SI 1, SI 1, SI 1, SA a, SA ea, SI 0, SD z1, S2] [(.int ia)])) (fun _ k => XS.iload X183.here hx rfl (hb hby at_250) rfl k) ?_
          refine Goes.by (T' := T183) (g' := (mkF m 254 #[l0, l1, l2, l3, l4, l5, SI ia, SI ib, SI ia, l9, l10, l11, SD z1, S2, SD z2, S2, SD z3, S2, l18, l19, SI 1, SI 1, SI 1, SA a, SA ea, SI 0, SD z1, S2] [(.int ia), (.int ia)])) (fun _ k => XS.iload X183.here hx rfl (hb hby at_252) rfl k) ?_
          refine Goes.by (T' := T183) (g' := (mkF m 257 #[l0, l1, l2, l3, l4, l5, SI ia, SI ib, SI ia, l9, l10, l11, SD z1, S2, SD z2, S2, SD z3, S2, l18, l19, SI 1, SI 1, SI 1, SA a, SA ea, SI 0, SD z1, S2] [])) (fun _ k => XS.icmpNo X183.here hx rfl (hb hby at_254) rfl (teq rfl).2 k) ?_
          refine Goes.by (T' := T183) (g' := (mkF m 259 #[l0, l1, l2, l3, l4, l5, SI ia, SI ib, SI ia, l9, l10, l11, SD z1, S2, SD z2, S2, SD z3, S2, l18, l19, SI 1, SI 1, SI 1, SA a, SA ea, SI 0, SD z1, S2] [(.double z1)])) (fun _ k => XS.dload X183.here hx rfl (hb hby at_257) rfl k) ?_
          refine Goes.by (T' := T183) (g' := (mkF m 261 #[l0, l1, l2, l3, l4, l5, SI ia, SI ib, SI ia, l9, l10, l11, SD z1, S2, SD z2, S2, SD z3, S2, l18, l19, SI 1, SI 1, SI 1, SA a, SA ea, SI 0, SD z1, S2] [(.double z3), (.double z1)])) (fun _ k => XS.dload X183.here hx rfl (hb hby at_259) rfl k) ?_
          obtain ⟨t1, q_t1⟩ : ∃ zz, FP.dadd z1 z3 = zz := ⟨_, rfl⟩
          have D_t1 : Core.DInt (w1.toInt + w3.toInt) t1 := DInt_add q_t1 D_z1 D_z3 (by omega)
          refine Goes.by (T' := T183) (g' := (mkF m 262 #[l0, l1, l2, l3, l4, l5, SI ia, SI ib, SI ia, l9, l10, l11, SD z1, S2, SD z2, S2, SD z3, S2, l18, l19, SI 1, SI 1, SI 1, SA a, SA ea, SI 0, SD z1, S2] [(.double t1)])) (fun _ k => XS.daddS X183.here hx rfl (hb hby at_261) rfl (by rw [q_t1]; exact DInt_nn D_t1) q_t1 k) ?_
          refine Goes.by (T' := T183) (g' := (mkF m 264 #[l0, l1, l2, l3, l4, l5, SI ia, SI ib, SI ia, l9, l10, l11, SD z1, S2, SD z2, S2, SD z3, S2, l18, l19, SI 1, SI 1, SI 1, SA a, SA ea, SI 0, SD t1, S2] [])) (fun _ k => XS.dstore X183.here hx rfl (hb hby at_262) rfl (l' := #[l0, l1, l2, l3, l4, l5, SI ia, SI ib, SI ia, l9, l10, l11, SD z1, S2, SD z2, S2, SD z3, S2, l18, l19, SI 1, SI 1, SI 1, SA a, SA ea, SI 0, SD t1, S2]) rfl k) ?_
          refine Goes.by (T' := T183) (g' := (mkF m 266 #[l0, l1, l2, l3, l4, l5, SI ia, SI ib, SI ia, l9, l10, l11, SD z1, S2, SD z2, S2, SD z3, S2, l18, l19, SI 1, SI 1, SI 1, SA a, SA ea, SI 0, SD t1, S2] [(.ref ea)])) (fun _ k => XS.aload X183.here hx rfl (hb hby at_264) rfl rfl k) ?_
          refine Goes.by (T' := T183) (g' := (mkF m 268 #[l0, l1, l2, l3, l4, l5, SI ia, SI ib, SI ia, l9, l10, l11, SD z1, S2, SD z2, S2, SD z3, S2, l18, l19, SI 1, SI 1, SI 1, SA a, SA ea, SI 0, SD t1, S2] [(.int (0 : Int32)), (.ref ea)])) (fun _ k => XS.iload X183.here hx rfl (hb hby at_266) rfl k) ?_
          refine Goes.by (T' := T183) (g' := (mkF m 270 #[l0, l1, l2, l3, l4, l5, SI ia, SI ib, SI ia, l9, l10, l11, SD z1, S2, SD z2, S2, SD z3, S2, l18, l19, SI 1, SI 1, SI 1, SA a, SA ea, SI 0, SD t1, S2] [(.double t1), (.int (0 : Int32)), (.ref ea)])) (fun _ k => XS.dload X183.here hx rfl (hb hby at_268) rfl k) ?_
          obtain ⟨T184, h184, X184, e184, W184, V184, st184⟩ := stDS X183 hx hZ e183 V_ea (j := (0 : Int32)) 0 (by decide) (by show 0 < 3; decide) (g := (mkF m 270 #[l0, l1, l2, l3, l4, l5, SI ia, SI ib, SI ia, l9, l10, l11, SD z1, S2, SD z2, S2, SD z3, S2, l18, l19, SI 1, SI 1, SI 1, SA a, SA ea, SI 0, SD t1, S2] [(.double t1), (.int (0 : Int32)), (.ref ea)])) rfl rfl (hb hby at_270)
          have N0 := Fr.snoc X184 N0 ge_ea
          have EA := EA.wr W184
          have FS := FS.other W184 (Or.inl ne_a_ea)
          have FI := FI.other W184 (Or.inl ne_a_ea)
          have FN := FN.other W184 (Or.inl ne_a_ea)
          have VS := VS.other W184 ne_b13_ea
          have VI := VI.other W184 ne_bi_ea
          have Z0 := Nat.le_trans Z0 (Nat.le_of_eq W184.size.symm)
          have V_ea : Sar Z h184 ea .double [(.double t1), (.double (0 : UInt64)), (.double (0 : UInt64))] := V184
          refine Goes.by (T' := T184) (g' := (mkF m 271 #[l0, l1, l2, l3, l4, l5, SI ia, SI ib, SI ia, l9, l10, l11, SD z1, S2, SD z2, S2, SD z3, S2, l18, l19, SI 1, SI 1, SI 1, SA a, SA ea, SI 0, SD t1, S2] [])) st184 ?_
          refine Goes.by (T' := T184) (g' := (mkF m 273 #[l0, l1, l2, l3, l4, l5, SI ia, SI ib, SI ia, l9, l10, l11, SD z1, S2, SD z2, S2, SD z3, S2, l18, l19, SI 1, SI 1, SI 1, SA a, SA ea, SI 0, SD t1, S2] [(.int (0 : Int32))])) (fun _ k => XS.iload X184.here hx rfl (hb hby at_271) rfl k) ?_
          refine Goes.by (T' := T184) (g' := (mkF m 274 #[l0, l1, l2, l3, l4, l5, SI ia, SI ib, SI ia, l9, l10, l11, SD z1, S2, SD z2, S2, SD z3, S2, l18, l19, SI 1, SI 1, SI 1, SA a, SA ea, SI 0, SD t1, S2] [(.int (1 : Int32)), (.int (0 : Int32))])) (fun _ k => XS.iconst X184.here hx rfl (hb hby at_273)  k) ?_
          refine Goes.by (T' := T184) (g' := (mkF m 275 #[l0, l1, l2, l3, l4, l5, SI ia, SI ib, SI ia, l9, l10, l11, SD z1, S2, SD z2, S2, SD z3, S2, l18, l19, SI 1, SI 1, SI 1, SA a, SA ea, SI 0, SD t1, S2] [(.int (1 : Int32))])) (fun _ k => XS.iadd X184.here hx rfl (hb hby at_274) rfl k) ?_
          refine Goes.by (T' := T184) (g' := (mkF m 277 #[l0, l1, l2, l3, l4, l5, SI ia, SI ib, SI ia, l9, l10, l11, SD z1, S2, SD z2, S2, SD z3, S2, l18, l19, SI 1, SI 1, SI 1, SA a, SA ea, SI 1, SD t1, S2] [])) (fun _ k => XS.istore X184.here hx rfl (hb hby at_275) rfl (l' := #[l0, l1, l2, l3, l4, l5, SI ia, SI ib, SI ia, l9, l10, l11, SD z1, S2, SD z2, S2, SD z3, S2, l18, l19, SI 1, SI 1, SI 1, SA a, SA ea, SI 1, SD t1, S2]) rfl k) ?_
          refine Goes.by (T' := T184) (g' := (mkF m 279 #[l0, l1, l2, l3, l4, l5, SI ia, SI ib, SI ia, l9, l10, l11, SD z1, S2, SD z2, S2, SD z3, S2, l18, l19, SI 1, SI 1, SI 1, SA a, SA ea, SI 1, SD t1, S2] [(.int (1 : Int32))])) (fun _ k => XS.iload X184.here hx rfl (hb hby at_277) rfl k) ?_
          refine Goes.by (T' := T184) (g' := (mkF m 282 #[l0, l1, l2, l3, l4, l5, SI ia, SI ib, SI ia, l9, l10, l11, SD z1, S2, SD z2, S2, SD z3, S2, l18, l19, SI 1, SI 1, SI 1, SA a, SA ea, SI 1, SD t1, S2] [])) (fun _ k => XS.ifNo X184.here hx rfl (hb hby at_279) rfl (by decide) k) ?_
          refine Goes.by (T' := T184) (g' := (mkF m 284 #[l0, l1, l2, l3, l4, l5, SI ia, SI ib, SI ia, l9, l10, l11, SD z1, S2, SD z2, S2, SD z3, S2, l18, l19, SI 1, SI 1, SI 1, SA a, SA ea, SI 1, SD t1, S2] [(.int ib)])) (fun _ k => XS.iload X184.here hx rfl (hb hby at_282) rfl k) ?_
          refine Goes.by (T' := T184) (g' := (mkF m 286 #[l0, l1, l2, l3, l4, l5, SI ia, SI ib, SI ia, l9, l10, l11, SD z1, S2, SD z2, S2, SD z3, S2, l18, l19, SI 1, SI 1, SI 1, SA a, SA ea, SI 1, SD t1, S2] [(.int ia), (.int ib)])) (fun _ k => XS.iload X184.here hx rfl (hb hby at_284) rfl k) ?_
          refine Goes.by (T' := T184) (g' := (mkF m 289 #[l0, l1, l2, l3, l4, l5, SI ia, SI ib, SI ia, l9, l10, l11, SD z1, S2, SD z2, S2, SD z3, S2, l18, l19, SI 1, SI 1, SI 1, SA a, SA ea, SI 1, SD t1, S2] [])) (fun _ k => XS.icmpNo X184.here hx rfl (hb hby at_286) rfl (feq (fun q => hab q.symm)).1 k) ?_
          refine Goes.by (T' := T184) (g' := (mkF m 291 #[l0, l1, l2, l3, l4, l5, SI ia, SI ib, SI ia, l9, l10, l11, SD z1, S2, SD z2, S2, SD z3, S2, l18, l19, SI 1, SI 1, SI 1, SA a, SA ea, SI 1, SD t1, S2] [(.double z2)])) (fun _ k => XS.dload X184.here hx rfl (hb hby at_289) rfl k) ?_
          refine Goes.by (T' := T184) (g' := (mkF m 293 #[l0, l1, l2, l3, l4, l5, SI ia, SI ib, SI ia, l9, l10, l11, SD z1, S2, SD z2, S2, SD z3, S2, l18, l19, SI 1, SI 1, SI 1, SA a, SA ea, SI 1, SD z2, S2] [])) (fun _ k => XS.dstore X184.here hx rfl (hb hby at_291) rfl (l' := #[l0, l1, l2, l3, l4, l5, SI ia, SI ib, SI ia, l9, l10, l11, SD z1, S2, SD z2, S2, SD z3, S2, l18, l19, SI 1, SI 1, SI 1, SA a, SA ea, SI 1, SD z2, S2]) rfl k) ?_
          refine Goes.by (T' := T184) (g' := (mkF m 295 #[l0, l1, l2, l3, l4, l5, SI ia, SI ib, SI ia, l9, l10, l11, SD z1, S2, SD z2, S2, SD z3, S2, l18, l19, SI 1, SI 1, SI 1, SA a, SA ea, SI 1, SD z2, S2] [(.int (1 : Int32))])) (fun _ k => XS.iload X184.here hx rfl (hb hby at_293) rfl k) ?_
          refine Goes.by (T' := T184) (g' := (mkF m 298 #[l0, l1, l2, l3, l4, l5, SI ia, SI ib, SI ia, l9, l10, l11, SD z1, S2, SD z2, S2, SD z3, S2, l18, l19, SI 1, SI 1, SI 1, SA a, SA ea, SI 1, SD z2, S2] [])) (fun _ k => XS.ifNo X184.here hx rfl (hb hby at_295) rfl (by decide) k) ?_
          refine Goes.by (T' := T184) (g' := (mkF m 300 #[l0, l1, l2, l3, l4, l5, SI ia, SI ib, SI ia, l9, l10, l11, SD z1, S2, SD z2, S2, SD z3, S2, l18, l19, SI 1, SI 1, SI 1, SA a, SA ea, SI 1, SD z2, S2] [(.int ia)])) (fun _ k => XS.iload X184.here hx rfl (hb hby at_298) rfl k) ?_
          refine Goes.by (T' := T184) (g' := (mkF m 302 #[l0, l1, l2, l3, l4, l5, SI ia, SI ib, SI ia, l9, l10, l11, SD z1, S2, SD z2, S2, SD z3, S2, l18, l19, SI 1, SI 1, SI 1, SA a, SA ea, SI 1, SD z2, S2] [(.int ib), (.int ia)])) (fun _ k => XS.iload X184.here hx rfl (hb hby at_300) rfl k) ?_
          refine Goes.by (T' := T184) (g' := (mkF m 312 #[l0, l1, l2, l3, l4, l5, SI ia, SI ib, SI ia, l9, l10, l11, SD z1, S2, SD z2, S2, SD z3, S2, l18, l19, SI 1, SI 1, SI 1, SA a, SA ea, SI 1, SD z2, S2] [])) (fun _ k => XS.icmpYes X184.here hx rfl (pc0 := 302) (pc' := 312) rfl (hb hby at_302) rfl (feq (fun q => hab q)).2 (by decide) (by decide) k) ?_
          refine Goes.by (T' := T184) (g' := (mkF m 314 #[l0, l1, l2, l3, l4, l5, SI ia, SI ib, SI ia, l9, l10, l11, SD z1, S2, SD z2, S2, SD z3, S2, l18, l19, SI 1, SI 1, SI 1, SA a, SA ea, SI 1, SD z2, S2] [(.ref ea)])) (fun _ k => XS.aload X184.here hx rfl (hb hby at_312) rfl rfl k) ?_
          refine Goes.by (T' := T184) (g' := (mkF m 316 #[l0, l1, l2, l3, l4, l5, SI ia, SI ib, SI ia, l9, l10, l11, SD z1, S2, SD z2, S2, SD z3, S2, l18, l19, SI 1, SI 1, SI 1, SA a, SA ea, SI 1, SD z2, S2] [(.int (1 : Int32)), (.ref ea)])) (fun _ k => XS.iload X184.here hx rfl (hb hby at_314) rfl k) ?_
          refine Goes.by (T' := T184) (g' := (mkF m 318 #[l0, l1, l2, l3, l4, l5, SI ia, SI ib, SI ia, l9, l10, l11, SD z1, S2, SD z2, S2, SD z3, S2, l18, l19, SI 1, SI 1, SI 1, SA a, SA ea, SI 1, SD z2, S2] [(.double z2), (.int (1 : Int32)), (.ref ea)])) (fun _ k => XS.dload X184.here hx rfl (hb hby at_316) rfl k) ?_
          obtain ⟨T185, h185, X185, e185, W185, V185, st185⟩ := stDS X184 hx hZ e184 V_ea (j := (1 : Int32)) 1 (by decide) (by show 1 < 3; decide) (g := (mkF m 318 #[l0, l1, l2, l3, l4, l5, SI ia, SI ib, SI ia, l9, l10, l11, SD z1, S2, SD z2, S2, SD z3, S2, l18, l19, SI 1, SI 1, SI 1, SA a, SA ea, SI 1, SD z2, S2] [(.double z2), (.int (1 : Int32)), (.ref ea)])) rfl rfl (hb hby at_318)
          have N0 := Fr.snoc X185 N0 ge_ea
          have EA := EA.wr W185
          have FS := FS.other W185 (Or.inl ne_a_ea)
          have FI := FI.other W185 (Or.inl ne_a_ea)
          have FN := FN.other W185 (Or.inl ne_a_ea)
          have VS := VS.other W185 ne_b13_ea
          have VI := VI.other W185 ne_bi_ea
          have Z0 := Nat.le_trans Z0 (Nat.le_of_eq W185.size.symm)
          have V_ea : Sar Z h185 ea .double [(.double t1), (.double z2), (.double (0 : UInt64))] := V185
          refine Goes.by (T' := T185) (g' := (mkF m 319 #[l0, l1, l2, l3, l4, l5, SI ia, SI ib, SI ia, l9, l10, l11, SD z1, S2, SD z2, S2, SD z3, S2, l18, l19, SI 1, SI 1, SI 1, SA a, SA ea, SI 1, SD z2, S2] [])) st185 ?_
          refine Goes.by (T' := T185) (g' := (mkF m 321 #[l0, l1, l2, l3, l4, l5, SI ia, SI ib, SI ia, l9, l10, l11, SD z1, S2, SD z2, S2, SD z3, S2, l18, l19, SI 1, SI 1, SI 1, SA a, SA ea, SI 1, SD z2, S2] [(.int (1 : Int32))])) (fun _ k => XS.iload X185.here hx rfl (hb hby at_319) rfl k) ?_
          refine Goes.by (T' := T185) (g' := (mkF m 322 #[l0, l1, l2, l3, l4, l5, SI ia, SI ib, SI ia, l9, l10, l11, SD z1, S2, SD z2, S2, SD z3, S2, l18, l19, SI 1, SI 1, SI 1, SA a, SA ea, SI 1, SD z2, S2] [(.int (1 : Int32)), (.int (1 : Int32))])) (fun _ k => XS.iconst X185.here hx rfl (hb hby at_321)  k) ?_
          refine Goes.by (T' := T185) (g' := (mkF m 323 #[l0, l1, l2, l3, l4, l5, SI ia, SI ib, SI ia, l9, l10, l11, SD z1, S2, SD z2, S2, SD z3, S2, l18, l19, SI 1, SI 1, SI 1, SA a, SA ea, SI 1, SD z2, S2] [(.int (2 : Int32))])) (fun _ k => XS.iadd X185.here hx rfl (hb hby at_322) rfl k) ?_
          refine Goes.by (T' := T185) (g' := (mkF m 325 #[l0, l1, l2, l3, l4, l5, SI ia, SI ib, SI ia, l9, l10, l11, SD z1, S2, SD z2, S2, SD z3, S2, l18, l19, SI 1, SI 1, SI 1, SA a, SA ea, SI 2, SD z2, S2] [])) (fun _ k => XS.istore X185.here hx rfl (hb hby at_323) rfl (l' := #[l0, l1, l2, l3, l4, l5, SI ia, SI ib, SI ia, l9, l10, l11, SD z1, S2, SD z2, S2, SD z3, S2, l18, l19, SI 1, SI 1, SI 1, SA a, SA ea, SI 2, SD z2, S2]) rfl k) ?_
          refine Goes.by (T' := T185) (g' := (mkF m 327 #[l0, l1, l2, l3, l4, l5, SI ia, SI ib, SI ia, l9, l10, l11, SD z1, S2, SD z2, S2, SD z3, S2, l18, l19, SI 1, SI 1, SI 1, SA a, SA ea, SI 2, SD z2, S2] [(.int (1 : Int32))])) (fun _ k => XS.iload X185.here hx rfl (hb hby at_325) rfl k) ?_
          refine Goes.by (T' := T185) (g' := (mkF m 330 #[l0, l1, l2, l3, l4, l5, SI ia, SI ib, SI ia, l9, l10, l11, SD z1, S2, SD z2, S2, SD z3, S2, l18, l19, SI 1, SI 1, SI 1, SA a, SA ea, SI 2, SD z2, S2] [])) (fun _ k => XS.ifNo X185.here hx rfl (hb hby at_327) rfl (by decide) k) ?_
          refine Goes.by (T' := T185) (g' := (mkF m 332 #[l0, l1, l2, l3, l4, l5, SI ia, SI ib, SI ia, l9, l10, l11, SD z1, S2, SD z2, S2, SD z3, S2, l18, l19, SI 1, SI 1, SI 1, SA a, SA ea, SI 2, SD z2, S2] [(.int ia)])) (fun _ k => XS.iload X185.here hx rfl (hb hby at_330) rfl k) ?_
          refine Goes.by (T' := T185) (g' := (mkF m 334 #[l0, l1, l2, l3, l4, l5, SI ia, SI ib, SI ia, l9, l10, l11, SD z1, S2, SD z2, S2, SD z3, S2, l18, l19, SI 1, SI 1, SI 1, SA a, SA ea, SI 2, SD z2, S2] [(.int ia), (.int ia)])) (fun _ k => XS.iload X185.here hx rfl (hb hby at_332) rfl k) ?_
          refine Goes.by (T' := T185) (g' := (mkF m 357 #[l0, l1, l2, l3, l4, l5, SI ia, SI ib, SI ia, l9, l10, l11, SD z1, S2, SD z2, S2, SD z3, S2, l18, l19, SI 1, SI 1, SI 1, SA a, SA ea, SI 2, SD z2, S2] [])) (fun _ k => XS.icmpYes X185.here hx rfl (pc0 := 334) (pc' := 357) rfl (hb hby at_334) rfl (teq rfl).1 (by decide) (by decide) k) ?_
          refine Goes.by (T' := T185) (g' := (mkF m 359 #[l0, l1, l2, l3, l4, l5, SI ia, SI ib, SI ia, l9, l10, l11, SD z1, S2, SD z2, S2, SD z3, S2, l18, l19, SI 1, SI 1, SI 1, SA a, SA ea, SI 2, SD z2, S2] [(.ref a)])) (fun _ k => XS.aload X185.here hx rfl (hb hby at_357) rfl rfl k) ?_
          obtain ⟨hq0, v0, hy0, hv0⟩ := hR13.2.2.2.2.2.2 0 ka (by simp)
          obtain ⟨d0, hx0, Dd0⟩ := hR13.2.1 ka hq0
          have fe0 : (own_upd (own_upd (own_upd (fun _ => 0) ka w1.toInt) kb w2.toInt) ka w3.toInt) ka = w1.toInt + w3.toInt := by simp [own_upd, nkab, nkab.symm]
          rw [fe0] at Dd0
          obtain ⟨hq1, v1, hy1, hv1⟩ := hR13.2.2.2.2.2.2 1 kb (by simp)
          obtain ⟨d1, hx1, Dd1⟩ := hR13.2.1 kb hq1
          have fe1 : (own_upd (own_upd (own_upd (fun _ => 0) ka w1.toInt) kb w2.toInt) ka w3.toInt) kb = w2.toInt := by simp [own_upd, nkab, nkab.symm]
          rw [fe1] at Dd1
          exact cmp2 a b13 bi ea _ _ _ _ _ v0 ka d0 (w1.toInt + w3.toInt) v1 kb d1 w2.toInt _ _ _ _ _ _ _ _ _ _ _ _ _ _ _ _ _ _ _ _ _ _ _ _ _ _ _ (X185.wide (fun x hx _ => hx) (by decide) (by decide)) e185 N0 Z0 EA FS FI FN VS VI V_ea ge_a g13 gi ge_ea na13 nb13 n2 ne_a_ea ne_b13_ea ne_bi_ea hy0 hv0 hx0 Dd0 D_t1 hy1 hv1 hx1 Dd1 D_z2
        · have nkac : ka ≠ kc := fun q => hac (Int32.toInt_inj.mp (by rw [hka, hkc, q]))
          by_cases hbc : ib = ic
          · subst hbc
            refine Goes.by (T' := Tj168) (g' := (mkF m 166 #[l0, l1, l2, l3, l4, l5, SI ia, SI ib, SI ib, l9, l10, l11, SD z1, S2, SD z2, S2, SD z3, S2, l18, l19, SI 1, SI 1, SI 1, SA a, SU, SU, SU, SU] [(.int (1 : Int32))])) (fun _ k => XS.iload Xj168.here hx rfl (hb hby at_164) rfl k) ?_
            refine Goes.by (T' := Tj168) (g' := (mkF m 169 #[l0, l1, l2, l3, l4, l5, SI ia, SI ib, SI ib, l9, l10, l11, SD z1, S2, SD z2, S2, SD z3, S2, l18, l19, SI 1, SI 1, SI 1, SA a, SU, SU, SU, SU] [])) (fun _ k => XS.ifNo Xj168.here hx rfl (hb hby at_166) rfl (by decide) k) ?_
            refine Goes.by (T' := Tj168) (g' := (mkF m 171 #[l0, l1, l2, l3, l4, l5, SI ia, SI ib, SI ib, l9, l10, l11, SD z1, S2, SD z2, S2, SD z3, S2, l18, l19, SI 1, SI 1, SI 1, SA a, SU, SU, SU, SU] [(.ref a)])) (fun _ k => XS.aload Xj168.here hx rfl (hb hby at_169) rfl rfl k) ?_
            refine Goes.by (T' := Tj168) (g' := (mkF m 173 #[l0, l1, l2, l3, l4, l5, SI ia, SI ib, SI ib, l9, l10, l11, SD z1, S2, SD z2, S2, SD z3, S2, l18, l19, SI 1, SI 1, SI 1, SA a, SU, SU, SU, SU] [(.int ia), (.ref a)])) (fun _ k => XS.iload Xj168.here hx rfl (hb hby at_171) rfl k) ?_
            refine Goes.by (T' := Tj168) (g' := (mkF m 175 #[l0, l1, l2, l3, l4, l5, SI ia, SI ib, SI ib, l9, l10, l11, SD z1, S2, SD z2, S2, SD z3, S2, l18, l19, SI 1, SI 1, SI 1, SA a, SU, SU, SU, SU] [(.double z1), (.int ia), (.ref a)])) (fun _ k => XS.dload Xj168.here hx rfl (hb hby at_173) rfl k) ?_
            obtain ⟨v186, T186, L186, X186, hQ186, st186⟩ := callV Xj168 hx hZ (y := (⟨"com/example/gibbon/gibbon/analysis/SparseSum", "add", "(ID)D"⟩ : MethodName)) hown (hw _ (List.mem_of_getElem? (i := 15) rfl)) (hw _ (List.mem_of_getElem? (i := 16) rfl)) (hw _ (List.mem_of_getElem? (i := 18) rfl)) (hw _ (List.mem_of_getElem? (i := 17) rfl)) (hw _ (List.mem_of_getElem? (i := 19) rfl)) (hw _ (List.mem_of_getElem? (i := 2) rfl)) (by decide) ej168 EA (argsL := [(.int ia), (.double z1)]) (rest := []) (W := 0) (rm_addN l Z a0 hw a br bi (0 : Int32) ia ka z1 w1.toInt (fun _ => 0) [] _ _ hj168 n0 Z0 EA FS FI FN VS VI hR hka (by omega) D_z1 bw1 (by decide) (by simp) ge_a gr gi n4 n2 n5 (by rw [h128]; omega)) rfl (by decide) (by decide) (by decide) (by decide) (g := (mkF m 175 #[l0, l1, l2, l3, l4, l5, SI ia, SI ib, SI ib, l9, l10, l11, SD z1, S2, SD z2, S2, SD z3, S2, l18, l19, SI 1, SI 1, SI 1, SA a, SU, SU, SU, SU] [(.double z1), (.int ia), (.ref a)])) rfl (by rw [hml]; rfl) (lenOf pd3 rfl) rfl (by show 2 * 0 + _ ≤ _; exact Nat.le_of_eq rfl) (hb hby at_175)
            obtain ⟨rq11, b11, nq11, x11, y11, rfl, -, FS, FI, FN, VS, VI, hR11, hl11, hpr11, g11, na11, nb11, K186, NL186⟩ := hQ186
            have N0 := Fr.app N0 NL186
            have e186 : T186.heap = T186.heap := rfl
            have EA := EA.keep K186
            have Z0 := Nat.le_trans Z0 K186.1
            refine Goes.by (T' := T186) (g' := (mkF m 178 #[l0, l1, l2, l3, l4, l5, SI ia, SI ib, SI ib, l9, l10, l11, SD z1, S2, SD z2, S2, SD z3, S2, l18, l19, SI 1, SI 1, SI 1, SA a, SU, SU, SU, SU] [(.double rq11)])) st186 ?_
            rw [if_pos rfl] at hR11
            obtain rfl : nq11 = (1 : Int32) := Int32.toInt_inj.mp (by rw [hR11.2.2.2.2.1]; rfl)
            have h128_11 : x11.length = 128 := hpr11.trans h128
            refine Goes.by (T' := T186) (g' := (mkF m 179 #[l0, l1, l2, l3, l4, l5, SI ia, SI ib, SI ib, l9, l10, l11, SD z1, S2, SD z2, S2, SD z3, S2, l18, l19, SI 1, SI 1, SI 1, SA a, SU, SU, SU, SU] [])) (fun _ k => XS.pop2W X186.here hx rfl (hb hby at_178) rfl rfl k) ?_
            refine Goes.by (T' := T186) (g' := (mkF m 181 #[l0, l1, l2, l3, l4, l5, SI ia, SI ib, SI ib, l9, l10, l11, SD z1, S2, SD z2, S2, SD z3, S2, l18, l19, SI 1, SI 1, SI 1, SA a, SU, SU, SU, SU] [(.int (1 : Int32))])) (fun _ k => XS.iload X186.here hx rfl (hb hby at_179) rfl k) ?_
            refine Goes.by (T' := T186) (g' := (mkF m 184 #[l0, l1, l2, l3, l4, l5, SI ia, SI ib, SI ib, l9, l10, l11, SD z1, S2, SD z2, S2, SD z3, S2, l18, l19, SI 1, SI 1, SI 1, SA a, SU, SU, SU, SU] [])) (fun _ k => XS.ifNo X186.here hx rfl (hb hby at_181) rfl (by decide) k) ?_
            refine Goes.by (T' := T186) (g' := (mkF m 186 #[l0, l1, l2, l3, l4, l5, SI ia, SI ib, SI ib, l9, l10, l11, SD z1, S2, SD z2, S2, SD z3, S2, l18, l19, SI 1, SI 1, SI 1, SA a, SU, SU, SU, SU] [(.ref a)])) (fun _ k => XS.aload X186.here hx rfl (hb hby at_184) rfl rfl k) ?_
            refine Goes.by (T' := T186) (g' := (mkF m 188 #[l0, l1, l2, l3, l4, l5, SI ia, SI ib, SI ib, l9, l10, l11, SD z1, S2, SD z2, S2, SD z3, S2, l18, l19, SI 1, SI 1, SI 1, SA a, SU, SU, SU, SU] [(.int ib), (.ref a)])) (fun _ k => XS.iload X186.here hx rfl (hb hby at_186) rfl k) ?_
            refine Goes.by (T' := T186) (g' := (mkF m 190 #[l0, l1, l2, l3, l4, l5, SI ia, SI ib, SI ib, l9, l10, l11, SD z1, S2, SD z2, S2, SD z3, S2, l18, l19, SI 1, SI 1, SI 1, SA a, SU, SU, SU, SU] [(.double z2), (.int ib), (.ref a)])) (fun _ k => XS.dload X186.here hx rfl (hb hby at_188) rfl k) ?_
            have fv2 : (own_upd (fun _ => 0) ka w1.toInt) kb = 0 := by simp [own_upd, nkab, nkab.symm]
            obtain ⟨v187, T187, L187, X187, hQ187, st187⟩ := callV X186 hx hZ (y := (⟨"com/example/gibbon/gibbon/analysis/SparseSum", "add", "(ID)D"⟩ : MethodName)) hown (hw _ (List.mem_of_getElem? (i := 15) rfl)) (hw _ (List.mem_of_getElem? (i := 16) rfl)) (hw _ (List.mem_of_getElem? (i := 18) rfl)) (hw _ (List.mem_of_getElem? (i := 17) rfl)) (hw _ (List.mem_of_getElem? (i := 19) rfl)) (hw _ (List.mem_of_getElem? (i := 2) rfl)) (by decide) e186 EA (argsL := [(.int ib), (.double z2)]) (rest := []) (W := 0) (rm_addN l Z a0 hw a b11 bi (1 : Int32) ib kb z2 w2.toInt (own_upd (fun _ => 0) ka w1.toInt) ([] ++ [ka]) _ _ T186.heap n0 Z0 EA FS FI FN VS VI hR11 hkb (by omega) D_z2 bw2 (by rw [fv2]; omega) (by simp) ge_a g11 gi na11 n2 nb11 (by rw [h128_11]; omega)) rfl (by decide) (by decide) (by decide) (by decide) (g := (mkF m 190 #[l0, l1, l2, l3, l4, l5, SI ia, SI ib, SI ib, l9, l10, l11, SD z1, S2, SD z2, S2, SD z3, S2, l18, l19, SI 1, SI 1, SI 1, SA a, SU, SU, SU, SU] [(.double z2), (.int ib), (.ref a)])) rfl (by rw [hml]; rfl) (lenOf pd3 rfl) rfl (by show 2 * 0 + _ ≤ _; exact Nat.le_of_eq rfl) (hb hby at_190)
            obtain ⟨rq12, b12, nq12, x12, y12, rfl, -, FS, FI, FN, VS, VI, hR12, hl12, hpr12, g12, na12, nb12, K187, NL187⟩ := hQ187
            have N0 := Fr.app N0 NL187
            have e187 : T187.heap = T187.heap := rfl
            have EA := EA.keep K187
            have Z0 := Nat.le_trans Z0 K187.1
            refine Goes.by (T' := T187) (g' := (mkF m 193 #[l0, l1, l2, l3, l4, l5, SI ia, SI ib, SI ib, l9, l10, l11, SD z1, S2, SD z2, S2, SD z3, S2, l18, l19, SI 1, SI 1, SI 1, SA a, SU, SU, SU, SU] [(.double rq12)])) st187 ?_
            rw [if_pos fv2] at hR12
            obtain rfl : nq12 = (2 : Int32) := Int32.toInt_inj.mp (by rw [hR12.2.2.2.2.1]; rfl)
            have h128_12 : x12.length = 128 := hpr12.trans h128_11
            refine Goes.by (T' := T187) (g' := (mkF m 194 #[l0, l1, l2, l3, l4, l5, SI ia, SI ib, SI ib, l9, l10, l11, SD z1, S2, SD z2, S2, SD z3, S2, l18, l19, SI 1, SI 1, SI 1, SA a, SU, SU, SU, SU] [])) (fun _ k => XS.pop2W X187.here hx rfl (hb hby at_193) rfl rfl k) ?_
            refine Goes.by (T' := T187) (g' := (mkF m 196 #[l0, l1, l2, l3, l4, l5, SI ia, SI ib, SI ib, l9, l10, l11, SD z1, S2, SD z2, S2, SD z3, S2, l18, l19, SI 1, SI 1, SI 1, SA a, SU, SU, SU, SU] [(.int (1 : Int32))])) (fun _ k => XS.iload X187.here hx rfl (hb hby at_194) rfl k) ?_
            refine Goes.by (T' := T187) (g' := (mkF m 199 #[l0, l1, l2, l3, l4, l5, SI ia, SI ib, SI ib, l9, l10, l11, SD z1, S2, SD z2, S2, SD z3, S2, l18, l19, SI 1, SI 1, SI 1, SA a, SU, SU, SU, SU] [])) (fun _ k => XS.ifNo X187.here hx rfl (hb hby at_196) rfl (by decide) k) ?_
            refine Goes.by (T' := T187) (g' := (mkF m 201 #[l0, l1, l2, l3, l4, l5, SI ia, SI ib, SI ib, l9, l10, l11, SD z1, S2, SD z2, S2, SD z3, S2, l18, l19, SI 1, SI 1, SI 1, SA a, SU, SU, SU, SU] [(.ref a)])) (fun _ k => XS.aload X187.here hx rfl (hb hby at_199) rfl rfl k) ?_
            refine Goes.by (T' := T187) (g' := (mkF m 203 #[l0, l1, l2, l3, l4, l5, SI ia, SI ib, SI ib, l9, l10, l11, SD z1, S2, SD z2, S2, SD z3, S2, l18, l19, SI 1, SI 1, SI 1, SA a, SU, SU, SU, SU] [(.int ib), (.ref a)])) (fun _ k => XS.iload X187.here hx rfl (hb hby at_201) rfl k) ?_
            refine Goes.by (T' := T187) (g' := (mkF m 205 #[l0, l1, l2, l3, l4, l5, SI ia, SI ib, SI ib, l9, l10, l11, SD z1, S2, SD z2, S2, SD z3, S2, l18, l19, SI 1, SI 1, SI 1, SA a, SU, SU, SU, SU] [(.double z3), (.int ib), (.ref a)])) (fun _ k => XS.dload X187.here hx rfl (hb hby at_203) rfl k) ?_
            have fv3 : (own_upd (own_upd (fun _ => 0) ka w1.toInt) kb w2.toInt) kb = w2.toInt := by simp [own_upd, nkab, nkab.symm]
            obtain ⟨v188, T188, L188, X188, hQ188, st188⟩ := callV X187 hx hZ (y := (⟨"com/example/gibbon/gibbon/analysis/SparseSum", "add", "(ID)D"⟩ : MethodName)) hown (hw _ (List.mem_of_getElem? (i := 15) rfl)) (hw _ (List.mem_of_getElem? (i := 16) rfl)) (hw _ (List.mem_of_getElem? (i := 18) rfl)) (hw _ (List.mem_of_getElem? (i := 17) rfl)) (hw _ (List.mem_of_getElem? (i := 19) rfl)) (hw _ (List.mem_of_getElem? (i := 2) rfl)) (by decide) e187 EA (argsL := [(.int ib), (.double z3)]) (rest := []) (W := 0) (rm_addN l Z a0 hw a b12 bi (2 : Int32) ib kb z3 w3.toInt (own_upd (own_upd (fun _ => 0) ka w1.toInt) kb w2.toInt) (([] ++ [ka]) ++ [kb]) _ _ T187.heap n0 Z0 EA FS FI FN VS VI hR12 hkb (by omega) D_z3 bw3 (by rw [fv3]; omega) (by simp) ge_a g12 gi na12 n2 nb12 (by rw [h128_12]; omega)) rfl (by decide) (by decide) (by decide) (by decide) (g := (mkF m 205 #[l0, l1, l2, l3, l4, l5, SI ia, SI ib, SI ib, l9, l10, l11, SD z1, S2, SD z2, S2, SD z3, S2, l18, l19, SI 1, SI 1, SI 1, SA a, SU, SU, SU, SU] [(.double z3), (.int ib), (.ref a)])) rfl (by rw [hml]; rfl) (lenOf pd3 rfl) rfl (by show 2 * 0 + _ ≤ _; exact Nat.le_of_eq rfl) (hb hby at_205)
            obtain ⟨rq13, b13, nq13, x13, y13, rfl, -, FS, FI, FN, VS, VI, hR13, hl13, hpr13, g13, na13, nb13, K188, NL188⟩ := hQ188
            have N0 := Fr.app N0 NL188
            have e188 : T188.heap = T188.heap := rfl
            have EA := EA.keep K188
            have Z0 := Nat.le_trans Z0 K188.1
            refine Goes.by (T' := T188) (g' := (mkF m 208 #[l0, l1, l2, l3, l4, l5, SI ia, SI ib, SI ib, l9, l10, l11, SD z1, S2, SD z2, S2, SD z3, S2, l18, l19, SI 1, SI 1, SI 1, SA a, SU, SU, SU, SU] [(.double rq13)])) st188 ?_
            rw [if_neg (by rw [fv3]; omega)] at hR13
            obtain rfl : nq13 = (2 : Int32) := Int32.toInt_inj.mp (by rw [hR13.2.2.2.2.1]; rfl)
            have h128_13 : x13.length = 128 := hpr13.trans h128_12
            refine Goes.by (T' := T188) (g' := (mkF m 209 #[l0, l1, l2, l3, l4, l5, SI ia, SI ib, SI ib, l9, l10, l11, SD z1, S2, SD z2, S2, SD z3, S2, l18, l19, SI 1, SI 1, SI 1, SA a, SU, SU, SU, SU] [])) (fun _ k => XS.pop2W X188.here hx rfl (hb hby at_208) rfl rfl k) ?_
            refine Goes.by (T' := T188) (g' := (mkF m 210 #[l0, l1, l2, l3, l4, l5, SI ia, SI ib, SI ib, l9, l10, l11, SD z1, S2, SD z2, S2, SD z3, S2, l18, l19, SI 1, SI 1, SI 1, SA a, SU, SU, SU, SU] [(.int (3 : Int32))])) (fun _ k => XS.iconst X188.here hx rfl (hb hby at_209)  k) ?_
            obtain ⟨T189, h189, k189, X189, e189, E189, A189, st189⟩ := newP X188 hx hZ (hw _ (List.mem_of_getElem? (i := 9) rfl)) e188 (g := (mkF m 210 #[l0, l1, l2, l3, l4, l5, SI ia, SI ib, SI ib, l9, l10, l11, SD z1, S2, SD z2, S2, SD z3, S2, l18, l19, SI 1, SI 1, SI 1, SA a, SU, SU, SU, SU] [(.int (3 : Int32))])) rfl (hb hby at_210) rfl (by decide) (cap := 3) (by decide) (by decide) (by decide) (by decide)
            obtain ⟨ea, g189⟩ : ∃ z, z = T188.heap.size := ⟨_, rfl⟩
            rw [← g189] at A189 st189
            have ne_a_ea : a ≠ ea := fun q => Nat.lt_irrefl _ (Nat.lt_of_lt_of_eq EA.lt (g189.symm.trans q.symm))
            have ne_b13_ea : b13 ≠ ea := fun q => Nat.lt_irrefl _ (Nat.lt_of_lt_of_eq VS.lt (g189.symm.trans q.symm))
            have ne_bi_ea : bi ≠ ea := fun q => Nat.lt_irrefl _ (Nat.lt_of_lt_of_eq VI.lt (g189.symm.trans q.symm))
            have ge_ea : n0 ≤ ea := Nat.le_trans Z0 (Nat.le_of_eq g189.symm)
            have EA := EA.ext E189
            have FS := FS.ext E189
            have FI := FI.ext E189
            have FN := FN.ext E189
            have VS := VS.ext E189
            have VI := VI.ext E189
            have Z0 := Nat.le_trans Z0 E189.1
            have V_ea : Sar Z h189 ea .double [(.double (0 : UInt64)), (.double (0 : UInt64)), (.double (0 : UInt64))] := Sar.new (n := 3) A189 (by decide)
            refine Goes.by (T' := T189) (g' := (mkF m 212 #[l0, l1, l2, l3, l4, l5, SI ia, SI ib, SI ib, l9, l10, l11, SD z1, S2, SD z2, S2, SD z3, S2, l18, l19, SI 1, SI 1, SI 1, SA a, SU, SU, SU, SU] [(.ref ea)])) st189 ?_
            refine Goes.by (T' := T189) (g' := (mkF m 214 #[l0, l1, l2, l3, l4, l5, SI ia, SI ib, SI ib, l9, l10, l11, SD z1, S2, SD z2, S2, SD z3, S2, l18, l19, SI 1, SI 1, SI 1, SA a, SA ea, SU, SU, SU] [])) (fun _ k => XS.astore X189.here hx rfl (hb hby at_212) rfl rfl (l' := #[l0, l1, l2, l3, l4, l5, SI ia, SI ib, SI ib, l9, l10, l11, SD z1, S2, SD z2, S2, SD z3, S2, l18, l19, SI 1, SI 1, SI 1, SA a, SA ea, SU, SU, SU]) rfl k) ?_
            refine Goes.by (T' := T189) (g' := (mkF m 215 #[l0, l1, l2, l3, l4, l5, SI ia, SI ib, SI ib, l9, l10, l11, SD z1, S2, SD z2, S2, SD z3, S2, l18, l19, SI 1, SI 1, SI 1, SA a, SA ea, SU, SU, SU] [(.int (0 : Int32))])) (fun _ k => XS.iconst X189.here hx rfl (hb hby at_214)  k) ?_
            refine Goes.by (T' := T189) (g' := (mkF m 217 #[l0, l1, l2, l3, l4, l5, SI ia, SI ib, SI ib, l9, l10, l11, SD z1, S2, SD z2, S2, SD z3, S2, l18, l19, SI 1, SI 1, SI 1, SA a, SA ea, SI 0, SU, SU] [])) (fun _ k => XS.istore X189.here hx rfl (hb hby at_215) rfl (l' := #[l0, l1, l2, l3, l4, l5, SI ia, SI ib, SI ib, l9, l10, l11, SD z1, S2, SD z2, S2, SD z3, S2, l18, l19, SI 1, SI 1, SI 1, SA a, SA ea, SI 0, SU, SU]) rfl k) ?_
            refine Goes.by (T' := T189) (g' := (mkF m 219 #[l0, l1, l2, l3, l4, l5, SI ia, SI ib, SI ib, l9, l10, l11, SD z1, S2, SD z2, S2, SD z3, S2, l18, l19, SI 1, SI 1, SI 1, SA a, SA ea, SI 0, SU, SU] [(.int (1 : Int32))])) (fun _ k => XS.iload X189.here hx rfl (hb hby at_217) rfl k) ?_
            refine Goes.by (T' := T189) (g' := (mkF m 222 #[l0, l1, l2, l3, l4, l5, SI ia, SI ib, SI ib, l9, l10, l11, SD z1, S2, SD z2, S2, SD z3, S2, l18, l19, SI 1, SI 1, SI 1, SA a, SA ea, SI 0, SU, SU] [])) (fun _ k => XS.ifNo X189.here hx rfl (hb hby at_219) rfl (by decide) k) ?_
            refine Goes.by (T' := T189) (g' := (mkF m 224 #[l0, l1, l2, l3, l4, l5, SI ia, SI ib, SI ib, l9, l10, l11, SD z1, S2, SD z2, S2, SD z3, S2, l18, l19, SI 1, SI 1, SI 1, SA a, SA ea, SI 0, SU, SU] [(.double z1)])) (fun _ k => XS.dload X189.here hx rfl (hb hby at_222) rfl k) ?_
            refine Goes.by (T' := T189) (g' := (mkF m 226 #[l0, l1, l2, l3, l4, l5, SI ia, SI ib, SI ib, l9, l10, l11, SD z1, S2, SD z2, S2, SD z3, S2, l18, l19, SI 1, SI 1, SI 1, SA a, SA ea, SI 0, SD z1, S2] [])) (fun _ k => XS.dstore X189.here hx rfl (hb hby at_224) rfl (l' := #[l0, l1, l2, l3, l4, l5, SI ia, SI ib, SI ib, l9, l10, l11, SD z1, S2, SD z2, S2, SD z3, S2, l18, l19, SI 1, SI 1, SI 1, SA a, SA ea, SI 0, SD z1, S2]) rfl k) ?_
            refine Goes.by (T' := T189) (g' := (mkF m 228 #[l0, l1, l2, l3, l4, l5, SI ia, SI ib, SI ib, l9, l10, l11, SD z1, S2, SD z2, S2, SD z3, S2, l18, l19, SI 1, SI 1, SI 1, SA a, SA ea, SI 0, SD z1, S2] [(.int (1 : Int32))])) (fun _ k => XS.iload X189.here hx rfl (hb hby at_226) rfl k) ?_
            refine Goes.by (T' := T189) (g' := (mkF m 231 #[l0, l1, l2, l3, l4, l5, SI ia, SI ib, SI ib, l9, l10, l11, SD z1, S2, SD z2, S2, SD z3, S2, l18, l19, SI 1, SI 1, SI 1, SA a, SA ea, SI 0, SD z1, S2] [])) (fun _ k => XS.ifNo X189.here hx rfl (hb hby at_228) rfl (by decide) k) ?_
            refine Goes.by (T' := T189) (g' := (mkF m 233 #[l0, l1, l2, l3, l4, l5, SI ia, SI ib, SI ib, l9, l10, l11, SD z1, S2, SD z2, S2, SD z3, S2, l18, l19, SI 1, SI 1, SI 1, SA a, SA ea, SI 0, SD z1, S2] [(.int ib)])) (fun _ k => XS.iload X189.here hx rfl (hb hby at_231) rfl k) ?_
            refine Goes.by (T' := T189) (g' := (mkF m 235 #[l0, l1, l2, l3, l4, l5, SI ia, SI ib, SI ib, l9, l10, l11, SD z1, S2, SD z2, S2, SD z3, S2, l18, l19, SI 1, SI 1, SI 1, SA a, SA ea, SI 0, SD z1, S2] [(.int ia), (.int ib)])) (fun _ k => XS.iload X189.here hx rfl (hb hby at_233) rfl k) ?_
            refine Goes.by (T' := T189) (g' := (mkF m 245 #[l0, l1, l2, l3, l4, l5, SI ia, SI ib, SI ib, l9, l10, l11, SD z1, S2, SD z2, S2, SD z3, S2, l18, l19, SI 1, SI 1, SI 1, SA a, SA ea, SI 0, SD z1, S2] [])) (fun _ k => XS.icmpYes X189.here hx rfl (pc0 := 235) (pc' := 245) rfl (hb hby at_235) rfl (feq (fun q => hab q.symm)).2 (by decide) (by decide) k) ?_
            refine Goes.by (T' := T189) (g' := (mkF m 247 #[l0, l1, l2, l3, l4, l5, SI ia, SI ib, SI ib, l9, l10, l11, SD z1, S2, SD z2, S2, SD z3, S2, l18, l19, SI 1, SI 1, SI 1, SA a, SA ea, SI 0, SD z1, S2] [(.int (1 : Int32))])) (fun _ k => XS.iload X189.here hx rfl (hb hby at_245) rfl k) ?_
            refine Goes.by (T' := T189) (g' := (mkF m 250 #[l0, l1, l2, l3, l4, l5, SI ia, SI ib, SI ib, l9, l10, l11, SD z1, S2, SD z2, S2, SD z3, S2, l18, l19, SI 1, SI 1, SI 1, SA a, SA ea, SI 0, SD z1, S2] [])) (fun _ k => XS.ifNo X189.here hx rfl (hb hby at_247) rfl (by decide) k) ?_
            refine Goes.by (T' := T189) (g' := (mkF m 252 #[l0, l1, l2, l3, l4, l5, SI ia, SI ib, SI ib, l9, l10, l11, SD z1, S2, SD z2, S2, SD z3, S2, l18, l19, SI 1, SI 1, SI 1, SA a, SA ea, SI 0, SD z1, S2] [(.int ib)])) (fun _ k => XS.iload X189.here hx rfl (hb hby at_250) rfl k) ?_
            refine Goes.by (T' := T189) (g' := (mkF m 254 #[l0, l1, l2, l3, l4, l5, SI ia, SI ib, SI ib, l9, l10, l11, SD z1, S2, SD z2, S2, SD z3, S2, l18, l19, SI 1, SI 1, SI 1, SA a, SA ea, SI 0, SD z1, S2] [(.int ia), (.int ib)])) (fun _ k => XS.iload X189.here hx rfl (hb hby at_252) rfl k) ?_
            refine Goes.by (T' := T189) (g' := (mkF m 264 #[l0, l1, l2, l3, l4, l5, SI ia, SI ib, SI ib, l9, l10, l11, SD z1, S2, SD z2, S2, SD z3, S2, l18, l19, SI 1, SI 1, SI 1, SA a, SA ea, SI 0, SD z1, S2] [])) (fun _ k => XS.icmpYes X189.here hx rfl (pc0 := 254) (pc' := 264) rfl (hb hby at_254) rfl (feq (fun q => hab q.symm)).2 (by decide) (by decide) k) ?_
            refine Goes.by (T' := T189) (g' := (mkF m 266 #[l0, l1, l2, l3, l4, l5, SI ia, SI ib, SI ib, l9, l10, l11, SD z1, S2, SD z2, S2, SD z3, S2, l18, l19, SI 1, SI 1, SI 1, SA a, SA ea, SI 0, SD z1, S2] [(.ref ea)])) (fun _ k => XS.aload X189.here hx rfl (hb hby at_264) rfl rfl k) ?_
            refine Goes.by (T' := T189) (g' := (mkF m 268 #[l0, l1, l2, l3, l4, l5, SI ia, SI ib, SI ib, l9, l10, l11, SD z1, S2, SD z2, S2, SD z3, S2, l18, l19, SI 1, SI 1, SI 1, SA a, SA ea, SI 0, SD z1, S2] [(.int (0 : Int32)), (.ref ea)])) (fun _ k => XS.iload X189.here hx rfl (hb hby at_266) rfl k) ?_
            refine Goes.by (T' := T189) (g' := (mkF m 270 #[l0, l1, l2, l3, l4, l5, SI ia, SI ib, SI ib, l9, l10, l11, SD z1, S2, SD z2, S2, SD z3, S2, l18, l19, SI 1, SI 1, SI 1, SA a, SA ea, SI 0, SD z1, S2] [(.double z1), (.int (0 : Int32)), (.ref ea)])) (fun _ k => XS.dload X189.here hx rfl (hb hby at_268) rfl k) ?_
            obtain ⟨T190, h190, X190, e190, W190, V190, st190⟩ := stDS X189 hx hZ e189 V_ea (j := (0 : Int32)) 0 (by decide) (by show 0 < 3; decide) (g := (mkF m 270 #[l0, l1, l2, l3, l4, l5, SI ia, SI ib, SI ib, l9, l10, l11, SD z1, S2, SD z2, S2, SD z3, S2, l18, l19, SI 1, SI 1, SI 1, SA a, SA ea, SI 0, SD z1, S2] [(.double z1), (.int (0 : Int32)), (.ref ea)])) rfl rfl (hb hby at_270)
            have N0 := Fr.snoc X190 N0 ge_ea
            have EA := EA.wr W190
            have FS := FS.other W190 (Or.inl ne_a_ea)
            have FI := FI.other W190 (Or.inl ne_a_ea)
            have FN := FN.other W190 (Or.inl ne_a_ea)
            have VS := VS.other W190 ne_b13_ea
            have VI := VI.other W190 ne_bi_ea
            have Z0 := Nat.le_trans Z0 (Nat.le_of_eq W190.size.symm)
            have V_ea : Sar Z h190 ea .double [(.double z1), (.double (0 : UInt64)), (.double (0 : UInt64))] := V190
            refine Goes.by (T' := T190) (g' := (mkF m 271 #[l0, l1, l2, l3, l4, l5, SI ia, SI ib, SI ib, l9, l10, l11, SD z1, S2, SD z2, S2, SD z3, S2, l18, l19, SI 1, SI 1, SI 1, SA a, SA ea, SI 0, SD z1, S2] [])) st190 ?_
            refine Goes.by (T' := T190) (g' := (mkF m 273 #[l0, l1, l2, l3, l4, l5, SI ia, SI ib, SI ib, l9, l10, l11, SD z1, S2, SD z2, S2, SD z3, S2, l18, l19, SI 1, SI 1, SI 1, SA a, SA ea, SI 0, SD z1, S2] [(.int (0 : Int32))])) (fun _ k => XS.iload X190.here hx rfl (hb hby at_271) rfl k) ?_
            refine Goes.by (T' := T190) (g' := (mkF m 274 #[l0, l1, l2, l3, l4, l5, SI ia, SI ib, SI ib, l9, l10, l11, SD z1, S2, SD z2, S2, SD z3, S2, l18, l19, SI 1, SI 1, SI 1, SA a, SA ea, SI 0, SD z1, S2] [(.int (1 : Int32)), (.int (0 : Int32))])) (fun _ k => XS.iconst X190.here hx rfl (hb hby at_273)  k) ?_
            refine Goes.by (T' := T190) (g' := (mkF m 275 #[l0, l1, l2, l3, l4, l5, SI ia, SI ib, SI ib, l9, l10, l11, SD z1, S2, SD z2, S2, SD z3, S2, l18, l19, SI 1, SI 1, SI 1, SA a, SA ea, SI 0, SD z1, S2] [(.int (1 : Int32))])) (fun _ k => XS.iadd X190.here hx rfl (hb hby at_274) rfl k) ?_
            refine Goes.by (T' := T190) (g' := (mkF m 277 #[l0, l1, l2, l3, l4, l5, SI ia, SI ib, SI ib, l9, l10, l11, SD z1, S2, SD z2, S2, SD z3, S2, l18, l19, SI 1, SI 1, SI 1, SA a, SA ea, SI 1, SD z1, S2] [])) (fun _ k => XS.istore X190.here hx rfl (hb hby at_275) rfl (l' := #[l0, l1, l2, l3, l4, l5, SI ia, SI ib, SI ib, l9, l10, l11, SD z1, S2, SD z2, S2, SD z3, S2, l18, l19, SI 1, SI 1, SI 1, SA a, SA ea, SI 1, SD z1, S2]) rfl k) ?_
            refine Goes.by (T' := T190) (g' := (mkF m 279 #[l0, l1, l2, l3, l4, l5, SI ia, SI ib, SI ib, l9, l10, l11, SD z1, S2, SD z2, S2, SD z3, S2, l18, l19, SI 1, SI 1, SI 1, SA a, SA ea, SI 1, SD z1, S2] [(.int (1 : Int32))])) (fun _ k => XS.iload X190.here hx rfl (hb hby at_277) rfl k) ?_
            refine Goes.by (T' := T190) (g' := (mkF m 282 #[l0, l1, l2, l3, l4, l5, SI ia, SI ib, SI ib, l9, l10, l11, SD z1, S2, SD z2, S2, SD z3, S2, l18, l19, SI 1, SI 1, SI 1, SA a, SA ea, SI 1, SD z1, S2] [])) (fun _ k => XS.ifNo X190.here hx rfl (hb hby at_279) rfl (by decide) k) ?_
            refine Goes.by (T' := T190) (g' := (mkF m 284 #[l0, l1, l2, l3, l4, l5, SI ia, SI ib, SI ib, l9, l10, l11, SD z1, S2, SD z2, S2, SD z3, S2, l18, l19, SI 1, SI 1, SI 1, SA a, SA ea, SI 1, SD z1, S2] [(.int ib)])) (fun _ k => XS.iload X190.here hx rfl (hb hby at_282) rfl k) ?_
            refine Goes.by (T' := T190) (g' := (mkF m 286 #[l0, l1, l2, l3, l4, l5, SI ia, SI ib, SI ib, l9, l10, l11, SD z1, S2, SD z2, S2, SD z3, S2, l18, l19, SI 1, SI 1, SI 1, SA a, SA ea, SI 1, SD z1, S2] [(.int ia), (.int ib)])) (fun _ k => XS.iload X190.here hx rfl (hb hby at_284) rfl k) ?_
            refine Goes.by (T' := T190) (g' := (mkF m 289 #[l0, l1, l2, l3, l4, l5, SI ia, SI ib, SI ib, l9, l10, l11, SD z1, S2, SD z2, S2, SD z3, S2, l18, l19, SI 1, SI 1, SI 1, SA a, SA ea, SI 1, SD z1, S2] [])) (fun _ k => XS.icmpNo X190.here hx rfl (hb hby at_286) rfl (feq (fun q => hab q.symm)).1 k) ?_
            refine Goes.by (T' := T190) (g' := (mkF m 291 #[l0, l1, l2, l3, l4, l5, SI ia, SI ib, SI ib, l9, l10, l11, SD z1, S2, SD z2, S2, SD z3, S2, l18, l19, SI 1, SI 1, SI 1, SA a, SA ea, SI 1, SD z1, S2] [(.double z2)])) (fun _ k => XS.dload X190.here hx rfl (hb hby at_289) rfl k) ?_
            refine Goes.by (T' := T190) (g' := (mkF m 293 #[l0, l1, l2, l3, l4, l5, SI ia, SI ib, SI ib, l9, l10, l11, SD z1, S2, SD z2, S2, SD z3, S2, l18, l19, SI 1, SI 1, SI 1, SA a, SA ea, SI 1, SD z2, S2] [])) (fun _ k => XS.dstore X190.here hx rfl (hb hby at_291) rfl (l' := #[l0, l1, l2, l3, l4, l5, SI ia, SI ib, SI ib, l9, l10, l11, SD z1, S2, SD z2, S2, SD z3, S2, l18, l19, SI 1, SI 1, SI 1, SA a, SA ea, SI 1, SD z2, S2]) rfl k) ?_
            refine Goes.by (T' := T190) (g' := (mkF m 295 #[l0, l1, l2, l3, l4, l5, SI ia, SI ib, SI ib, l9, l10, l11, SD z1, S2, SD z2, S2, SD z3, S2, l18, l19, SI 1, SI 1, SI 1, SA a, SA ea, SI 1, SD z2, S2] [(.int (1 : Int32))])) (fun _ k => XS.iload X190.here hx rfl (hb hby at_293) rfl k) ?_
            refine Goes.by (T' := T190) (g' := (mkF m 298 #[l0, l1, l2, l3, l4, l5, SI ia, SI ib, SI ib, l9, l10, l11, SD z1, S2, SD z2, S2, SD z3, S2, l18, l19, SI 1, SI 1, SI 1, SA a, SA ea, SI 1, SD z2, S2] [])) (fun _ k => XS.ifNo X190.here hx rfl (hb hby at_295) rfl (by decide) k) ?_
            refine Goes.by (T' := T190) (g' := (mkF m 300 #[l0, l1, l2, l3, l4, l5, SI ia, SI ib, SI ib, l9, l10, l11, SD z1, S2, SD z2, S2, SD z3, S2, l18, l19, SI 1, SI 1, SI 1, SA a, SA ea, SI 1, SD z2, S2] [(.int ib)])) (fun _ k => XS.iload X190.here hx rfl (hb hby at_298) rfl k) ?_
            refine Goes.by (T' := T190) (g' := (mkF m 302 #[l0, l1, l2, l3, l4, l5, SI ia, SI ib, SI ib, l9, l10, l11, SD z1, S2, SD z2, S2, SD z3, S2, l18, l19, SI 1, SI 1, SI 1, SA a, SA ea, SI 1, SD z2, S2] [(.int ib), (.int ib)])) (fun _ k => XS.iload X190.here hx rfl (hb hby at_300) rfl k) ?_
            refine Goes.by (T' := T190) (g' := (mkF m 305 #[l0, l1, l2, l3, l4, l5, SI ia, SI ib, SI ib, l9, l10, l11, SD z1, S2, SD z2, S2, SD z3, S2, l18, l19, SI 1, SI 1, SI 1, SA a, SA ea, SI 1, SD z2, S2] [])) (fun _ k => XS.icmpNo X190.here hx rfl (hb hby at_302) rfl (teq rfl).2 k) ?_
            refine Goes.by (T' := T190) (g' := (mkF m 307 #[l0, l1, l2, l3, l4, l5, SI ia, SI ib, SI ib, l9, l10, l11, SD z1, S2, SD z2, S2, SD z3, S2, l18, l19, SI 1, SI 1, SI 1, SA a, SA ea, SI 1, SD z2, S2] [(.double z2)])) (fun _ k => XS.dload X190.here hx rfl (hb hby at_305) rfl k) ?_
            refine Goes.by (T' := T190) (g' := (mkF m 309 #[l0, l1, l2, l3, l4, l5, SI ia, SI ib, SI ib, l9, l10, l11, SD z1, S2, SD z2, S2, SD z3, S2, l18, l19, SI 1, SI 1, SI 1, SA a, SA ea, SI 1, SD z2, S2] [(.double z3), (.double z2)])) (fun _ k => XS.dload X190.here hx rfl (hb hby at_307) rfl k) ?_
            obtain ⟨t1, q_t1⟩ : ∃ zz, FP.dadd z2 z3 = zz := ⟨_, rfl⟩
            have D_t1 : Core.DInt (w2.toInt + w3.toInt) t1 := DInt_add q_t1 D_z2 D_z3 (by omega)
            refine Goes.by (T' := T190) (g' := (mkF m 310 #[l0, l1, l2, l3, l4, l5, SI ia, SI ib, SI ib, l9, l10, l11, SD z1, S2, SD z2, S2, SD z3, S2, l18, l19, SI 1, SI 1, SI 1, SA a, SA ea, SI 1, SD z2, S2] [(.double t1)])) (fun _ k => XS.daddS X190.here hx rfl (hb hby at_309) rfl (by rw [q_t1]; exact DInt_nn D_t1) q_t1 k) ?_
            refine Goes.by (T' := T190) (g' := (mkF m 312 #[l0, l1, l2, l3, l4, l5, SI ia, SI ib, SI ib, l9, l10, l11, SD z1, S2, SD z2, S2, SD z3, S2, l18, l19, SI 1, SI 1, SI 1, SA a, SA ea, SI 1, SD t1, S2] [])) (fun _ k => XS.dstore X190.here hx rfl (hb hby at_310) rfl (l' := #[l0, l1, l2, l3, l4, l5, SI ia, SI ib, SI ib, l9, l10, l11, SD z1, S2, SD z2, S2, SD z3, S2, l18, l19, SI 1, SI 1, SI 1, SA a, SA ea, SI 1, SD t1, S2]) rfl k) ?_
            refine Goes.by (T' := T190) (g' := (mkF m 314 #[l0, l1, l2, l3, l4, l5, SI ia, SI ib, SI ib, l9, l10, l11, SD z1, S2, SD z2, S2, SD z3, S2, l18, l19, SI 1, SI 1, SI 1, SA a, SA ea, SI 1, SD t1, S2] [(.ref ea)])) (fun _ k => XS.aload X190.here hx rfl (hb hby at_312) rfl rfl k) ?_
            refine Goes.by (T' := T190) (g' := (mkF m 316 #[l0, l1, l2, l3, l4, l5, SI ia, SI ib, SI ib, l9, l10, l11, SD z1, S2, SD z2, S2, SD z3, S2, l18, l19, SI 1, SI 1, SI 1, SA a, SA ea, SI 1, SD t1, S2] [(.int (1 : Int32)), (.ref ea)])) (fun _ k => XS.iload X190.here hx rfl (hb hby at_314) rfl k) ?_
            refine Goes.by (T' := T190) (g' := (mkF m 318 #[l0, l1, l2, l3, l4, l5, SI ia, SI ib, SI ib, l9, l10, l11, SD z1, S2, SD z2, S2, SD z3, S2, l18, l19, SI 1, SI 1, SI 1, SA a, SA ea, SI 1, SD t1, S2] [(.double t1), (.int (1 : Int32)), (.ref ea)])) (fun _ k => XS.dload X190.here hx rfl (hb hby at_316) rfl k) ?_
            obtain ⟨T191, h191, X191, e191, W191, V191, st191⟩ := stDS X190 hx hZ e190 V_ea (j := (1 : Int32)) 1 (by decide) (by show 1 < 3; decide) (g := (mkF m 318 #[l0, l1, l2, l3, l4, l5, SI ia, SI ib, SI ib, l9, l10, l11, SD z1, S2, SD z2, S2, SD z3, S2, l18, l19, SI 1, SI 1, SI 1, SA a, SA ea, SI 1, SD t1, S2] [(.double t1), (.int (1 : Int32)), (.ref ea)])) rfl rfl (hb hby at_318)
            have N0 := Fr.snoc X191 N0 ge_ea
            have EA := EA.wr W191
            have FS := FS.other W191 (Or.inl ne_a_ea)
            have FI := FI.other W191 (Or.inl ne_a_ea)
            have FN := FN.other W191 (Or.inl ne_a_ea)
            have VS := VS.other W191 ne_b13_ea
            have VI := VI.other W191 ne_bi_ea
            have Z0 := Nat.le_trans Z0 (Nat.le_of_eq W191.size.symm)
            have V_ea : Sar Z h191 ea .double [(.double z1), (.double t1), (.double (0 : UInt64))] := V191
            refine Goes.by (T' := T191) (g' := (mkF m 319 #[l0, l1, l2, l3, l4, l5, SI ia, SI ib, SI ib, l9, l10, l11, SD z1, S2, SD z2, S2, SD z3, S2, l18, l19, SI 1, SI 1, SI 1, SA a, SA ea, SI 1, SD t1, S2] [])) st191 ?_
            refine Goes.by (T' := T191) (g' := (mkF m 321 #[l0, l1, l2, l3, l4, l5, SI ia, SI ib, SI ib, l9, l10, l11, SD z1, S2, SD z2, S2, SD z3, S2, l18, l19, SI 1, SI 1, SI 1, SA a, SA ea, SI 1, SD t1, S2] [(.int (1 : Int32))])) (fun _ k => XS.iload X191.here hx rfl (hb hby at_319) rfl k) ?_
            refine Goes.by (T' := T191) (g' := (mkF m 322 #[l0, l1, l2, l3, l4, l5, SI ia, SI ib, SI ib, l9, l10, l11, SD z1, S2, SD z2, S2, SD z3, S2, l18, l19, SI 1, SI 1, SI 1, SA a, SA ea, SI 1, SD t1, S2] [(.int (1 : Int32)), (.int (1 : Int32))])) (fun _ k => XS.iconst X191.here hx rfl (hb hby at_321)  k) ?_
            refine Goes.by (T' := T191) (g' := (mkF m 323 #[l0, l1, l2, l3, l4, l5, SI ia, SI ib, SI ib, l9, l10, l11, SD z1, S2, SD z2, S2, SD z3, S2, l18, l19, SI 1, SI 1, SI 1, SA a, SA ea, SI 1, SD t1, S2] [(.int (2 : Int32))])) (fun _ k => XS.iadd X191.here hx rfl (hb hby at_322) rfl k) ?_
            refine Goes.by (T' := T191) (g' := (mkF m 325 #[l0, l1, l2, l3, l4, l5, SI ia, SI ib, SI ib, l9, l10, l11, SD z1, S2, SD z2, S2, SD z3, S2, l18, l19, SI 1, SI 1, SI 1, SA a, SA ea, SI 2, SD t1, S2] [])) (fun _ k => XS.istore X191.here hx rfl (hb hby at_323) rfl (l' := #[l0, l1, l2, l3, l4, l5, SI ia, SI ib, SI ib, l9, l10, l11, SD z1, S2, SD z2, S2, SD z3, S2, l18, l19, SI 1, SI 1, SI 1, SA a, SA ea, SI 2, SD t1, S2]) rfl k) ?_
            refine Goes.by (T' := T191) (g' := (mkF m 327 #[l0, l1, l2, l3, l4, l5, SI ia, SI ib, SI ib, l9, l10, l11, SD z1, S2, SD z2, S2, SD z3, S2, l18, l19, SI 1, SI 1, SI 1, SA a, SA ea, SI 2, SD t1, S2] [(.int (1 : Int32))])) (fun _ k => XS.iload X191.here hx rfl (hb hby at_325) rfl k) ?_
            refine Goes.by (T' := T191) (g' := (mkF m 330 #[l0, l1, l2, l3, l4, l5, SI ia, SI ib, SI ib, l9, l10, l11, SD z1, S2, SD z2, S2, SD z3, S2, l18, l19, SI 1, SI 1, SI 1, SA a, SA ea, SI 2, SD t1, S2] [])) (fun _ k => XS.ifNo X191.here hx rfl (hb hby at_327) rfl (by decide) k) ?_
            refine Goes.by (T' := T191) (g' := (mkF m 332 #[l0, l1, l2, l3, l4, l5, SI ia, SI ib, SI ib, l9, l10, l11, SD z1, S2, SD z2, S2, SD z3, S2, l18, l19, SI 1, SI 1, SI 1, SA a, SA ea, SI 2, SD t1, S2] [(.int ib)])) (fun _ k => XS.iload X191.here hx rfl (hb hby at_330) rfl k) ?_
            refine Goes.by (T' := T191) (g' := (mkF m 334 #[l0, l1, l2, l3, l4, l5, SI ia, SI ib, SI ib, l9, l10, l11, SD z1, S2, SD z2, S2, SD z3, S2, l18, l19, SI 1, SI 1, SI 1, SA a, SA ea, SI 2, SD t1, S2] [(.int ia), (.int ib)])) (fun _ k => XS.iload X191.here hx rfl (hb hby at_332) rfl k) ?_
            refine Goes.by (T' := T191) (g' := (mkF m 337 #[l0, l1, l2, l3, l4, l5, SI ia, SI ib, SI ib, l9, l10, l11, SD z1, S2, SD z2, S2, SD z3, S2, l18, l19, SI 1, SI 1, SI 1, SA a, SA ea, SI 2, SD t1, S2] [])) (fun _ k => XS.icmpNo X191.here hx rfl (hb hby at_334) rfl (feq (fun q => hab q.symm)).1 k) ?_
            refine Goes.by (T' := T191) (g' := (mkF m 339 #[l0, l1, l2, l3, l4, l5, SI ia, SI ib, SI ib, l9, l10, l11, SD z1, S2, SD z2, S2, SD z3, S2, l18, l19, SI 1, SI 1, SI 1, SA a, SA ea, SI 2, SD t1, S2] [(.int ib)])) (fun _ k => XS.iload X191.here hx rfl (hb hby at_337) rfl k) ?_
            refine Goes.by (T' := T191) (g' := (mkF m 341 #[l0, l1, l2, l3, l4, l5, SI ia, SI ib, SI ib, l9, l10, l11, SD z1, S2, SD z2, S2, SD z3, S2, l18, l19, SI 1, SI 1, SI 1, SA a, SA ea, SI 2, SD t1, S2] [(.int ib), (.int ib)])) (fun _ k => XS.iload X191.here hx rfl (hb hby at_339) rfl k) ?_
            refine Goes.by (T' := T191) (g' := (mkF m 357 #[l0, l1, l2, l3, l4, l5, SI ia, SI ib, SI ib, l9, l10, l11, SD z1, S2, SD z2, S2, SD z3, S2, l18, l19, SI 1, SI 1, SI 1, SA a, SA ea, SI 2, SD t1, S2] [])) (fun _ k => XS.icmpYes X191.here hx rfl (pc0 := 341) (pc' := 357) rfl (hb hby at_341) rfl (teq rfl).1 (by decide) (by decide) k) ?_
            refine Goes.by (T' := T191) (g' := (mkF m 359 #[l0, l1, l2, l3, l4, l5, SI ia, SI ib, SI ib, l9, l10, l11, SD z1, S2, SD z2, S2, SD z3, S2, l18, l19, SI 1, SI 1, SI 1, SA a, SA ea, SI 2, SD t1, S2] [(.ref a)])) (fun _ k => XS.aload X191.here hx rfl (hb hby at_357) rfl rfl k) ?_
            obtain ⟨hq0, v0, hy0, hv0⟩ := hR13.2.2.2.2.2.2 0 ka (by simp)
            obtain ⟨d0, hx0, Dd0⟩ := hR13.2.1 ka hq0
            have fe0 : (own_upd (own_upd (own_upd (fun _ => 0) ka w1.toInt) kb w2.toInt) kb w3.toInt) ka = w1.toInt := by simp [own_upd, nkab, nkab.symm]
            rw [fe0] at Dd0
            obtain ⟨hq1, v1, hy1, hv1⟩ := hR13.2.2.2.2.2.2 1 kb (by simp)
            obtain ⟨d1, hx1, Dd1⟩ := hR13.2.1 kb hq1
            have fe1 : (own_upd (own_upd (own_upd (fun _ => 0) ka w1.toInt) kb w2.toInt) kb w3.toInt) kb = w2.toInt + w3.toInt := by simp [own_upd, nkab, nkab.symm]
            rw [fe1] at Dd1
            exact cmp2 a b13 bi ea _ _ _ _ _ v0 ka d0 w1.toInt v1 kb d1 (w2.toInt + w3.toInt) _ _ _ _ _ _ _ _ _ _ _ _ _ _ _ _ _ _ _ _ _ _ _ _ _ _ _ (X191.wide (fun x hx _ => hx) (by decide) (by decide)) e191 N0 Z0 EA FS FI FN VS VI V_ea ge_a g13 gi ge_ea na13 nb13 n2 ne_a_ea ne_b13_ea ne_bi_ea hy0 hv0 hx0 Dd0 D_z1 hy1 hv1 hx1 Dd1 D_t1
          · have nkbc : kb ≠ kc := fun q => hbc (Int32.toInt_inj.mp (by rw [hkb, hkc, q]))
            refine Goes.by (T' := Tj168) (g' := (mkF m 166 #[l0, l1, l2, l3, l4, l5, SI ia, SI ib, SI ic, l9, l10, l11, SD z1, S2, SD z2, S2, SD z3, S2, l18, l19, SI 1, SI 1, SI 1, SA a, SU, SU, SU, SU] [(.int (1 : Int32))])) (fun _ k => XS.iload Xj168.here hx rfl (hb hby at_164) rfl k) ?_
            refine Goes.by (T' := Tj168) (g' := (mkF m 169 #[l0, l1, l2, l3, l4, l5, SI ia, SI ib, SI ic, l9, l10, l11, SD z1, S2, SD z2, S2, SD z3, S2, l18, l19, SI 1, SI 1, SI 1, SA a, SU, SU, SU, SU] [])) (fun _ k => XS.ifNo Xj168.here hx rfl (hb hby at_166) rfl (by decide) k) ?_
            refine Goes.by (T' := Tj168) (g' := (mkF m 171 #[l0, l1, l2, l3, l4, l5, SI ia, SI ib, SI ic, l9, l10, l11, SD z1, S2, SD z2, S2, SD z3, S2, l18, l19, SI 1, SI 1, SI 1, SA a, SU, SU, SU, SU] [(.ref a)])) (fun _ k => XS.aload Xj168.here hx rfl (hb hby at_169) rfl rfl k) ?_
            refine Goes.by (T' := Tj168) (g' := (mkF m 173 #[l0, l1, l2, l3, l4, l5, SI ia, SI ib, SI ic, l9, l10, l11, SD z1, S2, SD z2, S2, SD z3, S2, l18, l19, SI 1, SI 1, SI 1, SA a, SU, SU, SU, SU] [(.int ia), (.ref a)])) (fun _ k => XS.iload Xj168.here hx rfl (hb hby at_171) rfl k) ?_
            refine Goes.by (T' := Tj168) (g' := (mkF m 175 #[l0, l1, l2, l3, l4, l5, SI ia, SI ib, SI ic, l9, l10, l11, SD z1, S2, SD z2, S2, SD z3, S2, l18, l19, SI 1, SI 1, SI 1, SA a, SU, SU, SU, SU] [(.double z1), (.int ia), (.ref a)])) (fun _ k => XS.dload Xj168.here hx rfl (hb hby at_173) rfl k) ?_
            obtain ⟨v192, T192, L192, X192, hQ192, st192⟩ := callV Xj168 hx hZ (y := (⟨"com/example/gibbon/gibbon/analysis/SparseSum", "add", "(ID)D"⟩ : MethodName)) hown (hw _ (List.mem_of_getElem? (i := 15) rfl)) (hw _ (List.mem_of_getElem? (i := 16) rfl)) (hw _ (List.mem_of_getElem? (i := 18) rfl)) (hw _ (List.mem_of_getElem? (i := 17) rfl)) (hw _ (List.mem_of_getElem? (i := 19) rfl)) (hw _ (List.mem_of_getElem? (i := 2) rfl)) (by decide) ej168 EA (argsL := [(.int ia), (.double z1)]) (rest := []) (W := 0) (rm_addN l Z a0 hw a br bi (0 : Int32) ia ka z1 w1.toInt (fun _ => 0) [] _ _ hj168 n0 Z0 EA FS FI FN VS VI hR hka (by omega) D_z1 bw1 (by decide) (by simp) ge_a gr gi n4 n2 n5 (by rw [h128]; omega)) rfl (by decide) (by decide) (by decide) (by decide) (g := (mkF m 175 #[l0, l1, l2, l3, l4, l5, SI ia, SI ib, SI ic, l9, l10, l11, SD z1, S2, SD z2, S2, SD z3, S2, l18, l19, SI 1, SI 1, SI 1, SA a, SU, SU, SU, SU] [(.double z1), (.int ia), (.ref a)])) rfl (by rw [hml]; rfl) (lenOf pd3 rfl) rfl (by show 2 * 0 + _ ≤ _; exact Nat.le_of_eq rfl) (hb hby at_175)
            obtain ⟨rq11, b11, nq11, x11, y11, rfl, -, FS, FI, FN, VS, VI, hR11, hl11, hpr11, g11, na11, nb11, K192, NL192⟩ := hQ192
            have N0 := Fr.app N0 NL192
            have e192 : T192.heap = T192.heap := rfl
            have EA := EA.keep K192
            have Z0 := Nat.le_trans Z0 K192.1
            refine Goes.by (T' := T192) (g' := (mkF m 178 #[l0, l1, l2, l3, l4, l5, SI ia, SI ib, SI ic, l9, l10, l11, SD z1, S2, SD z2, S2, SD z3, S2, l18, l19, SI 1, SI 1, SI 1, SA a, SU, SU, SU, SU] [(.double rq11)])) st192 ?_
            rw [if_pos rfl] at hR11
            obtain rfl : nq11 = (1 : Int32) := Int32.toInt_inj.mp (by rw [hR11.2.2.2.2.1]; rfl)
            have h128_11 : x11.length = 128 := hpr11.trans h128
            refine Goes.by (T' := T192) (g' := (mkF m 179 #[l0, l1, l2, l3, l4, l5, SI ia, SI ib, SI ic, l9, l10, l11, SD z1, S2, SD z2, S2, SD z3, S2, l18, l19, SI 1, SI 1, SI 1, SA a, SU, SU, SU, SU] [])) (fun _ k => XS.pop2W X192.here hx rfl (hb hby at_178) rfl rfl k) ?_
            refine Goes.by (T' := T192) (g' := (mkF m 181 #[l0, l1, l2, l3, l4, l5, SI ia, SI ib, SI ic, l9, l10, l11, SD z1, S2, SD z2, S2, SD z3, S2, l18, l19, SI 1, SI 1, SI 1, SA a, SU, SU, SU, SU] [(.int (1 : Int32))])) (fun _ k => XS.iload X192.here hx rfl (hb hby at_179) rfl k) ?_
            refine Goes.by (T' := T192) (g' := (mkF m 184 #[l0, l1, l2, l3, l4, l5, SI ia, SI ib, SI ic, l9, l10, l11, SD z1, S2, SD z2, S2, SD z3, S2, l18, l19, SI 1, SI 1, SI 1, SA a, SU, SU, SU, SU] [])) (fun _ k => XS.ifNo X192.here hx rfl (hb hby at_181) rfl (by decide) k) ?_
            refine Goes.by (T' := T192) (g' := (mkF m 186 #[l0, l1, l2, l3, l4, l5, SI ia, SI ib, SI ic, l9, l10, l11, SD z1, S2, SD z2, S2, SD z3, S2, l18, l19, SI 1, SI 1, SI 1, SA a, SU, SU, SU, SU] [(.ref a)])) (fun _ k => XS.aload X192.here hx rfl (hb hby at_184) rfl rfl k) ?_
            refine Goes.by (T' := T192) (g' := (mkF m 188 #[l0, l1, l2, l3, l4, l5, SI ia, SI ib, SI ic, l9, l10, l11, SD z1, S2, SD z2, S2, SD z3, S2, l18, l19, SI 1, SI 1, SI 1, SA a, SU, SU, SU, SU] [(.int ib), (.ref a)])) (fun _ k => XS.iload X192.here hx rfl (hb hby at_186) rfl k) ?_
            refine Goes.by (T' := T192) (g' := (mkF m 190 #[l0, l1, l2, l3, l4, l5, SI ia, SI ib, SI ic, l9, l10, l11, SD z1, S2, SD z2, S2, SD z3, S2, l18, l19, SI 1, SI 1, SI 1, SA a, SU, SU, SU, SU] [(.double z2), (.int ib), (.ref a)])) (fun _ k => XS.dload X192.here hx rfl (hb hby at_188) rfl k) ?_
            have fv2 : (own_upd (fun _ => 0) ka w1.toInt) kb = 0 := by simp [own_upd, nkab, nkab.symm, nkac, nkac.symm, nkbc, nkbc.symm]
            obtain ⟨v193, T193, L193, X193, hQ193, st193⟩ := callV X192 hx hZ (y := (⟨"com/example/gibbon/gibbon/analysis/SparseSum", "add", "(ID)D"⟩ : MethodName)) hown (hw _ (List.mem_of_getElem? (i := 15) rfl)) (hw _ (List.mem_of_getElem? (i := 16) rfl)) (hw _ (List.mem_of_getElem? (i := 18) rfl)) (hw _ (List.mem_of_getElem? (i := 17) rfl)) (hw _ (List.mem_of_getElem? (i := 19) rfl)) (hw _ (List.mem_of_getElem? (i := 2) rfl)) (by decide) e192 EA (argsL := [(.int ib), (.double z2)]) (rest := []) (W := 0) (rm_addN l Z a0 hw a b11 bi (1 : Int32) ib kb z2 w2.toInt (own_upd (fun _ => 0) ka w1.toInt) ([] ++ [ka]) _ _ T192.heap n0 Z0 EA FS FI FN VS VI hR11 hkb (by omega) D_z2 bw2 (by rw [fv2]; omega) (by simp) ge_a g11 gi na11 n2 nb11 (by rw [h128_11]; omega)) rfl (by decide) (by decide) (by decide) (by decide) (g := (mkF m 190 #[l0, l1, l2, l3, l4, l5, SI ia, SI ib, SI ic, l9, l10, l11, SD z1, S2, SD z2, S2, SD z3, S2, l18, l19, SI 1, SI 1, SI 1, SA a, SU, SU, SU, SU] [(.double z2), (.int ib), (.ref a)])) rfl (by rw [hml]; rfl) (lenOf pd3 rfl) rfl (by show 2 * 0 + _ ≤ _; exact Nat.le_of_eq rfl) (hb hby at_190)
            obtain ⟨rq12, b12, nq12, x12, y12, rfl, -, FS, FI, FN, VS, VI, hR12, hl12, hpr12, g12, na12, nb12, K193, NL193⟩ := hQ193
            have N0 := Fr.app N0 NL193
            have e193 : T193.heap = T193.heap := rfl
            have EA := EA.keep K193
            have Z0 := Nat.le_trans Z0 K193.1
            refine Goes.by (T' := T193) (g' := (mkF m 193 #[l0, l1, l2, l3, l4, l5, SI ia, SI ib, SI ic, l9, l10, l11, SD z1, S2, SD z2, S2, SD z3, S2, l18, l19, SI 1, SI 1, SI 1, SA a, SU, SU, SU, SU] [(.double rq12)])) st193 ?_
            rw [if_pos fv2] at hR12
            obtain rfl : nq12 = (2 : Int32) := Int32.toInt_inj.mp (by rw [hR12.2.2.2.2.1]; rfl)
            have h128_12 : x12.length = 128 := hpr12.trans h128_11
            refine Goes.by (T' := T193) (g' := (mkF m 194 #[l0, l1, l2, l3, l4, l5, SI ia, SI ib, SI ic, l9, l10, l11, SD z1, S2, SD z2, S2, SD z3, S2, l18, l19, SI 1, SI 1, SI 1, SA a, SU, SU, SU, SU] [])) (fun _ k => XS.pop2W X193.here hx rfl (hb hby at_193) rfl rfl k) ?_
            refine Goes.by (T' := T193) (g' := (mkF m 196 #[l0, l1, l2, l3, l4, l5, SI ia, SI ib, SI ic, l9, l10, l11, SD z1, S2, SD z2, S2, SD z3, S2, l18, l19, SI 1, SI 1, SI 1, SA a, SU, SU, SU, SU] [(.int (1 : Int32))])) (fun _ k => XS.iload X193.here hx rfl (hb hby at_194) rfl k) ?_
            refine Goes.by (T' := T193) (g' := (mkF m 199 #[l0, l1, l2, l3, l4, l5, SI ia, SI ib, SI ic, l9, l10, l11, SD z1, S2, SD z2, S2, SD z3, S2, l18, l19, SI 1, SI 1, SI 1, SA a, SU, SU, SU, SU] [])) (fun _ k => XS.ifNo X193.here hx rfl (hb hby at_196) rfl (by decide) k) ?_
            refine Goes.by (T' := T193) (g' := (mkF m 201 #[l0, l1, l2, l3, l4, l5, SI ia, SI ib, SI ic, l9, l10, l11, SD z1, S2, SD z2, S2, SD z3, S2, l18, l19, SI 1, SI 1, SI 1, SA a, SU, SU, SU, SU] [(.ref a)])) (fun _ k => XS.aload X193.here hx rfl (hb hby at_199) rfl rfl k) ?_
            refine Goes.by (T' := T193) (g' := (mkF m 203 #[l0, l1, l2, l3, l4, l5, SI ia, SI ib, SI ic, l9, l10, l11, SD z1, S2, SD z2, S2, SD z3, S2, l18, l19, SI 1, SI 1, SI 1, SA a, SU, SU, SU, SU] [(.int ic), (.ref a)])) (fun _ k => XS.iload X193.here hx rfl (hb hby at_201) rfl k) ?_
            refine Goes.by (T' := T193) (g' := (mkF m 205 #[l0, l1, l2, l3, l4, l5, SI ia, SI ib, SI ic, l9, l10, l11, SD z1, S2, SD z2, S2, SD z3, S2, l18, l19, SI 1, SI 1, SI 1, SA a, SU, SU, SU, SU] [(.double z3), (.int ic), (.ref a)])) (fun _ k => XS.dload X193.here hx rfl (hb hby at_203) rfl k) ?_
            have fv3 : (own_upd (own_upd (fun _ => 0) ka w1.toInt) kb w2.toInt) kc = 0 := by simp [own_upd, nkab, nkab.symm, nkac, nkac.symm, nkbc, nkbc.symm]
            obtain ⟨v194, T194, L194, X194, hQ194, st194⟩ := callV X193 hx hZ (y := (⟨"com/example/gibbon/gibbon/analysis/SparseSum", "add", "(ID)D"⟩ : MethodName)) hown (hw _ (List.mem_of_getElem? (i := 15) rfl)) (hw _ (List.mem_of_getElem? (i := 16) rfl)) (hw _ (List.mem_of_getElem? (i := 18) rfl)) (hw _ (List.mem_of_getElem? (i := 17) rfl)) (hw _ (List.mem_of_getElem? (i := 19) rfl)) (hw _ (List.mem_of_getElem? (i := 2) rfl)) (by decide) e193 EA (argsL := [(.int ic), (.double z3)]) (rest := []) (W := 0) (rm_addN l Z a0 hw a b12 bi (2 : Int32) ic kc z3 w3.toInt (own_upd (own_upd (fun _ => 0) ka w1.toInt) kb w2.toInt) (([] ++ [ka]) ++ [kb]) _ _ T193.heap n0 Z0 EA FS FI FN VS VI hR12 hkc (by omega) D_z3 bw3 (by rw [fv3]; omega) (by simp) ge_a g12 gi na12 n2 nb12 (by rw [h128_12]; omega)) rfl (by decide) (by decide) (by decide) (by decide) (g := (mkF m 205 #[l0, l1, l2, l3, l4, l5, SI ia, SI ib, SI ic, l9, l10, l11, SD z1, S2, SD z2, S2, SD z3, S2, l18, l19, SI 1, SI 1, SI 1, SA a, SU, SU, SU, SU] [(.double z3), (.int ic), (.ref a)])) rfl (by rw [hml]; rfl) (lenOf pd3 rfl) rfl (by show 2 * 0 + _ ≤ _; exact Nat.le_of_eq rfl) (hb hby at_205)
            obtain ⟨rq13, b13, nq13, x13, y13, rfl, -, FS, FI, FN, VS, VI, hR13, hl13, hpr13, g13, na13, nb13, K194, NL194⟩ := hQ194
            have N0 := Fr.app N0 NL194
            have e194 : T194.heap = T194.heap := rfl
            have EA := EA.keep K194
            have Z0 := Nat.le_trans Z0 K194.1
            refine Goes.by (T' := T194) (g' := (mkF m 208 #[l0, l1, l2, l3, l4, l5, SI ia, SI ib, SI ic, l9, l10, l11, SD z1, S2, SD z2, S2, SD z3, S2, l18, l19, SI 1, SI 1, SI 1, SA a, SU, SU, SU, SU] [(.double rq13)])) st194 ?_
            rw [if_pos fv3] at hR13
            obtain rfl : nq13 = (3 : Int32) := Int32.toInt_inj.mp (by rw [hR13.2.2.2.2.1]; rfl)
            have h128_13 : x13.length = 128 := hpr13.trans h128_12
            refine Goes.by (T' := T194) (g' := (mkF m 209 #[l0, l1, l2, l3, l4, l5, SI ia, SI ib, SI ic, l9, l10, l11, SD z1, S2, SD z2, S2, SD z3, S2, l18, l19, SI 1, SI 1, SI 1, SA a, SU, SU, SU, SU] [])) (fun _ k => XS.pop2W X194.here hx rfl (hb hby at_208) rfl rfl k) ?_
            refine Goes.by (T' := T194) (g' := (mkF m 210 #[l0, l1, l2, l3, l4, l5, SI ia, SI ib, SI ic, l9, l10, l11, SD z1, S2, SD z2, S2, SD z3, S2, l18, l19, SI 1, SI 1, SI 1, SA a, SU, SU, SU, SU] [(.int (3 : Int32))])) (fun _ k => XS.iconst X194.here hx rfl (hb hby at_209)  k) ?_
            obtain ⟨T195, h195, k195, X195, e195, E195, A195, st195⟩ := newP X194 hx hZ (hw _ (List.mem_of_getElem? (i := 9) rfl)) e194 (g := (mkF m 210 #[l0, l1, l2, l3, l4, l5, SI ia, SI ib, SI ic, l9, l10, l11, SD z1, S2, SD z2, S2, SD z3, S2, l18, l19, SI 1, SI 1, SI 1, SA a, SU, SU, SU, SU] [(.int (3 : Int32))])) rfl (hb hby at_210) rfl (by decide) (cap := 3) (by decide) (by decide) (by decide) (by decide)
            obtain ⟨ea, g195⟩ : ∃ z, z = T194.heap.size := ⟨_, rfl⟩
            rw [← g195] at A195 st195
            have ne_a_ea : a ≠ ea := fun q => Nat.lt_irrefl _ (Nat.lt_of_lt_of_eq EA.lt (g195.symm.trans q.symm))
            have ne_b13_ea : b13 ≠ ea := fun q => Nat.lt_irrefl _ (Nat.lt_of_lt_of_eq VS.lt (g195.symm.trans q.symm))
            have ne_bi_ea : bi ≠ ea := fun q => Nat.lt_irrefl _ (Nat.lt_of_lt_of_eq VI.lt (g195.symm.trans q.symm))
            have ge_ea : n0 ≤ ea := Nat.le_trans Z0 (Nat.le_of_eq g195.symm)
            have EA := EA.ext E195
            have FS := FS.ext E195
            have FI := FI.ext E195
            have FN := FN.ext E195
            have VS := VS.ext E195
            have VI := VI.ext E195
            have Z0 := Nat.le_trans Z0 E195.1
            have V_ea : Sar Z h195 ea .double [(.double (0 : UInt64)), (.double (0 : UInt64)), (.double (0 : UInt64))] := Sar.new (n := 3) A195 (by decide)
            refine Goes.by (T' := T195) (g' := (mkF m 212 #[l0, l1, l2, l3, l4, l5, SI ia, SI ib, SI ic, l9, l10, l11, SD z1, S2, SD z2, S2, SD z3, S2, l18, l19, SI 1, SI 1, SI 1, SA a, SU, SU, SU, SU] [(.ref ea)])) st195 ?_
            refine Goes.by (T' := T195) (g' := (mkF m 214 #[l0, l1, l2, l3, l4, l5, SI ia, SI ib, SI ic, l9, l10, l11, SD z1, S2, SD z2, S2, SD z3, S2, l18, l19, SI 1, SI 1, SI 1, SA a, SA ea, SU, SU, SU] [])) (fun _ k => XS.astore X195.here hx rfl (hb hby at_212) rfl rfl (l' := #[l0, l1, l2, l3, l4, l5, SI ia, SI ib, SI ic, l9, l10, l11, SD z1, S2, SD z2, S2, SD z3, S2, l18, l19, SI 1, SI 1, SI 1, SA a, SA ea, SU, SU, SU]) rfl k) ?_
            refine Goes.by (T' := T195) (g' := (mkF m 215 #[l0, l1, l2, l3, l4, l5, SI ia, SI ib, SI ic, l9, l10, l11, SD z1, S2, SD z2, S2, SD z3, S2, l18, l19, SI 1, SI 1, SI 1, SA a, SA ea, SU, SU, SU] [(.int (0 : Int32))])) (fun _ k => XS.iconst X195.here hx rfl (hb hby at_214)  k) ?_
            refine Goes.by (T' := T195) (g' := (mkF m 217 #[l0, l1, l2, l3, l4, l5, SI ia, SI ib, SI ic, l9, l10, l11, SD z1, S2, SD z2, S2, SD z3, S2, l18, l19, SI 1, SI 1, SI 1, SA a, SA ea, SI 0, SU, SU] [])) (fun _ k => XS.istore X195.here hx rfl (hb hby at_215) rfl (l' := #[l0, l1, l2, l3, l4, l5, SI ia, SI ib, SI ic, l9, l10, l11, SD z1, S2, SD z2, S2, SD z3, S2, l18, l19, SI 1, SI 1, SI 1, SA a, SA ea, SI 0, SU, SU]) rfl k) ?_
            refine Goes.by (T' := T195) (g' := (mkF m 219 #[l0, l1, l2, l3, l4, l5, SI ia, SI ib, SI ic, l9, l10, l11, SD z1, S2, SD z2, S2, SD z3, S2, l18, l19, SI 1, SI 1, SI 1, SA a, SA ea, SI 0, SU, SU] [(.int (1 : Int32))])) (fun _ k => XS.iload X195.here hx rfl (hb hby at_217) rfl k) ?_
            refine Goes.by (T' := T195) (g' := (mkF m 222 #[l0, l1, l2, l3, l4, l5, SI ia, SI ib, SI ic, l9, l10, l11, SD z1, S2, SD z2, S2, SD z3, S2, l18, l19, SI 1, SI 1, SI 1, SA a, SA ea, SI 0, SU, SU] [])) (fun _ k => XS.ifNo X195.here hx rfl (hb hby at_219) rfl (by decide) k) ?_
            refine Goes.by (T' := T195) (g' := (mkF m 224 #[l0, l1, l2, l3, l4, l5, SI ia, SI ib, SI ic, l9, l10, l11, SD z1, S2, SD z2, S2, SD z3, S2, l18, l19, SI 1, SI 1, SI 1, SA a, SA ea, SI 0, SU, SU] [(.double z1)])) (fun _ k => XS.dload X195.here hx rfl (hb hby at_222) rfl k) ?_
            refine Goes.by (T' := T195) (g' := (mkF m 226 #[l0, l1, l2, l3, l4, l5, SI ia, SI ib, SI ic, l9, l10, l11, SD z1, S2, SD z2, S2, SD z3, S2, l18, l19, SI 1, SI 1, SI 1, SA a, SA ea, SI 0, SD z1, S2] [])) (fun _ k => XS.dstore X195.here hx rfl (hb hby at_224) rfl (l' := #[l0, l1, l2, l3, l4, l5, SI ia, SI ib, SI ic, l9, l10, l11, SD z1, S2, SD z2, S2, SD z3, S2, l18, l19, SI 1, SI 1, SI 1, SA a, SA ea, SI 0, SD z1, S2]) rfl k) ?_
            refine Goes.by (T' := T195) (g' := (mkF m 228 #[l0, l1, l2, l3, l4, l5, SI ia, SI ib, SI ic, l9, l10, l11, SD z1, S2, SD z2, S2, SD z3, S2, l18, l19, SI 1, SI 1, SI 1, SA a, SA ea, SI 0, SD z1, S2] [(.int (1 : Int32))])) (fun _ k => XS.iload X195.here hx rfl (hb hby at_226) rfl k) ?_
            refine Goes.by (T' := T195) (g' := (mkF m 231 #[l0, l1, l2, l3, l4, l5, SI ia, SI ib, SI ic, l9, l10, l11, SD z1, S2, SD z2, S2, SD z3, S2, l18, l19, SI 1, SI 1, SI 1, SA a, SA ea, SI 0, SD z1, S2] [])) (fun _ k => XS.ifNo X195.here hx rfl (hb hby at_228) rfl (by decide) k) ?_
            refine Goes.by (T' := T195) (g' := (mkF m 233 #[l0, l1, l2, l3, l4, l5, SI ia, SI ib, SI ic, l9, l10, l11, SD z1, S2, SD z2, S2, SD z3, S2, l18, l19, SI 1, SI 1, SI 1, SA a, SA ea, SI 0, SD z1, S2] [(.int ib)])) (fun _ k => XS.iload X195.here hx rfl (hb hby at_231) rfl k) ?_
            refine Goes.by (T' := T195) (g' := (mkF m 235 #[l0, l1, l2, l3, l4, l5, SI ia, SI ib, SI ic, l9, l10, l11, SD z1, S2, SD z2, S2, SD z3, S2, l18, l19, SI 1, SI 1, SI 1, SA a, SA ea, SI 0, SD z1, S2] [(.int ia), (.int ib)])) (fun _ k => XS.iload X195.here hx rfl (hb hby at_233) rfl k) ?_
            refine Goes.by (T' := T195) (g' := (mkF m 245 #[l0, l1, l2, l3, l4, l5, SI ia, SI ib, SI ic, l9, l10, l11, SD z1, S2, SD z2, S2, SD z3, S2, l18, l19, SI 1, SI 1, SI 1, SA a, SA ea, SI 0, SD z1, S2] [])) (fun _ k => XS.icmpYes X195.here hx rfl (pc0 := 235) (pc' := 245) rfl (hb hby at_235) rfl (feq (fun q => hab q.symm)).2 (by decide) (by decide) k) ?_
            refine Goes.by (T' := T195) (g' := (mkF m 247 #[l0, l1, l2, l3, l4, l5, SI ia, SI ib, SI ic, l9, l10, l11, SD z1, S2, SD z2, S2, SD z3, S2, l18, l19, SI 1, SI 1, SI 1, SA a, SA ea, SI 0, SD z1, S2] [(.int (1 : Int32))])) (fun _ k => XS.iload X195.here hx rfl (hb hby at_245) rfl k) ?_
            refine Goes.by (T' := T195) (g' := (mkF m 250 #[l0, l1, l2, l3, l4, l5, SI ia, SI ib, SI ic, l9, l10, l11, SD z1, S2, SD z2, S2, SD z3, S2, l18, l19, SI 1, SI 1, SI 1, SA a, SA ea, SI 0, SD z1, S2] [])) (fun _ k => XS.ifNo X195.here hx rfl (hb hby at_247) rfl (by decide) k) ?_
            refine Goes.by (T' := T195) (g' := (mkF m 252 #[l0, l1, l2, l3, l4, l5, SI ia, SI ib, SI ic, l9, l10, l11, SD z1, S2, SD z2, S2, SD z3, S2, l18, l19, SI 1, SI 1, SI 1, SA a, SA ea, SI 0, SD z1, S2] [(.int ic)])) (fun _ k => XS.iload X195.here hx rfl (hb hby at_250) rfl k) ?_
            refine Goes.by (T' := T195) (g' := (mkF m 254 #[l0, l1, l2, l3, l4, l5, SI ia, SI ib, SI ic, l9, l10, l11, SD z1, S2, SD z2, S2, SD z3, S2, l18, l19, SI 1, SI 1, SI 1, SA a, SA ea, SI 0, SD z1, S2] [(.int ia), (.int ic)])) (fun _ k => XS.iload X195.here hx rfl (hb hby at_252) rfl k) ?_
            refine Goes.by (T' := T195) (g' := (mkF m 264 #[l0, l1, l2, l3, l4, l5, SI ia, SI ib, SI ic, l9, l10, l11, SD z1, S2, SD z2, S2, SD z3, S2, l18, l19, SI 1, SI 1, SI 1, SA a, SA ea, SI 0, SD z1, S2] [])) (fun _ k => XS.icmpYes X195.here hx rfl (pc0 := 254) (pc' := 264) rfl (hb hby at_254) rfl (feq (fun q => hac q.symm)).2 (by decide) (by decide) k) ?_
            refine Goes.by (T' := T195) (g' := (mkF m 266 #[l0, l1, l2, l3, l4, l5, SI ia, SI ib, SI ic, l9, l10, l11, SD z1, S2, SD z2, S2, SD z3, S2, l18, l19, SI 1, SI 1, SI 1, SA a, SA ea, SI 0, SD z1, S2] [(.ref ea)])) (fun _ k => XS.aload X195.here hx rfl (hb hby at_264) rfl rfl k) ?_
            refine Goes.by (T' := T195) (g' := (mkF m 268 #[l0, l1, l2, l3, l4, l5, SI ia, SI ib, SI ic, l9, l10, l11, SD z1, S2, SD z2, S2, SD z3, S2, l18, l19, SI 1, SI 1, SI 1, SA a, SA ea, SI 0, SD z1, S2] [(.int (0 : Int32)), (.ref ea)])) (fun _ k => XS.iload X195.here hx rfl (hb hby at_266) rfl k) ?_
            refine Goes.by (T' := T195) (g' := (mkF m 270 #[l0, l1, l2, l3, l4, l5, SI ia, SI ib, SI ic, l9, l10, l11, SD z1, S2, SD z2, S2, SD z3, S2, l18, l19, SI 1, SI 1, SI 1, SA a, SA ea, SI 0, SD z1, S2] [(.double z1), (.int (0 : Int32)), (.ref ea)])) (fun _ k => XS.dload X195.here hx rfl (hb hby at_268) rfl k) ?_
            obtain ⟨T196, h196, X196, e196, W196, V196, st196⟩ := stDS X195 hx hZ e195 V_ea (j := (0 : Int32)) 0 (by decide) (by show 0 < 3; decide) (g := (mkF m 270 #[l0, l1, l2, l3, l4, l5, SI ia, SI ib, SI ic, l9, l10, l11, SD z1, S2, SD z2, S2, SD z3, S2, l18, l19, SI 1, SI 1, SI 1, SA a, SA ea, SI 0, SD z1, S2] [(.double z1), (.int (0 : Int32)), (.ref ea)])) rfl rfl (hb hby at_270)
            have N0 := Fr.snoc X196 N0 ge_ea
            have EA := EA.wr W196
            have FS := FS.other W196 (Or.inl ne_a_ea)
            have FI := FI.other W196 (Or.inl ne_a_ea)
            have FN := FN.other W196 (Or.inl ne_a_ea)
            have VS := VS.other W196 ne_b13_ea
            have VI := VI.other W196 ne_bi_ea
            have Z0 := Nat.le_trans Z0 (Nat.le_of_eq W196.size.symm)
            have V_ea : Sar Z h196 ea .double [(.double z1), (.double (0 : UInt64)), (.double (0 : UInt64))] := V196
            refine Goes.by (T' := T196) (g' := (mkF m 271 #[l0, l1, l2, l3, l4, l5, SI ia, SI ib, SI ic, l9, l10, l11, SD z1, S2, SD z2, S2, SD z3, S2, l18, l19, SI 1, SI 1, SI 1, SA a, SA ea, SI 0, SD z1, S2] [])) st196 ?_
            refine Goes.by (T' := T196) (g' := (mkF m 273 #[l0, l1, l2, l3, l4, l5, SI ia, SI ib, SI ic, l9, l10, l11, SD z1, S2, SD z2, S2, SD z3, S2, l18, l19, SI 1, SI 1, SI 1, SA a, SA ea, SI 0, SD z1, S2] [(.int (0 : Int32))])) (fun _ k => XS.iload X196.here hx rfl (hb hby at_271) rfl k) ?_
            refine Goes.by (T' := T196) (g' := (mkF m 274 #[l0, l1, l2, l3, l4, l5, SI ia, SI ib, SI ic, l9, l10, l11, SD z1, S2, SD z2, S2, SD z3, S2, l18, l19, SI 1, SI 1, SI 1, SA a, SA ea, SI 0, SD z1, S2] [(.int (1 : Int32)), (.int (0 : Int32))])) (fun _ k => XS.iconst X196.here hx rfl (hb hby at_273)  k) ?_
            refine Goes.by (T' := T196) (g' := (mkF m 275 #[l0, l1, l2, l3, l4, l5, SI ia, SI ib, SI ic, l9, l10, l11, SD z1, S2, SD z2, S2, SD z3, S2, l18, l19, SI 1, SI 1, SI 1, SA a, SA ea, SI 0, SD z1, S2] [(.int (1 : Int32))])) (fun _ k => XS.iadd X196.here hx rfl (hb hby at_274) rfl k) ?_
            refine Goes.by (T' := T196) (g' := (mkF m 277 #[l0, l1, l2, l3, l4, l5, SI ia, SI ib, SI ic, l9, l10, l11, SD z1, S2, SD z2, S2, SD z3, S2, l18, l19, SI 1, SI 1, SI 1, SA a, SA ea, SI 1, SD z1, S2] [])) (fun _ k => XS.istore X196.here hx rfl (hb hby at_275) rfl (l' := #[l0, l1, l2, l3, l4, l5, SI ia, SI ib, SI ic, l9, l10, l11, SD z1, S2, SD z2, S2, SD z3, S2, l18, l19, SI 1, SI 1, SI 1, SA a, SA ea, SI 1, SD z1, S2]) rfl k) ?_
            refine Goes.by (T' := T196) (g' := (mkF m 279 #[l0, l1, l2, l3, l4, l5, SI ia, SI ib, SI ic, l9, l10, l11, SD z1, S2, SD z2, S2, SD z3, S2, l18, l19, SI 1, SI 1, SI 1, SA a, SA ea, SI 1, SD z1, S2] [(.int (1 : Int32))])) (fun _ k => XS.iload X196.here hx rfl (hb hby at_277) rfl k) ?_
            refine Goes.by (T' := T196) (g' := (mkF m 282 #[l0, l1, l2, l3, l4, l5, SI ia, SI ib, SI ic, l9, l10, l11, SD z1, S2, SD z2, S2, SD z3, S2, l18, l19, SI 1, SI 1, SI 1, SA a, SA ea, SI 1, SD z1, S2] [])) (fun _ k => XS.ifNo X196.here hx rfl (hb hby at_279) rfl (by decide) k) ?_
            refine Goes.by (T' := T196) (g' := (mkF m 284 #[l0, l1, l2, l3, l4, l5, SI ia, SI ib, SI ic, l9, l10, l11, SD z1, S2, SD z2, S2, SD z3, S2, l18, l19, SI 1, SI 1, SI 1, SA a, SA ea, SI 1, SD z1, S2] [(.int ib)])) (fun _ k => XS.iload X196.here hx rfl (hb hby at_282) rfl k) ?_
            refine Goes.by (T' := T196) (g' := (mkF m 286 #[l0, l1, l2, l3, l4, l5, SI ia, SI ib, SI ic, l9, l10, l11, SD z1, S2, SD z2, S2, SD z3, S2, l18, l19, SI 1, SI 1, SI 1, SA a, SA ea, SI 1, SD z1, S2] [(.int ia), (.int ib)])) (fun _ k => XS.iload X196.here hx rfl (hb hby at_284) rfl k) ?_
            refine Goes.by (T' := T196) (g' := (mkF m 289 #[l0, l1, l2, l3, l4, l5, SI ia, SI ib, SI ic, l9, l10, l11, SD z1, S2, SD z2, S2, SD z3, S2, l18, l19, SI 1, SI 1, SI 1, SA a, SA ea, SI 1, SD z1, S2] [])) (fun _ k => XS.icmpNo X196.here hx rfl (hb hby at_286) rfl (feq (fun q => hab q.symm)).1 k) ?_
            refine Goes.by (T' := T196) (g' := (mkF m 291 #[l0, l1, l2, l3, l4, l5, SI ia, SI ib, SI ic, l9, l10, l11, SD z1, S2, SD z2, S2, SD z3, S2, l18, l19, SI 1, SI 1, SI 1, SA a, SA ea, SI 1, SD z1, S2] [(.double z2)])) (fun _ k => XS.dload X196.here hx rfl (hb hby at_289) rfl k) ?_
            refine Goes.by (T' := T196) (g' := (mkF m 293 #[l0, l1, l2, l3, l4, l5, SI ia, SI ib, SI ic, l9, l10, l11, SD z1, S2, SD z2, S2, SD z3, S2, l18, l19, SI 1, SI 1, SI 1, SA a, SA ea, SI 1, SD z2, S2] [])) (fun _ k => XS.dstore X196.here hx rfl (hb hby at_291) rfl (l' := #[l0, l1, l2, l3, l4, l5, SI ia, SI ib, SI ic, l9, l10, l11, SD z1, S2, SD z2, S2, SD z3, S2, l18, l19, SI 1, SI 1, SI 1, SA a, SA ea, SI 1, SD z2, S2]) rfl k) ?_
            refine Goes.by (T' := T196) (g' := (mkF m 295 #[l0, l1, l2, l3, l4, l5, SI ia, SI ib, SI ic, l9, l10, l11, SD z1, S2, SD z2, S2, SD z3, S2, l18, l19, SI 1, SI 1, SI 1, SA a, SA ea, SI 1, SD z2, S2] [(.int (1 : Int32))])) (fun _ k => XS.iload X196.here hx rfl (hb hby at_293) rfl k) ?_
            refine Goes.by (T' := T196) (g' := (mkF m 298 #[l0, l1, l2, l3, l4, l5, SI ia, SI ib, SI ic, l9, l10, l11, SD z1, S2, SD z2, S2, SD z3, S2, l18, l19, SI 1, SI 1, SI 1, SA a, SA ea, SI 1, SD z2, S2] [])) (fun _ k => XS.ifNo X196.here hx rfl (hb hby at_295) rfl (by decide) k) ?_
            refine Goes.by (T' := T196) (g' := (mkF m 300 #[l0, l1, l2, l3, l4, l5, SI ia, SI ib, SI ic, l9, l10, l11, SD z1, S2, SD z2, S2, SD z3, S2, l18, l19, SI 1, SI 1, SI 1, SA a, SA ea, SI 1, SD z2, S2] [(.int ic)])) (fun _ k => XS.iload X196.here hx rfl (hb hby at_298) rfl k) ?_
            refine Goes.by (T' := T196) (g' := (mkF m 302 #[l0, l1, l2, l3, l4, l5, SI ia, SI ib, SI ic, l9, l10, l11, SD z1, S2, SD z2, S2, SD z3, S2, l18, l19, SI 1, SI 1, SI 1, SA a, SA ea, SI 1, SD z2, S2] [(.int ib), (.int ic)])) (fun _ k => XS.iload X196.here hx rfl (hb hby at_300) rfl k) ?_
            refine Goes.by (T' := T196) (g' := (mkF m 312 #[l0, l1, l2, l3, l4, l5, SI ia, SI ib, SI ic, l9, l10, l11, SD z1, S2, SD z2, S2, SD z3, S2, l18, l19, SI 1, SI 1, SI 1, SA a, SA ea, SI 1, SD z2, S2] [])) (fun _ k => XS.icmpYes X196.here hx rfl (pc0 := 302) (pc' := 312) rfl (hb hby at_302) rfl (feq (fun q => hbc q.symm)).2 (by decide) (by decide) k) ?_
            refine Goes.by (T' := T196) (g' := (mkF m 314 #[l0, l1, l2, l3, l4, l5, SI ia, SI ib, SI ic, l9, l10, l11, SD z1, S2, SD z2, S2, SD z3, S2, l18, l19, SI 1, SI 1, SI 1, SA a, SA ea, SI 1, SD z2, S2] [(.ref ea)])) (fun _ k => XS.aload X196.here hx rfl (hb hby at_312) rfl rfl k) ?_
            refine Goes.by (T' := T196) (g' := (mkF m 316 #[l0, l1, l2, l3, l4, l5, SI ia, SI ib, SI ic, l9, l10, l11, SD z1, S2, SD z2, S2, SD z3, S2, l18, l19, SI 1, SI 1, SI 1, SA a, SA ea, SI 1, SD z2, S2] [(.int (1 : Int32)), (.ref ea)])) (fun _ k => XS.iload X196.here hx rfl (hb hby at_314) rfl k) ?_
            refine Goes.by (T' := T196) (g' := (mkF m 318 #[l0, l1, l2, l3, l4, l5, SI ia, SI ib, SI ic, l9, l10, l11, SD z1, S2, SD z2, S2, SD z3, S2, l18, l19, SI 1, SI 1, SI 1, SA a, SA ea, SI 1, SD z2, S2] [(.double z2), (.int (1 : Int32)), (.ref ea)])) (fun _ k => XS.dload X196.here hx rfl (hb hby at_316) rfl k) ?_
            obtain ⟨T197, h197, X197, e197, W197, V197, st197⟩ := stDS X196 hx hZ e196 V_ea (j := (1 : Int32)) 1 (by decide) (by show 1 < 3; decide) (g := (mkF m 318 #[l0, l1, l2, l3, l4, l5, SI ia, SI ib, SI ic, l9, l10, l11, SD z1, S2, SD z2, S2, SD z3, S2, l18, l19, SI 1, SI 1, SI 1, SA a, SA ea, SI 1, SD z2, S2] [(.double z2), (.int (1 : Int32)), (.ref ea)])) rfl rfl (hb hby at_318)
            have N0 := Fr.snoc X197 N0 ge_ea
            have EA := EA.wr W197
            have FS := FS.other W197 (Or.inl ne_a_ea)
            have FI := FI.other W197 (Or.inl ne_a_ea)
            have FN := FN.other W197 (Or.inl ne_a_ea)
            have VS := VS.other W197 ne_b13_ea
            have VI := VI.other W197 ne_bi_ea
            have Z0 := Nat.le_trans Z0 (Nat.le_of_eq W197.size.symm)
            have V_ea : Sar Z h197 ea .double [(.double z1), (.double z2), (.double (0 : UInt64))] := V197
            refine Goes.by (T' := T197) (g' := (mkF m 319 #[l0, l1, l2, l3, l4, l5, SI ia, SI ib, SI ic, l9, l10, l11, SD z1, S2, SD z2, S2, SD z3, S2, l18, l19, SI 1, SI 1, SI 1, SA a, SA ea, SI 1, SD z2, S2] [])) st197 ?_
            refine Goes.by (T' := T197) (g' := (mkF m 321 #[l0, l1, l2, l3, l4, l5, SI ia, SI ib, SI ic, l9, l10, l11, SD z1, S2, SD z2, S2, SD z3, S2, l18, l19, SI 1, SI 1, SI 1, SA a, SA ea, SI 1, SD z2, S2] [(.int (1 : Int32))])) (fun _ k => XS.iload X197.here hx rfl (hb hby at_319) rfl k) ?_
            refine Goes.by (T' := T197) (g' := (mkF m 322 #[l0, l1, l2, l3, l4, l5, SI ia, SI ib, SI ic, l9, l10, l11, SD z1, S2, SD z2, S2, SD z3, S2, l18, l19, SI 1, SI 1, SI 1, SA a, SA ea, SI 1, SD z2, S2] [(.int (1 : Int32)), (.int (1 : Int32))])) (fun _ k => XS.iconst X197.here hx rfl (hb hby at_321)  k) ?_
            refine Goes.by (T' := T197) (g' := (mkF m 323 #[l0, l1, l2, l3, l4, l5, SI ia, SI ib, SI ic, l9, l10, l11, SD z1, S2, SD z2, S2, SD z3, S2, l18, l19, SI 1, SI 1, SI 1, SA a, SA ea, SI 1, SD z2, S2] [(.int (2 : Int32))])) (fun _ k => XS.iadd X197.here hx rfl (hb hby at_322) rfl k) ?_
            refine Goes.by (T' := T197) (g' := (mkF m 325 #[l0, l1, l2, l3, l4, l5, SI ia, SI ib, SI ic, l9, l10, l11, SD z1, S2, SD z2, S2, SD z3, S2, l18, l19, SI 1, SI 1, SI 1, SA a, SA ea, SI 2, SD z2, S2] [])) (fun _ k => XS.istore X197.here hx rfl (hb hby at_323) rfl (l' := #[l0, l1, l2, l3, l4, l5, SI ia, SI ib, SI ic, l9, l10, l11, SD z1, S2, SD z2, S2, SD z3, S2, l18, l19, SI 1, SI 1, SI 1, SA a, SA ea, SI 2, SD z2, S2]) rfl k) ?_
            refine Goes.by (T' := T197) (g' := (mkF m 327 #[l0, l1, l2, l3, l4, l5, SI ia, SI ib, SI ic, l9, l10, l11, SD z1, S2, SD z2, S2, SD z3, S2, l18, l19, SI 1, SI 1, SI 1, SA a, SA ea, SI 2, SD z2, S2] [(.int (1 : Int32))])) (fun _ k => XS.iload X197.here hx rfl (hb hby at_325) rfl k) ?_
            refine Goes.by (T' := T197) (g' := (mkF m 330 #[l0, l1, l2, l3, l4, l5, SI ia, SI ib, SI ic, l9, l10, l11, SD z1, S2, SD z2, S2, SD z3, S2, l18, l19, SI 1, SI 1, SI 1, SA a, SA ea, SI 2, SD z2, S2] [])) (fun _ k => XS.ifNo X197.here hx rfl (hb hby at_327) rfl (by decide) k) ?_
            refine Goes.by (T' := T197) (g' := (mkF m 332 #[l0, l1, l2, l3, l4, l5, SI ia, SI ib, SI ic, l9, l10, l11, SD z1, S2, SD z2, S2, SD z3, S2, l18, l19, SI 1, SI 1, SI 1, SA a, SA ea, SI 2, SD z2, S2] [(.int ic)])) (fun _ k => XS.iload X197.here hx rfl (hb hby at_330) rfl k) ?_
            refine Goes.by (T' := T197) (g' := (mkF m 334 #[l0, l1, l2, l3, l4, l5, SI ia, SI ib, SI ic, l9, l10, l11, SD z1, S2, SD z2, S2, SD z3, S2, l18, l19, SI 1, SI 1, SI 1, SA a, SA ea, SI 2, SD z2, S2] [(.int ia), (.int ic)])) (fun _ k => XS.iload X197.here hx rfl (hb hby at_332) rfl k) ?_
            refine Goes.by (T' := T197) (g' := (mkF m 337 #[l0, l1, l2, l3, l4, l5, SI ia, SI ib, SI ic, l9, l10, l11, SD z1, S2, SD z2, S2, SD z3, S2, l18, l19, SI 1, SI 1, SI 1, SA a, SA ea, SI 2, SD z2, S2] [])) (fun _ k => XS.icmpNo X197.here hx rfl (hb hby at_334) rfl (feq (fun q => hac q.symm)).1 k) ?_
            refine Goes.by (T' := T197) (g' := (mkF m 339 #[l0, l1, l2, l3, l4, l5, SI ia, SI ib, SI ic, l9, l10, l11, SD z1, S2, SD z2, S2, SD z3, S2, l18, l19, SI 1, SI 1, SI 1, SA a, SA ea, SI 2, SD z2, S2] [(.int ic)])) (fun _ k => XS.iload X197.here hx rfl (hb hby at_337) rfl k) ?_
            refine Goes.by (T' := T197) (g' := (mkF m 341 #[l0, l1, l2, l3, l4, l5, SI ia, SI ib, SI ic, l9, l10, l11, SD z1, S2, SD z2, S2, SD z3, S2, l18, l19, SI 1, SI 1, SI 1, SA a, SA ea, SI 2, SD z2, S2] [(.int ib), (.int ic)])) (fun _ k => XS.iload X197.here hx rfl (hb hby at_339) rfl k) ?_
            refine Goes.by (T' := T197) (g' := (mkF m 344 #[l0, l1, l2, l3, l4, l5, SI ia, SI ib, SI ic, l9, l10, l11, SD z1, S2, SD z2, S2, SD z3, S2, l18, l19, SI 1, SI 1, SI 1, SA a, SA ea, SI 2, SD z2, S2] [])) (fun _ k => XS.icmpNo X197.here hx rfl (hb hby at_341) rfl (feq (fun q => hbc q.symm)).1 k) ?_
            refine Goes.by (T' := T197) (g' := (mkF m 346 #[l0, l1, l2, l3, l4, l5, SI ia, SI ib, SI ic, l9, l10, l11, SD z1, S2, SD z2, S2, SD z3, S2, l18, l19, SI 1, SI 1, SI 1, SA a, SA ea, SI 2, SD z2, S2] [(.ref ea)])) (fun _ k => XS.aload X197.here hx rfl (hb hby at_344) rfl rfl k) ?_
            refine Goes.by (T' := T197) (g' := (mkF m 348 #[l0, l1, l2, l3, l4, l5, SI ia, SI ib, SI ic, l9, l10, l11, SD z1, S2, SD z2, S2, SD z3, S2, l18, l19, SI 1, SI 1, SI 1, SA a, SA ea, SI 2, SD z2, S2] [(.int (2 : Int32)), (.ref ea)])) (fun _ k => XS.iload X197.here hx rfl (hb hby at_346) rfl k) ?_
            refine Goes.by (T' := T197) (g' := (mkF m 350 #[l0, l1, l2, l3, l4, l5, SI ia, SI ib, SI ic, l9, l10, l11, SD z1, S2, SD z2, S2, SD z3, S2, l18, l19, SI 1, SI 1, SI 1, SA a, SA ea, SI 2, SD z2, S2] [(.double z3), (.int (2 : Int32)), (.ref ea)])) (fun _ k => XS.dload X197.here hx rfl (hb hby at_348) rfl k) ?_
            obtain ⟨T198, h198, X198, e198, W198, V198, st198⟩ := stDS X197 hx hZ e197 V_ea (j := (2 : Int32)) 2 (by decide) (by show 2 < 3; decide) (g := (mkF m 350 #[l0, l1, l2, l3, l4, l5, SI ia, SI ib, SI ic, l9, l10, l11, SD z1, S2, SD z2, S2, SD z3, S2, l18, l19, SI 1, SI 1, SI 1, SA a, SA ea, SI 2, SD z2, S2] [(.double z3), (.int (2 : Int32)), (.ref ea)])) rfl rfl (hb hby at_350)
            have N0 := Fr.snoc X198 N0 ge_ea
            have EA := EA.wr W198
            have FS := FS.other W198 (Or.inl ne_a_ea)
            have FI := FI.other W198 (Or.inl ne_a_ea)
            have FN := FN.other W198 (Or.inl ne_a_ea)
            have VS := VS.other W198 ne_b13_ea
            have VI := VI.other W198 ne_bi_ea
            have Z0 := Nat.le_trans Z0 (Nat.le_of_eq W198.size.symm)
            have V_ea : Sar Z h198 ea .double [(.double z1), (.double z2), (.double z3)] := V198
            refine Goes.by (T' := T198) (g' := (mkF m 351 #[l0, l1, l2, l3, l4, l5, SI ia, SI ib, SI ic, l9, l10, l11, SD z1, S2, SD z2, S2, SD z3, S2, l18, l19, SI 1, SI 1, SI 1, SA a, SA ea, SI 2, SD z2, S2] [])) st198 ?_
            refine Goes.by (T' := T198) (g' := (mkF m 353 #[l0, l1, l2, l3, l4, l5, SI ia, SI ib, SI ic, l9, l10, l11, SD z1, S2, SD z2, S2, SD z3, S2, l18, l19, SI 1, SI 1, SI 1, SA a, SA ea, SI 2, SD z2, S2] [(.int (2 : Int32))])) (fun _ k => XS.iload X198.here hx rfl (hb hby at_351) rfl k) ?_
            refine Goes.by (T' := T198) (g' := (mkF m 354 #[l0, l1, l2, l3, l4, l5, SI ia, SI ib, SI ic, l9, l10, l11, SD z1, S2, SD z2, S2, SD z3, S2, l18, l19, SI 1, SI 1, SI 1, SA a, SA ea, SI 2, SD z2, S2] [(.int (1 : Int32)), (.int (2 : Int32))])) (fun _ k => XS.iconst X198.here hx rfl (hb hby at_353)  k) ?_
            refine Goes.by (T' := T198) (g' := (mkF m 355 #[l0, l1, l2, l3, l4, l5, SI ia, SI ib, SI ic, l9, l10, l11, SD z1, S2, SD z2, S2, SD z3, S2, l18, l19, SI 1, SI 1, SI 1, SA a, SA ea, SI 2, SD z2, S2] [(.int (3 : Int32))])) (fun _ k => XS.iadd X198.here hx rfl (hb hby at_354) rfl k) ?_
            refine Goes.by (T' := T198) (g' := (mkF m 357 #[l0, l1, l2, l3, l4, l5, SI ia, SI ib, SI ic, l9, l10, l11, SD z1, S2, SD z2, S2, SD z3, S2, l18, l19, SI 1, SI 1, SI 1, SA a, SA ea, SI 3, SD z2, S2] [])) (fun _ k => XS.istore X198.here hx rfl (hb hby at_355) rfl (l' := #[l0, l1, l2, l3, l4, l5, SI ia, SI ib, SI ic, l9, l10, l11, SD z1, S2, SD z2, S2, SD z3, S2, l18, l19, SI 1, SI 1, SI 1, SA a, SA ea, SI 3, SD z2, S2]) rfl k) ?_
            refine Goes.by (T' := T198) (g' := (mkF m 359 #[l0, l1, l2, l3, l4, l5, SI ia, SI ib, SI ic, l9, l10, l11, SD z1, S2, SD z2, S2, SD z3, S2, l18, l19, SI 1, SI 1, SI 1, SA a, SA ea, SI 3, SD z2, S2] [(.ref a)])) (fun _ k => XS.aload X198.here hx rfl (hb hby at_357) rfl rfl k) ?_
            obtain ⟨hq0, v0, hy0, hv0⟩ := hR13.2.2.2.2.2.2 0 ka (by simp)
            obtain ⟨d0, hx0, Dd0⟩ := hR13.2.1 ka hq0
            have fe0 : (own_upd (own_upd (own_upd (fun _ => 0) ka w1.toInt) kb w2.toInt) kc w3.toInt) ka = w1.toInt := by simp [own_upd, nkab, nkab.symm, nkac, nkac.symm, nkbc, nkbc.symm]
            rw [fe0] at Dd0
            obtain ⟨hq1, v1, hy1, hv1⟩ := hR13.2.2.2.2.2.2 1 kb (by simp)
            obtain ⟨d1, hx1, Dd1⟩ := hR13.2.1 kb hq1
            have fe1 : (own_upd (own_upd (own_upd (fun _ => 0) ka w1.toInt) kb w2.toInt) kc w3.toInt) kb = w2.toInt := by simp [own_upd, nkab, nkab.symm, nkac, nkac.symm, nkbc, nkbc.symm]
            rw [fe1] at Dd1
            obtain ⟨hq2, v2, hy2, hv2⟩ := hR13.2.2.2.2.2.2 2 kc (by simp)
            obtain ⟨d2, hx2, Dd2⟩ := hR13.2.1 kc hq2
            have fe2 : (own_upd (own_upd (own_upd (fun _ => 0) ka w1.toInt) kb w2.toInt) kc w3.toInt) kc = w3.toInt := by simp [own_upd, nkab, nkab.symm, nkac, nkac.symm, nkbc, nkbc.symm]
            rw [fe2] at Dd2
            exact cmp3 a b13 bi ea _ _ _ _ _ v0 ka d0 w1.toInt v1 kb d1 w2.toInt v2 kc d2 w3.toInt _ _ _ _ _ _ _ _ _ _ _ _ _ _ _ _ _ _ _ _ _ _ _ _ _ _ _ (X198.wide (fun x hx _ => hx) (by decide) (by decide)) e198 N0 Z0 EA FS FI FN VS VI V_ea ge_a g13 gi ge_ea na13 nb13 n2 ne_a_ea ne_b13_ea ne_bi_ea hy0 hv0 hx0 Dd0 D_z1 hy1 hv1 hx1 Dd1 D_z2 hy2 hv2 hx2 Dd2 D_z3
    by_cases hd : f0 = (0 : Int32)
    · refine Goes.by (T' := T136) (g' := (mkF m 164 #[SI y0, SI y1, SI y2, SI y3, SI y4, SI y5, SI ia, SI ib, SI ic, SI ip, SD z0, S2, SD z1, S2, SD z2, S2, SD z3, S2, SI f0, SI 3, SI 1, SI 1, SI 1, SA a, SU, SU, SU, SU] [])) (fun _ k => XS.ifYes X136.here hx rfl (pc0 := 146) (pc' := 164) rfl (hb hby at_146) rfl ((if0 _ _).trans (teq hd).1) (by decide) (by decide) k) ?_
      exact restU bs _ _ _ _ _ _ _ _ _ _ _ _ _ _ _ _ (X136.wide (fun x hx _ => hx) (by decide) (by decide)) e136 N0 Z0 EA FS FI FN VS VI OwnRep.start gs n1 n3
    · refine Goes.by (T' := T136) (g' := (mkF m 149 #[SI y0, SI y1, SI y2, SI y3, SI y4, SI y5, SI ia, SI ib, SI ic, SI ip, SD z0, S2, SD z1, S2, SD z2, S2, SD z3, S2, SI f0, SI 3, SI 1, SI 1, SI 1, SA a, SU, SU, SU, SU] [])) (fun _ k => XS.ifNo X136.here hx rfl (hb hby at_146) rfl ((if0 _ _).trans (feq hd).1) k) ?_
      refine Goes.by (T' := T136) (g' := (mkF m 151 #[SI y0, SI y1, SI y2, SI y3, SI y4, SI y5, SI ia, SI ib, SI ic, SI ip, SD z0, S2, SD z1, S2, SD z2, S2, SD z3, S2, SI f0, SI 3, SI 1, SI 1, SI 1, SA a, SU, SU, SU, SU] [(.ref a)])) (fun _ k => XS.aload X136.here hx rfl (hb hby at_149) rfl rfl k) ?_
      refine Goes.by (T' := T136) (g' := (mkF m 153 #[SI y0, SI y1, SI y2, SI y3, SI y4, SI y5, SI ia, SI ib, SI ic, SI ip, SD z0, S2, SD z1, S2, SD z2, S2, SD z3, S2, SI f0, SI 3, SI 1, SI 1, SI 1, SA a, SU, SU, SU, SU] [(.int ip), (.ref a)])) (fun _ k => XS.iload X136.here hx rfl (hb hby at_151) rfl k) ?_
      refine Goes.by (T' := T136) (g' := (mkF m 155 #[SI y0, SI y1, SI y2, SI y3, SI y4, SI y5, SI ia, SI ib, SI ic, SI ip, SD z0, S2, SD z1, S2, SD z2, S2, SD z3, S2, SI f0, SI 3, SI 1, SI 1, SI 1, SA a, SU, SU, SU, SU] [(.double z0), (.int ip), (.ref a)])) (fun _ k => XS.dload X136.here hx rfl (hb hby at_153) rfl k) ?_
      by_cases hp : kp < 64
      · obtain ⟨v199, T199, L199, X199, hQ199, st199⟩ := callV X136 hx hZ (y := (⟨"com/example/gibbon/gibbon/analysis/SparseSum", "add", "(ID)D"⟩ : MethodName)) hown (hw _ (List.mem_of_getElem? (i := 15) rfl)) (hw _ (List.mem_of_getElem? (i := 16) rfl)) (hw _ (List.mem_of_getElem? (i := 18) rfl)) (hw _ (List.mem_of_getElem? (i := 17) rfl)) (hw _ (List.mem_of_getElem? (i := 19) rfl)) (hw _ (List.mem_of_getElem? (i := 2) rfl)) (by decide) e136 EA (argsL := [(.int ip), (.double z0)]) (rest := []) (W := 0) (rm_addN l Z a0 hw a bs bi (0 : Int32) ip kp z0 w0.toInt (fun _ => 0) [] _ _ T136.heap n0 Z0 EA FS FI FN VS VI OwnRep.start hkp (by omega) D_z0 bw0 (by decide) (by decide) ge_a gs gi n1 n2 n3 (by simpa using hp)) rfl (by decide) (by decide) (by decide) (by decide) (g := (mkF m 155 #[SI y0, SI y1, SI y2, SI y3, SI y4, SI y5, SI ia, SI ib, SI ic, SI ip, SD z0, S2, SD z1, S2, SD z2, S2, SD z3, S2, SI f0, SI 3, SI 1, SI 1, SI 1, SA a, SU, SU, SU, SU] [(.double z0), (.int ip), (.ref a)])) rfl (by rw [hml]; rfl) (lenOf pd3 rfl) rfl (by show 2 * 0 + _ ≤ _; exact Nat.le_of_eq rfl) (hb hby at_155)
        obtain ⟨rq, b2, nq, xc, yc, rfl, -, FS, FI, FN, VS, VI, hR, hl2, hpr, g2, n4, n5, K199, NL199⟩ := hQ199
        have N0 := Fr.app N0 NL199
        have e199 : T199.heap = T199.heap := rfl
        have EA := EA.keep K199
        have Z0 := Nat.le_trans Z0 K199.1
        refine Goes.by (T' := T199) (g' := (mkF m 158 #[SI y0, SI y1, SI y2, SI y3, SI y4, SI y5, SI ia, SI ib, SI ic, SI ip, SD z0, S2, SD z1, S2, SD z2, S2, SD z3, S2, SI f0, SI 3, SI 1, SI 1, SI 1, SA a, SU, SU, SU, SU] [(.double rq)])) st199 ?_
        rw [if_pos rfl] at hR
        obtain rfl : nq = (1 : Int32) := Int32.toInt_inj.mp (by rw [hR.2.2.2.2.1]; rfl)
        refine Goes.by (T' := T199) (g' := (mkF m 159 #[SI y0, SI y1, SI y2, SI y3, SI y4, SI y5, SI ia, SI ib, SI ic, SI ip, SD z0, S2, SD z1, S2, SD z2, S2, SD z3, S2, SI f0, SI 3, SI 1, SI 1, SI 1, SA a, SU, SU, SU, SU] [])) (fun _ k => XS.pop2W X199.here hx rfl (hb hby at_158) rfl rfl k) ?_
        refine Goes.by (T' := T199) (g' := (mkF m 161 #[SI y0, SI y1, SI y2, SI y3, SI y4, SI y5, SI ia, SI ib, SI ic, SI ip, SD z0, S2, SD z1, S2, SD z2, S2, SD z3, S2, SI f0, SI 3, SI 1, SI 1, SI 1, SA a, SU, SU, SU, SU] [(.ref a)])) (fun _ k => XS.aload X199.here hx rfl (hb hby at_159) rfl rfl k) ?_
        obtain ⟨v200, T200, L200, X200, hQ200, st200⟩ := callV X199 hx hZ (y := (⟨"com/example/gibbon/gibbon/analysis/SparseSum", "clear", "()V"⟩ : MethodName)) hown (hw _ (List.mem_of_getElem? (i := 22) rfl)) (hw _ (List.mem_of_getElem? (i := 23) rfl)) (hw _ (List.mem_of_getElem? (i := 25) rfl)) (hw _ (List.mem_of_getElem? (i := 24) rfl)) (hw _ (List.mem_of_getElem? (i := 26) rfl)) (hw _ (List.mem_of_getElem? (i := 2) rfl)) (by decide) e199 EA (argsL := []) (rest := []) (W := 0) (rm_clear l Z a0 hw a b2 bi kp w0.toInt xc yc T199.heap n0 Z0 EA FS FI FN VS VI hR ge_a g2 gi n4 n2 n5) rfl (by decide) (by decide) (by decide) (by decide) (g := (mkF m 161 #[SI y0, SI y1, SI y2, SI y3, SI y4, SI y5, SI ia, SI ib, SI ic, SI ip, SD z0, S2, SD z1, S2, SD z2, S2, SD z3, S2, SI f0, SI 3, SI 1, SI 1, SI 1, SA a, SU, SU, SU, SU] [(.ref a)])) rfl (by rw [hml]; rfl) (lenOf pd2 rfl) rfl (by show 2 * 0 + _ ≤ _; exact Nat.le_of_eq rfl) (hb hby at_161)
        obtain ⟨rfl, -, FS, FI, FN, VS, VI, hR2, K200, NL200⟩ := hQ200
        have N0 := Fr.app N0 NL200
        have e200 : T200.heap = T200.heap := rfl
        have EA := EA.keep K200
        have Z0 := Nat.le_trans Z0 K200.1
        refine Goes.by (T' := T200) (g' := (mkF m 164 #[SI y0, SI y1, SI y2, SI y3, SI y4, SI y5, SI ia, SI ib, SI ic, SI ip, SD z0, S2, SD z1, S2, SD z2, S2, SD z3, S2, SI f0, SI 3, SI 1, SI 1, SI 1, SA a, SU, SU, SU, SU] [])) st200 ?_
        have hlen2 := hR.1
        exact restU b2 _ _ _ _ _ _ _ _ _ _ _ _ _ _ _ _ (X200.wide (fun x hx _ => hx) (by decide) (by decide)) e200 N0 Z0 EA FS FI FN VS VI hR2 g2 n4 n5
      · obtain ⟨v201, T201, L201, X201, hQ201, st201⟩ := callV X136 hx hZ (y := (⟨"com/example/gibbon/gibbon/analysis/SparseSum", "add", "(ID)D"⟩ : MethodName)) hown (hw _ (List.mem_of_getElem? (i := 15) rfl)) (hw _ (List.mem_of_getElem? (i := 16) rfl)) (hw _ (List.mem_of_getElem? (i := 18) rfl)) (hw _ (List.mem_of_getElem? (i := 17) rfl)) (hw _ (List.mem_of_getElem? (i := 19) rfl)) (hw _ (List.mem_of_getElem? (i := 2) rfl)) (by decide) e136 EA (argsL := [(.int ip), (.double z0)]) (rest := []) (W := 0) (rm_addU l Z a0 hw a bs bi (0 : Int32) ip kp z0 w0.toInt (fun _ => 0) [] _ _ T136.heap n0 Z0 EA FS FI FN VS VI OwnRep.start hkp (by omega) D_z0 bw0 (by decide) (by decide) ge_a gs gi n1 n2 n3) rfl (by decide) (by decide) (by decide) (by decide) (g := (mkF m 155 #[SI y0, SI y1, SI y2, SI y3, SI y4, SI y5, SI ia, SI ib, SI ic, SI ip, SD z0, S2, SD z1, S2, SD z2, S2, SD z3, S2, SI f0, SI 3, SI 1, SI 1, SI 1, SA a, SU, SU, SU, SU] [(.double z0), (.int ip), (.ref a)])) rfl (by rw [hml]; rfl) (lenOf pd3 rfl) rfl (by show 2 * 0 + _ ≤ _; exact Nat.le_of_eq rfl) (hb hby at_155)
        obtain ⟨rq, b2, nq, xc, yc, rfl, -, FS, FI, FN, VS, VI, hR, hl2, hpr, g2, n4, n5, K201, NL201⟩ := hQ201
        have N0 := Fr.app N0 NL201
        have e201 : T201.heap = T201.heap := rfl
        have EA := EA.keep K201
        have Z0 := Nat.le_trans Z0 K201.1
        refine Goes.by (T' := T201) (g' := (mkF m 158 #[SI y0, SI y1, SI y2, SI y3, SI y4, SI y5, SI ia, SI ib, SI ic, SI ip, SD z0, S2, SD z1, S2, SD z2, S2, SD z3, S2, SI f0, SI 3, SI 1, SI 1, SI 1, SA a, SU, SU, SU, SU] [(.double rq)])) st201 ?_
        rw [if_pos rfl] at hR
        obtain rfl : nq = (1 : Int32) := Int32.toInt_inj.mp (by rw [hR.2.2.2.2.1]; rfl)
        refine Goes.by (T' := T201) (g' := (mkF m 159 #[SI y0, SI y1, SI y2, SI y3, SI y4, SI y5, SI ia, SI ib, SI ic, SI ip, SD z0, S2, SD z1, S2, SD z2, S2, SD z3, S2, SI f0, SI 3, SI 1, SI 1, SI 1, SA a, SU, SU, SU, SU] [])) (fun _ k => XS.pop2W X201.here hx rfl (hb hby at_158) rfl rfl k) ?_
        refine Goes.by (T' := T201) (g' := (mkF m 161 #[SI y0, SI y1, SI y2, SI y3, SI y4, SI y5, SI ia, SI ib, SI ic, SI ip, SD z0, S2, SD z1, S2, SD z2, S2, SD z3, S2, SI f0, SI 3, SI 1, SI 1, SI 1, SA a, SU, SU, SU, SU] [(.ref a)])) (fun _ k => XS.aload X201.here hx rfl (hb hby at_159) rfl rfl k) ?_
        obtain ⟨v202, T202, L202, X202, hQ202, st202⟩ := callV X201 hx hZ (y := (⟨"com/example/gibbon/gibbon/analysis/SparseSum", "clear", "()V"⟩ : MethodName)) hown (hw _ (List.mem_of_getElem? (i := 22) rfl)) (hw _ (List.mem_of_getElem? (i := 23) rfl)) (hw _ (List.mem_of_getElem? (i := 25) rfl)) (hw _ (List.mem_of_getElem? (i := 24) rfl)) (hw _ (List.mem_of_getElem? (i := 26) rfl)) (hw _ (List.mem_of_getElem? (i := 2) rfl)) (by decide) e201 EA (argsL := []) (rest := []) (W := 0) (rm_clear l Z a0 hw a b2 bi kp w0.toInt xc yc T201.heap n0 Z0 EA FS FI FN VS VI hR ge_a g2 gi n4 n2 n5) rfl (by decide) (by decide) (by decide) (by decide) (g := (mkF m 161 #[SI y0, SI y1, SI y2, SI y3, SI y4, SI y5, SI ia, SI ib, SI ic, SI ip, SD z0, S2, SD z1, S2, SD z2, S2, SD z3, S2, SI f0, SI 3, SI 1, SI 1, SI 1, SA a, SU, SU, SU, SU] [(.ref a)])) rfl (by rw [hml]; rfl) (lenOf pd2 rfl) rfl (by show 2 * 0 + _ ≤ _; exact Nat.le_of_eq rfl) (hb hby at_161)
        obtain ⟨rfl, -, FS, FI, FN, VS, VI, hR2, K202, NL202⟩ := hQ202
        have N0 := Fr.app N0 NL202
        have e202 : T202.heap = T202.heap := rfl
        have EA := EA.keep K202
        have Z0 := Nat.le_trans Z0 K202.1
        refine Goes.by (T' := T202) (g' := (mkF m 164 #[SI y0, SI y1, SI y2, SI y3, SI y4, SI y5, SI ia, SI ib, SI ic, SI ip, SD z0, S2, SD z1, S2, SD z2, S2, SD z3, S2, SI f0, SI 3, SI 1, SI 1, SI 1, SA a, SU, SU, SU, SU] [])) st202 ?_
        have hlen2 := hR.1
        exact restN b2 _ _ _ _ _ _ _ _ _ _ _ _ _ _ _ _ (X202.wide (fun x hx _ => hx) (by decide) (by decide)) e202 N0 Z0 EA FS FI FN VS VI hR2 g2 n4 n5 (by rw [List.length_set]; omega)
set_option maxRecDepth 65536 in
set_option maxHeartbeats 40000000 in
theorem comes_1 {Post : Tables → Env → Array Value → State → Outcome → State → Prop} (hpost : ∀ tb e args s v u, (limb_1_1.after args s (.returned v) u = true ∧ limb_1_2.after args s (.returned v) u = true ∧ True) → FrameEnd s (.returned v) u (Jvm.fieldLocs frame_1_writes args s ++ Jvm.arrayLocs frame_1_arrays args s ++ Jvm.staticLocs frame_1_statics s) 24 640 → Post tb e args s (.returned v) u) :
    ArmFor flags0 classFile x code maxLocals ret World_1 tables_1 room_1 Calls_1 rest_1 Pre_1 Post := by
  intro l hfl _ _ p e ha hc hk s m args below hf hA hF happ hP
  obtain ⟨hcalls, hrest, hpre⟩ := hP
  obtain ⟨-, -, -, hnamed, -, -, -, hat⟩ := (Spec.applies_iff hf).mp happ
  obtain ⟨hg, hn⟩ := and_e (Cond.before_iff.mp (show (Jvm.Cond.and given_1 narrow_1).before args s = true from hpre))
  obtain ⟨g0, t0⟩ := and_e hg
  obtain ⟨g1, t1⟩ := and_e t0
  obtain ⟨g2, t2⟩ := and_e t1
  obtain ⟨g3, t3⟩ := and_e t2
  obtain ⟨g4, t4⟩ := and_e t3
  obtain ⟨g5, t5⟩ := and_e t4
  obtain ⟨w0, w1, w2, w3, w4, w5, rfl⟩ : ∃ w0 w1 w2 w3 w4 w5 : Value, args = #[w0, w1, w2, w3, w4, w5] := by
    have hs : args.size = 6 := by simpa [Cond.value, given_1] using g0
    obtain ⟨L⟩ := args
    match L, hs with
    | [w0, w1, w2, w3, w4, w5], _ => exact ⟨w0, w1, w2, w3, w4, w5, rfl⟩
  have hw := fun d (hd : d ∈ tables_1) => atoms_spec (ws := Jvm.Cond.code x code maxLocals ret :: tables_1) hat d (List.mem_cons_of_mem _ hd)
  obtain ⟨i0, e0⟩ := is_v g1
  obtain rfl : w0 = (.int i0) := Option.some.inj e0
  obtain ⟨i1, e1⟩ := is_v g2
  obtain rfl : w1 = (.int i1) := Option.some.inj e1
  obtain ⟨i2, e2⟩ := is_v g3
  obtain rfl : w2 = (.int i2) := Option.some.inj e2
  obtain ⟨i3, e3⟩ := is_v g4
  obtain rfl : w3 = (.int i3) := Option.some.inj e3
  obtain ⟨i4, e4⟩ := is_v g5
  obtain rfl : w4 = (.int i4) := Option.some.inj e4
  obtain ⟨i5, e5⟩ := is_v t5
  obtain rfl : w5 = (.int i5) := Option.some.inj e5
  obtain ⟨n, o, h1, h2, h3, _, L, rfl, ⟨rfl, N⟩, hq⟩ := rm_law l s _ hw i0 i1 i2 i3 i4 i5 s.heap s.heap.size (Nat.le_refl _)  p e ha hc hk s m _ below hf ((Spec.applies_iff_loose hf).mp happ).1 ⟨rfl, State.Warmed39.refl s, rfl⟩ trivial
  refine ⟨n, _, h1, h2, h3, hpost _ _ _ _ _ _ ⟨Cond.after_iff.mpr rfl, Cond.after_iff.mpr (eq_i res_at (Term.int_eval (1)) rfl), trivial⟩ ⟨hq.1, hq.2.1, (hq.2.2.sift fun y hy => Or.inr (N y hy)).mono (by decide) (by decide)⟩⟩
theorem main_1_1 : Claimed_1_1 := comes_1 fun _ _ _ _ _ _ h hF => ⟨h.1, hF⟩
theorem main_1_2 : Claimed_1_2 := comes_1 fun _ _ _ _ _ _ h hF => ⟨h.2.1, hF⟩
end Jvm.Pilot.@@N@@
namespace Jvm.Pilot.@@N@@
open Jvm Jvm.ClassFile Sem Op Lib Jvm.Free Jvm.Stand Jvm.Pilot.@@N@@.Jvm.D
/-! MADE BY PROGRAM (witnessworld.py) out of the Statement's table words and the real class files: 12 classes; the members and pool entries that the words name. The judged class is class 1, her method 1. -/
namespace start1
open Jvm.ClassFile
def u (s : String) : CpInfo := .utf8 (stringToUtf16 s)
/-- a pool by its gaps: so many unusable entries, then the entry; so many at the end -/
def gap : Nat → List CpInfo → List CpInfo
  | 0, r => r
  | n + 1, r => .unusable :: gap n r
def poolList (es : List (Nat × CpInfo)) (last : Nat) : List CpInfo := es.foldr (fun e r => gap e.1 (e.2 :: r)) (gap last [])
def pool (es : List (Nat × CpInfo)) (last : Nat) : Array CpInfo := ⟨poolList es last⟩
def fileOf (pool : Array CpInfo) (this : Nat) (attrs : Array Attribute := #[]) (ms : Array MethodInfo := #[]) (fl : Nat := 33) (sup : Nat := 0) (ifs : Array Nat := #[]) (fds : Array FieldInfo := #[]) : ClassFile where
  minorVersion := 0
  majorVersion := 65
  constantPool := pool
  accessFlags := fl
  thisClass := this
  superClass := sup
  interfaces := ifs
  fields := fds
  methods := ms
  attributes := attrs
def plain (name : String) (sup : Option ClassId) : Class where
  name := name
  kind := .ordinary
  loader := none
  accessFlags := 33
  super := sup
  interfaces := #[]
  cf := none
  fields := #[]
  methods := #[]
  instanceTypes := #[]
  staticTypes := #[]
  resolved := #[]
  callSites := []
  init := .initialized
  statics := none
  mirror := none

def pool0 : Array CpInfo := pool [(5, u "<init>"), (0, u "()V"), (1, .class_ 10), (1, u "java/lang/Object")] 113

def k0c0 : Code := { maxStack := 0, maxLocals := 1, code := object_method_1_code, exceptionTable := #[], attributes := #[] }
def k0m0 : Method := { name := "<init>", desc := "()V", sig := { parameters := [], returnType := none }, accessFlags := 1, code := some k0c0 }
/-- java/lang/Object -/
def k0 : Class := { plain "java/lang/Object" none with
  accessFlags := 33
  interfaces := #[]
  cf := some (fileOf pool0 8 #[] #[{ accessFlags := 1, nameIndex := 5, descriptorIndex := 6, attributes := #[] }] 33 0 #[] #[])
  fields := #[]
  methods := #[k0m0]
  instanceTypes := #[]
  staticTypes := #[]
  resolved := Array.replicate 124 none
  statics := none }

def pool1 : Array CpInfo := pool [(2, .class_ 4), (0, .nameAndType 5 6), (0, u "java/lang/Object"), (0, u "<init>"), (0, u "()V"), (0, .class_ 8), (0, u "com/example/gibbon/gibbon/analysis/SparseSum"), (0, .methodref 7 3), (0, .methodref 7 11), (0, .nameAndType 12 13), (0, u "add"), (0, u "(ID)D"), (0, .methodref 7 15), (0, .nameAndType 16 6), (0, u "clear"), (0, .methodref 7 18), (0, .nameAndType 19 20), (0, u "sums"), (0, u "()[D"), (0, .double 13830554455654793216), (1, .class_ 24), (0, u "com/example/gibbon/gibbon/analysis/SparseSumSumsPinLaw"), (2, u "law"), (0, u "(IIIIII)Z")] 5

def k1m0 : Method := { name := "<init>", desc := "()V", sig := { parameters := [], returnType := none }, accessFlags := 1, code := none }
def k1c1 : Code := { maxStack := 4, maxLocals := 28, code := code, exceptionTable := #[], attributes := #[] }
def k1m1 : Method := { name := "law", desc := "(IIIIII)Z", sig := { parameters := [.int, .int, .int, .int, .int, .int], returnType := some .boolean }, accessFlags := 9, code := some k1c1 }
/-- com/example/gibbon/gibbon/analysis/SparseSumSumsPinLaw -/
def k1 : Class := { plain "com/example/gibbon/gibbon/analysis/SparseSumSumsPinLaw" (some 0) with
  accessFlags := 49
  interfaces := #[]
  cf := some (fileOf pool1 23 #[] #[{ accessFlags := 1, nameIndex := 5, descriptorIndex := 6, attributes := #[] }, { accessFlags := 9, nameIndex := 27, descriptorIndex := 28, attributes := #[] }] 49 2 #[] #[])
  fields := #[]
  methods := #[k1m0, k1m1]
  instanceTypes := #[]
  staticTypes := #[]
  resolved := Array.replicate 34 none
  statics := none }

def pool2 : Array CpInfo := pool [(1, .methodref 2 3), (0, .class_ 4), (0, .nameAndType 5 6), (0, u "java/lang/Object"), (0, u "<init>"), (0, u "()V"), (0, .fieldref 8 9), (0, .class_ 10), (0, .nameAndType 11 12), (0, u "com/example/gibbon/gibbon/analysis/SparseSum"), (0, u "sums"), (0, u "[D"), (0, .fieldref 8 14), (0, .nameAndType 15 16), (0, u "indices"), (0, u "[I"), (0, .methodref 18 19), (0, .class_ 20), (0, .nameAndType 21 22), (0, u "java/lang/Math"), (0, u "max"), (0, u "(II)I"), (0, .methodref 24 25), (0, .class_ 26), (0, .nameAndType 27 28), (0, u "java/util/Arrays"), (0, u "copyOf"), (0, u "([DI)[D"), (0, .fieldref 8 30), (0, .nameAndType 31 32), (0, u "size"), (0, u "I"), (5, u "add"), (0, u "(ID)D"), (7, u "()[D"), (1, u "clear")] 2

def k2c0 : Code := { maxStack := 2, maxLocals := 1, code := prog_36_method_1_code, exceptionTable := #[], attributes := #[] }
def k2m0 : Method := { name := "<init>", desc := "()V", sig := { parameters := [], returnType := none }, accessFlags := 0, code := some k2c0 }
def k2c1 : Code := { maxStack := 6, maxLocals := 4, code := prog_36_method_2_code, exceptionTable := #[], attributes := #[] }
def k2m1 : Method := { name := "add", desc := "(ID)D", sig := { parameters := [.int, .double], returnType := some .double }, accessFlags := 0, code := some k2c1 }
def k2c2 : Code := { maxStack := 5, maxLocals := 3, code := prog_36_method_7_code, exceptionTable := #[], attributes := #[] }
def k2m2 : Method := { name := "sums", desc := "()[D", sig := { parameters := [], returnType := some (.array .double) }, accessFlags := 0, code := some k2c2 }
def k2c3 : Code := { maxStack := 4, maxLocals := 2, code := prog_36_method_8_code, exceptionTable := #[], attributes := #[] }
def k2m3 : Method := { name := "clear", desc := "()V", sig := { parameters := [], returnType := none }, accessFlags := 0, code := some k2c3 }
/-- com/example/gibbon/gibbon/analysis/SparseSum -/
def k2 : Class := { plain "com/example/gibbon/gibbon/analysis/SparseSum" (some 0) with
  accessFlags := 48
  interfaces := #[]
  cf := some (fileOf pool2 8 #[] #[{ accessFlags := 0, nameIndex := 5, descriptorIndex := 6, attributes := #[] }, { accessFlags := 0, nameIndex := 38, descriptorIndex := 39, attributes := #[] }, { accessFlags := 0, nameIndex := 11, descriptorIndex := 47, attributes := #[] }, { accessFlags := 0, nameIndex := 49, descriptorIndex := 6, attributes := #[] }] 48 2 #[] #[{ accessFlags := 2, nameIndex := 11, descriptorIndex := 12, attributes := #[] }, { accessFlags := 2, nameIndex := 15, descriptorIndex := 16, attributes := #[] }, { accessFlags := 2, nameIndex := 31, descriptorIndex := 32, attributes := #[] }])
  fields := #[{ name := "sums", type := (.array .double), accessFlags := 2, slot := 0, constantValue := 0 }, { name := "indices", type := (.array .int), accessFlags := 2, slot := 1, constantValue := 0 }, { name := "size", type := .int, accessFlags := 2, slot := 2, constantValue := 0 }]
  methods := #[k2m0, k2m1, k2m2, k2m3]
  instanceTypes := #[(.array .double), (.array .int), .int]
  staticTypes := #[]
  resolved := Array.replicate 52 none
  statics := none }

def pool3 : Array CpInfo := pool [(1, .class_ 2), (0, u "java/lang/Math"), (1, .class_ 6), (1, u "java/lang/Object"), (0, u "<init>"), (0, u "()V"), (89, .class_ 100), (1, u "java/lang/Math$RandomNumberGeneratorHolder"), (71, u "negativeZeroFloatBits"), (0, u "J"), (2, u "negativeZeroDoubleBits"), (21, u "max"), (2, u "min"), (43, u "$assertionsDisabled"), (0, u "Z"), (88, u "(II)I"), (2, u "twoToTheDoubleScaleDown"), (0, u "D"), (4, u "twoToTheDoubleScaleUp"), (9, u "E"), (3, u "PI"), (2, u "TAU"), (2, u "DEGREES_TO_RADIANS"), (0, u "RADIANS_TO_DEGREES")] 94

def k3m0 : Method := { name := "<init>", desc := "()V", sig := { parameters := [], returnType := none }, accessFlags := 2, code := none }
def k3c1 : Code := { maxStack := 2, maxLocals := 2, code := jdk_29_method_65_code, exceptionTable := #[], attributes := #[] }
def k3m1 : Method := { name := "max", desc := "(II)I", sig := { parameters := [.int, .int], returnType := some .int }, accessFlags := 9, code := some k3c1 }
def k3c2 : Code := { maxStack := 2, maxLocals := 2, code := jdk_29_method_69_code, exceptionTable := #[], attributes := #[] }
def k3m2 : Method := { name := "min", desc := "(II)I", sig := { parameters := [.int, .int], returnType := some .int }, accessFlags := 9, code := some k3c2 }
/-- java/lang/Math -/
def k3 : Class := { plain "java/lang/Math" (some 0) with
  accessFlags := 49
  interfaces := #[]
  cf := some (fileOf pool3 1 #[.nestMembers #[98]] #[{ accessFlags := 2, nameIndex := 7, descriptorIndex := 8, attributes := #[] }, { accessFlags := 9, nameIndex := 198, descriptorIndex := 335, attributes := #[] }, { accessFlags := 9, nameIndex := 201, descriptorIndex := 335, attributes := #[] }] 49 4 #[] #[{ accessFlags := 25, nameIndex := 354, descriptorIndex := 339, attributes := #[] }, { accessFlags := 25, nameIndex := 358, descriptorIndex := 339, attributes := #[] }, { accessFlags := 25, nameIndex := 361, descriptorIndex := 339, attributes := #[] }, { accessFlags := 26, nameIndex := 364, descriptorIndex := 339, attributes := #[] }, { accessFlags := 26, nameIndex := 365, descriptorIndex := 339, attributes := #[] }, { accessFlags := 26, nameIndex := 172, descriptorIndex := 173, attributes := #[] }, { accessFlags := 26, nameIndex := 176, descriptorIndex := 173, attributes := #[] }, { accessFlags := 8, nameIndex := 344, descriptorIndex := 339, attributes := #[] }, { accessFlags := 8, nameIndex := 338, descriptorIndex := 339, attributes := #[] }, { accessFlags := 4120, nameIndex := 245, descriptorIndex := 246, attributes := #[] }])
  fields := #[{ name := "E", type := .double, accessFlags := 25, slot := 0, constantValue := 0 }, { name := "PI", type := .double, accessFlags := 25, slot := 1, constantValue := 0 }, { name := "TAU", type := .double, accessFlags := 25, slot := 2, constantValue := 0 }, { name := "DEGREES_TO_RADIANS", type := .double, accessFlags := 26, slot := 3, constantValue := 0 }, { name := "RADIANS_TO_DEGREES", type := .double, accessFlags := 26, slot := 4, constantValue := 0 }, { name := "negativeZeroFloatBits", type := .long, accessFlags := 26, slot := 5, constantValue := 0 }, { name := "negativeZeroDoubleBits", type := .long, accessFlags := 26, slot := 6, constantValue := 0 }, { name := "twoToTheDoubleScaleUp", type := .double, accessFlags := 8, slot := 7, constantValue := 0 }, { name := "twoToTheDoubleScaleDown", type := .double, accessFlags := 8, slot := 8, constantValue := 0 }, { name := "$assertionsDisabled", type := .boolean, accessFlags := 4120, slot := 9, constantValue := 0 }]
  methods := #[k3m0, k3m1, k3m2]
  instanceTypes := #[]
  staticTypes := #[.double, .double, .double, .double, .double, .long, .long, .double, .double, .boolean]
  resolved := Array.replicate 460 none
  statics := none }

def pool4 : Array CpInfo := pool [(2, .class_ 4), (1, u "java/lang/Object"), (0, u "<init>"), (0, u "()V"), (7, .class_ 16), (1, u "java/util/Arrays"), (57, .class_ 76), (1, u "java/util/Arrays$NaturalOrder"), (36, .class_ 115), (1, u "java/util/Arrays$LegacyMergeSort"), (1, u "Z"), (32, .methodref 151 152), (0, .class_ 153), (0, .nameAndType 154 155), (0, u "java/lang/System"), (0, u "arraycopy"), (0, u "(Ljava/lang/Object;ILjava/lang/Object;II)V"), (146, u "copyOf"), (1, .methodref 305 306), (0, .class_ 307), (0, .nameAndType 308 309), (0, u "java/lang/Math"), (0, u "min"), (0, u "(II)I"), (65, .class_ 376), (0, u "java/util/Arrays$ArrayList"), (68, u "$assertionsDisabled"), (269, u "MIN_ARRAY_SORT_GRAN"), (0, u "I"), (2, u "INSERTIONSORT_THRESHOLD"), (155, u "([DI)[D"), (99, .class_ 976), (0, u "java/util/Arrays$ArrayItr")] 52

def k4m0 : Method := { name := "<init>", desc := "()V", sig := { parameters := [], returnType := none }, accessFlags := 2, code := none }
def k4c1 : Code := { maxStack := 6, maxLocals := 3, code := jdk_65_method_127_code, exceptionTable := #[], attributes := #[] }
def k4m1 : Method := { name := "copyOf", desc := "([DI)[D", sig := { parameters := [(.array .double), .int], returnType := some (.array .double) }, accessFlags := 9, code := some k4c1 }
/-- java/util/Arrays -/
def k4 : Class := { plain "java/util/Arrays" (some 0) with
  accessFlags := 49
  interfaces := #[]
  cf := some (fileOf pool4 14 #[.nestMembers #[975, 375, 113, 74]] #[{ accessFlags := 2, nameIndex := 5, descriptorIndex := 6, attributes := #[] }, { accessFlags := 9, nameIndex := 302, descriptorIndex := 875, attributes := #[] }] 49 2 #[] #[{ accessFlags := 26, nameIndex := 715, descriptorIndex := 716, attributes := #[] }, { accessFlags := 26, nameIndex := 719, descriptorIndex := 716, attributes := #[] }, { accessFlags := 4120, nameIndex := 445, descriptorIndex := 117, attributes := #[] }])
  fields := #[{ name := "MIN_ARRAY_SORT_GRAN", type := .int, accessFlags := 26, slot := 0, constantValue := 0 }, { name := "INSERTIONSORT_THRESHOLD", type := .int, accessFlags := 26, slot := 1, constantValue := 0 }, { name := "$assertionsDisabled", type := .boolean, accessFlags := 4120, slot := 2, constantValue := 0 }]
  methods := #[k4m0, k4m1]
  instanceTypes := #[]
  staticTypes := #[.int, .int, .boolean]
  resolved := Array.replicate 1029 none
  statics := none }

def pool5 : Array CpInfo := pool [(2, .class_ 4), (1, u "java/lang/Object"), (0, u "<init>"), (0, u "()V"), (1, .class_ 10), (1, u "java/lang/System"), (0, u "allowSecurityManager"), (0, u "I"), (16, u "cons"), (0, u "Ljava/io/Console;"), (77, .class_ 110), (1, u "java/lang/System$CallersHolder"), (43, u "initialErrStream"), (0, u "Ljava/io/PrintStream;"), (19, u "security"), (0, u "Ljava/lang/SecurityManager;"), (31, .class_ 209), (0, u "java/lang/System$1"), (7, u "props"), (0, u "Ljava/util/Properties;"), (2, u "lineSeparator"), (0, u "Ljava/lang/String;"), (96, .class_ 321), (1, u "java/lang/System$LoggerFinder"), (5, .class_ 328), (0, u "java/lang/System$Logger"), (67, u "err"), (2, u "out"), (91, u "notSupportedJnuEncoding"), (15, u "in"), (17, u "initialIn"), (0, u "Ljava/io/InputStream;"), (35, u "bootLayer"), (0, u "Ljava/lang/ModuleLayer;"), (99, .class_ 664), (0, u "java/lang/System$2"), (9, u "NEVER"), (2, u "MAYBE"), (49, u "arraycopy"), (0, u "(Ljava/lang/Object;ILjava/lang/Object;II)V"), (72, .class_ 802), (0, u "java/lang/System$Logger$Level")] 31

def k5m0 : Method := { name := "<init>", desc := "()V", sig := { parameters := [], returnType := none }, accessFlags := 2, code := none }
def k5m1 : Method := { name := "arraycopy", desc := "(Ljava/lang/Object;ILjava/lang/Object;II)V", sig := { parameters := [(.object "java/lang/Object"), .int, (.object "java/lang/Object"), .int, .int], returnType := none }, accessFlags := 265, code := none }
/-- java/lang/System -/
def k5 : Class := { plain "java/lang/System" (some 0) with
  accessFlags := 49
  interfaces := #[]
  cf := some (fileOf pool5 8 #[.nestMembers #[319, 327, 801, 108, 663, 208]] #[{ accessFlags := 2, nameIndex := 5, descriptorIndex := 6, attributes := #[] }, { accessFlags := 265, nameIndex := 727, descriptorIndex := 728, attributes := #[] }] 49 2 #[] #[{ accessFlags := 25, nameIndex := 507, descriptorIndex := 526, attributes := #[] }, { accessFlags := 25, nameIndex := 399, descriptorIndex := 155, attributes := #[] }, { accessFlags := 25, nameIndex := 396, descriptorIndex := 155, attributes := #[] }, { accessFlags := 10, nameIndex := 525, descriptorIndex := 526, attributes := #[] }, { accessFlags := 26, nameIndex := 674, descriptorIndex := 12, attributes := #[] }, { accessFlags := 26, nameIndex := 677, descriptorIndex := 12, attributes := #[] }, { accessFlags := 10, nameIndex := 11, descriptorIndex := 12, attributes := #[] }, { accessFlags := 74, nameIndex := 175, descriptorIndex := 176, attributes := #[] }, { accessFlags := 10, nameIndex := 491, descriptorIndex := 222, attributes := #[] }, { accessFlags := 74, nameIndex := 29, descriptorIndex := 30, attributes := #[] }, { accessFlags := 74, nameIndex := 154, descriptorIndex := 155, attributes := #[] }, { accessFlags := 10, nameIndex := 217, descriptorIndex := 218, attributes := #[] }, { accessFlags := 10, nameIndex := 221, descriptorIndex := 222, attributes := #[] }, { accessFlags := 8, nameIndex := 562, descriptorIndex := 563, attributes := #[] }])
  fields := #[{ name := "in", type := (.object "java/io/InputStream"), accessFlags := 25, slot := 0, constantValue := 0 }, { name := "out", type := (.object "java/io/PrintStream"), accessFlags := 25, slot := 1, constantValue := 0 }, { name := "err", type := (.object "java/io/PrintStream"), accessFlags := 25, slot := 2, constantValue := 0 }, { name := "initialIn", type := (.object "java/io/InputStream"), accessFlags := 10, slot := 3, constantValue := 0 }, { name := "NEVER", type := .int, accessFlags := 26, slot := 4, constantValue := 0 }, { name := "MAYBE", type := .int, accessFlags := 26, slot := 5, constantValue := 0 }, { name := "allowSecurityManager", type := .int, accessFlags := 10, slot := 6, constantValue := 0 }, { name := "security", type := (.object "java/lang/SecurityManager"), accessFlags := 74, slot := 7, constantValue := 0 }, { name := "notSupportedJnuEncoding", type := (.object "java/lang/String"), accessFlags := 10, slot := 8, constantValue := 0 }, { name := "cons", type := (.object "java/io/Console"), accessFlags := 74, slot := 9, constantValue := 0 }, { name := "initialErrStream", type := (.object "java/io/PrintStream"), accessFlags := 74, slot := 10, constantValue := 0 }, { name := "props", type := (.object "java/util/Properties"), accessFlags := 10, slot := 11, constantValue := 0 }, { name := "lineSeparator", type := (.object "java/lang/String"), accessFlags := 10, slot := 12, constantValue := 0 }, { name := "bootLayer", type := (.object "java/lang/ModuleLayer"), accessFlags := 8, slot := 13, constantValue := 0 }]
  methods := #[k5m0, k5m1]
  instanceTypes := #[]
  staticTypes := #[(.object "java/io/InputStream"), (.object "java/io/PrintStream"), (.object "java/io/PrintStream"), (.object "java/io/InputStream"), .int, .int, .int, (.object "java/lang/SecurityManager"), (.object "java/lang/String"), (.object "java/io/Console"), (.object "java/io/PrintStream"), (.object "java/util/Properties"), (.object "java/lang/String"), (.object "java/lang/ModuleLayer")]
  resolved := Array.replicate 834 none
  statics := none }

def pool6 : Array CpInfo := pool [(1, u "java/lang/Cloneable"), (0, .class_ 1), (0, u "java/lang/Object"), (0, .class_ 3)] 3

/-- java/lang/Cloneable -/
def k6 : Class := { plain "java/lang/Cloneable" (some 0) with
  accessFlags := 1537
  interfaces := #[]
  cf := some (fileOf pool6 2 #[] #[] 1537 4 #[] #[])
  fields := #[]
  methods := #[]
  instanceTypes := #[]
  staticTypes := #[]
  resolved := Array.replicate 8 none
  statics := none }

def pool7 : Array CpInfo := pool [(1, u "java/io/Serializable"), (0, .class_ 1), (0, u "java/lang/Object"), (0, .class_ 3)] 3

/-- java/io/Serializable -/
def k7 : Class := { plain "java/io/Serializable" (some 0) with
  accessFlags := 1537
  interfaces := #[]
  cf := some (fileOf pool7 2 #[] #[] 1537 4 #[] #[])
  fields := #[]
  methods := #[]
  instanceTypes := #[]
  staticTypes := #[]
  resolved := Array.replicate 8 none
  statics := none }

/-- the primitive byte -/
def k8 : Class := { plain "byte" none with kind := .primitive 'B', accessFlags := 0x411 }
/-- [B -/
def k9 : Class := { plain "[B" (some 0) with kind := .array 8 .byte, interfaces := #[6, 7], accessFlags := 1041 }

/-- the primitive int -/
def k10 : Class := { plain "int" none with kind := .primitive 'I', accessFlags := 0x411 }
/-- [I -/
def k11 : Class := { plain "[I" (some 0) with kind := .array 10 .int, interfaces := #[6, 7], accessFlags := 1041 }

/-- the primitive double -/
def k12 : Class := { plain "double" none with kind := .primitive 'D', accessFlags := 0x411 }
/-- [D -/
def k13 : Class := { plain "[D" (some 0) with kind := .array 12 .double, interfaces := #[6, 7], accessFlags := 1041 }
def heap : Heap := #[]
def classes : Array Class := #[k0, k1, k2, k3, k4, k5, k6, k7, k8, k9, k10, k11, k12, k13]
def interned : List (Array UInt16 × Addr) := []
def slotsUsed : Nat := 0
def theMethod : MethodId := ⟨1, 1⟩
def args0 : Array Value := #[.int 5, .int 5, .int 5, .int 5, .int 5, .int 5]
def aboutOver (below : List Frame) : State where
  vm := { classes := classes, interned := interned.toArray }
  heap := heap
  slotsUsed := slotsUsed
  threads := #[{ frames := .invoking theMethod args0 :: below }]
def below0 : List Frame := [.native { method := ⟨0, 0⟩, args := #[] }]
def about1 : State := aboutOver below0
def p0 : Program := .bare "" "" ""
def e0 : Env := launch0.env 0 0 0
theorem w_frames : about1.frames = Frame.invoking theMethod args0 :: below0 := rfl
set_option maxRecDepth 65536 in
theorem w_args : argsFit about1.vm theMethod args0 = true := by decide +kernel
set_option maxRecDepth 65536 in
theorem w_heap : heapFits about1 = true := by decide +kernel
set_option maxRecDepth 65536 in
theorem w_runnable : about1.curStatus? = some .runnable := by decide +kernel
set_option maxRecDepth 65536 in
theorem w_alone : about1.alone = true := by decide +kernel
set_option maxRecDepth 65536 in
theorem w_named : about1.methodNamed? x = some theMethod := by decide +kernel
set_option maxRecDepth 65536 in
theorem w_hears : about1.hears theMethod below0 = true := by decide +kernel
set_option maxRecDepth 65536 in
theorem w_ripe : about1.ripe theMethod args0 below0 = true := by decide +kernel
theorem w_running : about1.status = .running := rfl
set_option maxRecDepth 65536 in
theorem w_room : about1.hasRoom e0.platform room_1 = true :=
  launch0.hasRoom_least _ room_1 (by decide +kernel) (by decide +kernel) (by decide +kernel) (by decide +kernel) (by decide +kernel) (by decide +kernel)
theorem allAtoms_all (ts : List Jvm.Cond) (a : Array Jvm.Value) (st : Jvm.State) : (allAtoms ts).before a st = ts.all (fun c => c.before a st) := by
  induction ts with
  | nil => rfl
  | cons c t ih =>
    show (Jvm.Cond.and c (allAtoms t)).before a st = _
    rw [Jvm.Cond.before_and, ih, List.all_cons]
def words1 : List Jvm.Cond := Jvm.Cond.code x code maxLocals ret :: tables_1
/-- a 'code' word, met by the world's own term for the bytes: nothing is compared byte by byte -/
theorem code_word {y : MethodName} {bytes : ByteArray} {mx : Nat} {rt : Option FieldType} {a : Array Value} {s : State} {m : MethodId} {meth : Method} {c : Code} (h1 : s.methodNamed? y = some m) (h2 : s.vm.method? m = some meth) (h3 : meth.code = some c) (h4 : c.code = bytes)
    (h5 : (c.maxLocals == mx && c.exceptionTable.isEmpty && decide (c.maxStack ≤ mostOperands) && decide (meth.sig.returnType = rt) && !meth.locks && decide (parseMethodDescriptor y.desc = some meth.sig)) = true) : (Jvm.Cond.code y bytes mx rt).before a s = true := by
  simp only [Bool.and_eq_true, beq_iff_eq, Bool.not_eq_true', decide_eq_true_eq] at h5
  obtain ⟨⟨⟨⟨⟨g1, g2⟩, g3⟩, g4⟩, g5⟩, g6⟩ := h5
  simp [Cond.before, Cond.holds, Cond.value, h1, h2, h3, h4, g1, g2, g3, g4, g5, g6]
def isCode : Jvm.Cond → Bool
  | .code _ _ _ _ => true
  | _ => false
theorem all_split {L : List Jvm.Cond} {P : Jvm.Cond → Bool} (h1 : L.all (fun c => isCode c || P c) = true) (h2 : ∀ c ∈ L.filter isCode, P c = true) : L.all P = true := by
  refine List.all_eq_true.mpr fun c hc => ?_
  have h := List.all_eq_true.mp h1 c hc
  rcases Bool.eq_false_or_eq_true (isCode c) with hi | hi
  · exact h2 c (List.mem_filter.mpr ⟨hc, hi⟩)
  · simpa [hi] using h
set_option maxRecDepth 65536 in
theorem w_c0 : (Jvm.Cond.code x code maxLocals ret).before args0 about1 = true := code_word (m := ⟨1, 1⟩) (meth := k1m1) (c := k1c1) (by decide +kernel) rfl rfl rfl (by decide +kernel)
set_option maxRecDepth 65536 in
theorem w_c1 : (Jvm.Cond.code ({ cls := "com/example/gibbon/gibbon/analysis/SparseSum", name := "<init>", desc := "()V" } : Jvm.MethodName) prog_36_method_1_code (1 : Nat) (Option.none : Option Jvm.ClassFile.FieldType)).before args0 about1 = true := code_word (m := ⟨2, 0⟩) (meth := k2m0) (c := k2c0) (by decide +kernel) rfl rfl rfl (by decide +kernel)
set_option maxRecDepth 65536 in
theorem w_c2 : (Jvm.Cond.code ({ cls := "java/lang/Object", name := "<init>", desc := "()V" } : Jvm.MethodName) object_method_1_code (1 : Nat) (Option.none : Option Jvm.ClassFile.FieldType)).before args0 about1 = true := code_word (m := ⟨0, 0⟩) (meth := k0m0) (c := k0c0) (by decide +kernel) rfl rfl rfl (by decide +kernel)
set_option maxRecDepth 65536 in
theorem w_c3 : (Jvm.Cond.code ({ cls := "com/example/gibbon/gibbon/analysis/SparseSum", name := "add", desc := "(ID)D" } : Jvm.MethodName) prog_36_method_2_code (4 : Nat) (Option.some Jvm.ClassFile.FieldType.double)).before args0 about1 = true := code_word (m := ⟨2, 1⟩) (meth := k2m1) (c := k2c1) (by decide +kernel) rfl rfl rfl (by decide +kernel)
set_option maxRecDepth 65536 in
theorem w_c4 : (Jvm.Cond.code ({ cls := "com/example/gibbon/gibbon/analysis/SparseSum", name := "clear", desc := "()V" } : Jvm.MethodName) prog_36_method_8_code (2 : Nat) (Option.none : Option Jvm.ClassFile.FieldType)).before args0 about1 = true := code_word (m := ⟨2, 3⟩) (meth := k2m3) (c := k2c3) (by decide +kernel) rfl rfl rfl (by decide +kernel)
set_option maxRecDepth 65536 in
theorem w_c5 : (Jvm.Cond.code ({ cls := "com/example/gibbon/gibbon/analysis/SparseSum", name := "sums", desc := "()[D" } : Jvm.MethodName) prog_36_method_7_code (3 : Nat) (Option.some (Jvm.ClassFile.FieldType.array Jvm.ClassFile.FieldType.double))).before args0 about1 = true := code_word (m := ⟨2, 2⟩) (meth := k2m2) (c := k2c2) (by decide +kernel) rfl rfl rfl (by decide +kernel)
set_option maxRecDepth 65536 in
theorem w_c6 : (Jvm.Cond.code ({ cls := "java/lang/Math", name := "max", desc := "(II)I" } : Jvm.MethodName) jdk_29_method_65_code (2 : Nat) (Option.some Jvm.ClassFile.FieldType.int)).before args0 about1 = true := code_word (m := ⟨3, 1⟩) (meth := k3m1) (c := k3c1) (by decide +kernel) rfl rfl rfl (by decide +kernel)
set_option maxRecDepth 65536 in
theorem w_c7 : (Jvm.Cond.code ({ cls := "java/util/Arrays", name := "copyOf", desc := "([DI)[D" } : Jvm.MethodName) jdk_65_method_127_code (3 : Nat) (Option.some (Jvm.ClassFile.FieldType.array Jvm.ClassFile.FieldType.double))).before args0 about1 = true := code_word (m := ⟨4, 1⟩) (meth := k4m1) (c := k4c1) (by decide +kernel) rfl rfl rfl (by decide +kernel)
set_option maxRecDepth 65536 in
theorem w_c8 : (Jvm.Cond.code ({ cls := "java/lang/Math", name := "min", desc := "(II)I" } : Jvm.MethodName) jdk_29_method_69_code (2 : Nat) (Option.some Jvm.ClassFile.FieldType.int)).before args0 about1 = true := code_word (m := ⟨3, 2⟩) (meth := k3m2) (c := k3c2) (by decide +kernel) rfl rfl rfl (by decide +kernel)
def codes1 : List Jvm.Cond := [Jvm.Cond.code x code maxLocals ret, Jvm.Cond.code ({ cls := "com/example/gibbon/gibbon/analysis/SparseSum", name := "<init>", desc := "()V" } : Jvm.MethodName) prog_36_method_1_code (1 : Nat) (Option.none : Option Jvm.ClassFile.FieldType), Jvm.Cond.code ({ cls := "java/lang/Object", name := "<init>", desc := "()V" } : Jvm.MethodName) object_method_1_code (1 : Nat) (Option.none : Option Jvm.ClassFile.FieldType), Jvm.Cond.code ({ cls := "com/example/gibbon/gibbon/analysis/SparseSum", name := "add", desc := "(ID)D" } : Jvm.MethodName) prog_36_method_2_code (4 : Nat) (Option.some Jvm.ClassFile.FieldType.double), Jvm.Cond.code ({ cls := "com/example/gibbon/gibbon/analysis/SparseSum", name := "clear", desc := "()V" } : Jvm.MethodName) prog_36_method_8_code (2 : Nat) (Option.none : Option Jvm.ClassFile.FieldType), Jvm.Cond.code ({ cls := "com/example/gibbon/gibbon/analysis/SparseSum", name := "sums", desc := "()[D" } : Jvm.MethodName) prog_36_method_7_code (3 : Nat) (Option.some (Jvm.ClassFile.FieldType.array Jvm.ClassFile.FieldType.double)), Jvm.Cond.code ({ cls := "java/lang/Math", name := "max", desc := "(II)I" } : Jvm.MethodName) jdk_29_method_65_code (2 : Nat) (Option.some Jvm.ClassFile.FieldType.int), Jvm.Cond.code ({ cls := "java/util/Arrays", name := "copyOf", desc := "([DI)[D" } : Jvm.MethodName) jdk_65_method_127_code (3 : Nat) (Option.some (Jvm.ClassFile.FieldType.array Jvm.ClassFile.FieldType.double)), Jvm.Cond.code ({ cls := "java/lang/Math", name := "min", desc := "(II)I" } : Jvm.MethodName) jdk_29_method_69_code (2 : Nat) (Option.some Jvm.ClassFile.FieldType.int)]
set_option maxRecDepth 65536 in
theorem codes_eq : words1.filter isCode = codes1 := rfl
theorem w_codes : ∀ c ∈ words1.filter isCode, c.before args0 about1 = true := by
  rw [codes_eq]
  intro c hc
  simp only [codes1, List.mem_cons, List.not_mem_nil, or_false] at hc
  rcases hc with rfl | rfl | rfl | rfl | rfl | rfl | rfl | rfl | rfl
  · exact w_c0
  · exact w_c1
  · exact w_c2
  · exact w_c3
  · exact w_c4
  · exact w_c5
  · exact w_c6
  · exact w_c7
  · exact w_c8
set_option maxRecDepth 65536 in
theorem w_t1 : (words1.take 24).all (fun c => isCode c || c.before args0 about1) = true := by decide +kernel
set_option maxRecDepth 65536 in
theorem w_t2 : ((words1.drop 24).take 24).all (fun c => isCode c || c.before args0 about1) = true := by decide +kernel
set_option maxRecDepth 65536 in
theorem w_t3 : ((words1.drop 24).drop 24).all (fun c => isCode c || c.before args0 about1) = true := by decide +kernel
theorem w_tables : (allAtoms (Jvm.Cond.code x code maxLocals ret :: tables_1)).before args0 about1 = true := by
  rw [allAtoms_all]
  show words1.all (fun c => c.before args0 about1) = true
  refine all_split ?_ w_codes
  rw [← List.take_append_drop 24 words1, List.all_append, w_t1, ← List.take_append_drop 24 (words1.drop 24), List.all_append, w_t2, w_t3]
  rfl
set_option maxRecDepth 65536 in
theorem w_case : (Jvm.Cond.and given_1 narrow_1).before args0 about1 = true := by decide +kernel
theorem w_applies : (headSpec (Jvm.Cond.code x code maxLocals ret :: tables_1) room_1).applies x e0.platform about1 = true :=
  (Spec.applies_iff w_frames).mpr ⟨w_running, w_runnable, w_alone, w_named, w_hears, w_ripe, w_room, w_tables⟩
theorem atStart : AtStart classFile x code maxLocals ret World_1 tables_1 room_1 Calls_1 rest_1 Pre_1 launch0 p0 e0 about1 theMethod args0 below0 :=
  ⟨lists_1, trivial, launch0.admits_env _ _ _, launch0.least_env, fairChoices_fair.cas, fairChoices_fair.clock, w_frames, w_args, w_heap, w_applies, trivial, trivial, w_case⟩
end start1
theorem witness_1 : WitnessClaimed_1 := ⟨start1.p0, start1.e0, start1.about1, start1.theMethod, start1.args0, start1.below0, start1.atStart⟩
end Jvm.Pilot.@@N@@
