import JvmDerived
import JvmDerived.Pilot.@@N@@Statement
import JvmDerived.Pilot.@@N@@Code
set_option linter.unusedVariables false
set_option linter.unusedSimpArgs false
namespace Jvm.RoadKit
open Sem ClassFile Op Lib Jvm.Stand Jvm.Free Jvm.LawKit
/-! own_: walks written forward: 'Goes P T g': from the frame g at T the run comes to a state that P takes. -/
def Goes (p : Program) (e : Env) (below : List Frame) (P : State → Prop) (T : State) (g : JFrame) : Prop := ∃ t, Steps p.tables e below (T.setTop g) t ∧ P t
/-- how a body ends: it returned v, and Q holds of v, the heap and the places written -/
def Fin1 (below : List Frame) (s : State) (rm : Room) (Q : Option Value → Heap → List Loc → Prop) (t : State) : Prop :=
  ∃ o, t.status = .running ∧ Ended t below o ∧ ∃ v L, o = .returned v ∧ Q v t.heap L ∧ FrameEnd s o t L rm.cells rm.slots
/-- a body's contract -/
def Does (l : Launch) (y : MethodName) (bytes : ByteArray) (maxL : Nat) (ret : Option FieldType) (ws : List Cond) (rm : Room) (Z : State) (as' : Array Value) (h : Heap) (Q : Option Value → Heap → List Loc → Prop) : Prop :=
  MetFree l y (head1 (Cond.code y bytes maxL ret :: ws) rm) (fun a U => a = as' ∧ Z.Warmed39 U.vm ∧ U.heap = h) (fun _ _ _ _ _ => True) (fun _ U o U' => ∃ v L, o = .returned v ∧ Q v U'.heap L ∧ FrameEnd U o U' L rm.cells rm.slots)
section Own
variable {p : Program} {l : Launch} {e : Env} {R : Room} {s : State} {m : MethodId} {args : Array Value} {below : List Frame} {meth : Method} {c : Code} {T T' : State} {locs : List Loc} {cells slots : Nat} {Z : State} {a0 : Array Value} {h h' : Heap} {g g' : JFrame} {P : State → Prop}
theorem Goes.by (st : ∀ target, Steps p.tables e below (T'.setTop g') target → Steps p.tables e below (T.setTop g) target) (k : Goes p e below P T' g') : Goes p e below P T g := by
  obtain ⟨t, h1, h2⟩ := k
  exact ⟨t, st _ h1, h2⟩
theorem Goes.cast (q : g = g') (k : Goes p e below P T g') : Goes p e below P T g := q ▸ k
theorem Does.of {y : MethodName} {bytes : ByteArray} {maxL : Nat} {ret : Option FieldType} {ws : List Cond} {rm : Room} {as' : Array Value} {Q : Option Value → Heap → List Loc → Prop} (hp : plainFor y = true)
    (body : ∀ (p : Program) (e : Env) (s : State) (m : MethodId) (below : List Frame) (meth : Method) (c : Code) (s₁ : State), p.tables.exec = Jvm.exec → c.code = bytes → c.maxLocals = maxL → meth.sig.returnType = ret → meth.locks = false → Z.Warmed39 s.vm → s.vm.findClass y.cls = some m.cls → meth.name = y.name → Stand p l e rm s m as' below meth c s₁ [] 0 0 → s₁.heap = h →
      Goes p e below (Fin1 below s rm Q) s₁ (entryFrame m as' maxL)) : Does l y bytes maxL ret ws rm Z as' h Q := by
  refine MetFree.of_bodySF hp hisR ?_
  intro p e s m args below meth c s₁ Bd hml0 hP hK
  obtain ⟨rfl, hZ, hh⟩ := hP
  have e0 : s₁.heap = h := by rw [← hh, Bd.state]; rfl
  obtain ⟨t, h1, o, h2⟩ := body p e s m below meth c s₁ Bd.exec Bd.bytes hml0 Bd.returns Bd.notSynchronized hZ (findClass_of_methodNamed Bd.named) ((name_of_methodNamed Bd.named Bd.method).1) (Stand.of_body Bd) e0
  exact ⟨t, o, h1, h2⟩
theorem fin_of {rm : Room} {Q : Option Value → Heap → List Loc → Prop} {v : Option Value} (X : Stand p l e R s m args below meth c T locs cells slots) (hlk : meth.locks = false) (hv : meth.sig.returnType = none → v = none) (hQ : Q v T.heap locs) (hc : cells ≤ rm.cells) (hs : slots ≤ rm.slots)
    (st : ∀ fs, (∀ (f : JFrame) (acts : List Action), f.method = m → f.locked = none → f.entered = [] → (doReturn e (T.setTop f) acts v).1 = T.setFrames fs) → Steps p.tables e below (T.setTop g) (T.setFrames fs)) : Goes p e below (Fin1 below s rm Q) T g := by
  obtain ⟨fs, hr, hrun, hended, hW, hsame⟩ := X.leave (v := v) hv hlk
  exact ⟨_, st fs hr, _, hrun, hended, _, _, rfl, hQ, ⟨_, rfl⟩, hW, hsame.mono hc hs⟩
theorem outV {rm : Room} {Q : Option Value → Heap → List Loc → Prop} {pc : Nat} {Ls : Array Slot} (X : Stand p l e R s m args below meth c T locs cells slots) (hx : p.tables.exec = Jvm.exec) (hlk : meth.locks = false) (hret : meth.sig.returnType = none) (hd : decode c.code pc = .ok (.return_, 1)) (hQ : Q none T.heap locs) (hc : cells ≤ rm.cells) (hs : slots ≤ rm.slots) : Goes p e below (Fin1 below s rm Q) T (mkF m pc Ls []) :=
  fin_of X hlk (fun _ => rfl) hQ hc hs fun fs hr => X.returnOut hx hret hd hr
theorem outZ {rm : Room} {Q : Option Value → Heap → List Loc → Prop} {pc : Nat} {Ls : Array Slot} {z : Int32} {rest : List Value} (X : Stand p l e R s m args below meth c T locs cells slots) (hx : p.tables.exec = Jvm.exec) (hlk : meth.locks = false) (hret : meth.sig.returnType = some .boolean) (hd : decode c.code pc = .ok (.ireturn, 1)) (hQ : Q (some (.int (nar .boolean z))) T.heap locs) (hc : cells ≤ rm.cells) (hs : slots ≤ rm.slots) : Goes p e below (Fin1 below s rm Q) T (mkF m pc Ls (.int z :: rest)) :=
  fin_of X hlk (fun h => by rw [hret] at h; cases h) hQ hc hs fun fs hr => retN X hx (t := .boolean) hret (by simp) hd hr
theorem outO {rm : Room} {Q : Option Value → Heap → List Loc → Prop} {pc : Nat} {Ls : Array Slot} {w : Value} {t : FieldType} {i : Instr} {rest : List Value} (X : Stand p l e R s m args below meth c T locs cells slots) (hx : p.tables.exec = Jvm.exec) (hlk : meth.locks = false) (hret : meth.sig.returnType = some t) (hn : narrow t w = w)
    (hi : (i = .ireturn ∧ (t = .int ∨ t = .boolean ∨ t = .byte ∨ t = .char ∨ t = .short) ∧ ∃ z, w = .int z) ∨ (i = .lreturn ∧ t = .long ∧ ∃ z, w = .long z) ∨ (i = .dreturn ∧ t = .double ∧ ∃ z, w = .double z) ∨ (i = .freturn ∧ t = .float ∧ ∃ z, w = .float z) ∨ (i = .areturn ∧ t.isReference = true ∧ w.isRef = true))
    (hd : decode c.code pc = .ok (i, 1)) (hQ : Q (some w) T.heap locs) (hc : cells ≤ rm.cells) (hs : slots ≤ rm.slots) : Goes p e below (Fin1 below s rm Q) T (mkF m pc Ls (w :: rest)) :=
  fin_of X hlk (fun h => by rw [hret] at h; cases h) hQ hc hs fun fs hr => retOut X hx hret hn hi hd hr
theorem outI {rm : Room} {Q : Option Value → Heap → List Loc → Prop} {pc : Nat} {Ls : Array Slot} {z : Int32} {rest : List Value} (X : Stand p l e R s m args below meth c T locs cells slots) (hx : p.tables.exec = Jvm.exec) (hlk : meth.locks = false) (hret : meth.sig.returnType = some .int) (hd : decode c.code pc = .ok (.ireturn, 1)) (hQ : Q (some (.int z)) T.heap locs) (hc : cells ≤ rm.cells) (hs : slots ≤ rm.slots) : Goes p e below (Fin1 below s rm Q) T (mkF m pc Ls (.int z :: rest)) :=
  outO X hx hlk hret rfl (Or.inl ⟨rfl, Or.inl rfl, _, rfl⟩) hd hQ hc hs
theorem outJ {rm : Room} {Q : Option Value → Heap → List Loc → Prop} {pc : Nat} {Ls : Array Slot} {z : Int64} {rest : List Value} (X : Stand p l e R s m args below meth c T locs cells slots) (hx : p.tables.exec = Jvm.exec) (hlk : meth.locks = false) (hret : meth.sig.returnType = some .long) (hd : decode c.code pc = .ok (.lreturn, 1)) (hQ : Q (some (.long z)) T.heap locs) (hc : cells ≤ rm.cells) (hs : slots ≤ rm.slots) : Goes p e below (Fin1 below s rm Q) T (mkF m pc Ls (.long z :: rest)) :=
  outO X hx hlk hret rfl (Or.inr (Or.inl ⟨rfl, rfl, _, rfl⟩)) hd hQ hc hs
theorem outD {rm : Room} {Q : Option Value → Heap → List Loc → Prop} {pc : Nat} {Ls : Array Slot} {z : UInt64} {rest : List Value} (X : Stand p l e R s m args below meth c T locs cells slots) (hx : p.tables.exec = Jvm.exec) (hlk : meth.locks = false) (hret : meth.sig.returnType = some .double) (hd : decode c.code pc = .ok (.dreturn, 1)) (hQ : Q (some (.double z)) T.heap locs) (hc : cells ≤ rm.cells) (hs : slots ≤ rm.slots) : Goes p e below (Fin1 below s rm Q) T (mkF m pc Ls (.double z :: rest)) :=
  outO X hx hlk hret rfl (Or.inr (Or.inr (Or.inl ⟨rfl, rfl, _, rfl⟩))) hd hQ hc hs
theorem outA {rm : Room} {Q : Option Value → Heap → List Loc → Prop} {pc : Nat} {Ls : Array Slot} {w : Value} {t : FieldType} {rest : List Value} (X : Stand p l e R s m args below meth c T locs cells slots) (hx : p.tables.exec = Jvm.exec) (hlk : meth.locks = false) (hret : meth.sig.returnType = some t) (ht : t.isReference = true) (hw : w.isRef = true) (hn : narrow t w = w) (hd : decode c.code pc = .ok (.areturn, 1)) (hQ : Q (some w) T.heap locs) (hc : cells ≤ rm.cells) (hs : slots ≤ rm.slots) : Goes p e below (Fin1 below s rm Q) T (mkF m pc Ls (w :: rest)) :=
  outO X hx hlk hret hn (Or.inr (Or.inr (Or.inr (Or.inr ⟨rfl, ht, hw⟩)))) hd hQ hc hs
/-! calls by a contract -/
theorem callI (X : Stand p l e R s m args below meth c T locs cells slots) (hx : p.tables.exec = Jvm.exec) (hZ : Z.Warmed39 s.vm) {own : String} {index : Nat} {y : MethodName} (hy1 : y.name = "<init>") (hown : s.vm.findClass own = some m.cls) {bytes : ByteArray} {maxL : Nat} {rm : Room}
    (w1 : (Cond.methodLink own index y).before a0 Z = true) (w2 : (Cond.instanceMethod y).before a0 Z = true) (w3 : (Cond.code y bytes maxL none).before a0 Z = true) (w4 : (Cond.initialized y.cls).before a0 Z = true) (hy : y.cls ≠ "java/lang/invoke/MethodHandle" ∧ y.cls ≠ "java/lang/invoke/VarHandle")
    (eT : T.heap = h) {a : Addr} {argsL rest : List Value} {as' : Array Value} {Q : Option Value → Heap → List Loc → Prop} {W : Nat} (hM : Does l y bytes maxL none [] rm Z as' h Q) (has : (.ref a :: argsL).toArray = as') (hf : rm.frames + 1 ≤ R.frames) (hl : W + (maxL + 11) + rm.locals ≤ R.locals)
    (hcc : cells + rm.cells ≤ R.cells) (hss : slots + rm.slots ≤ R.slots) {g : JFrame} (hg : g.method = m) (hsize : g.locals.size = c.maxLocals) (hlen : ∀ sig, parseMethodDescriptor y.desc = some sig → argsL.length = sig.parameters.length) (hst : g.stack = argsL.reverse ++ .ref a :: rest) (hW : 2 * g.monitorRoom + (rest.map fun v => v.category).sum ≤ W) (hd : decode c.code g.pc = .ok (.invokespecial index, 3)) :
    ∃ v T' L, Stand p l e R s m args below meth c T' (locs ++ L) (cells + rm.cells) (slots + rm.slots) ∧ Q v T'.heap L ∧ ∀ target, Steps p.tables e below (T'.setTop { g with pc := g.pc + 3, stack := v.toList ++ rest }) target → Steps p.tables e below (T.setTop g) target := by
  obtain ⟨v, vm1, ⟨T', L', k', n'⟩, -, X', ⟨L, hQ, e1, e2, e3⟩, st⟩ := X.specialBack hx (y := y) hy1 hown (mvT hZ w1) (mvT hZ w2) (mvT hZ w3) hy (backOf (W := W) hM hZ w3 w4 hf hl) hg hsize (Steps.refl _) hlen hst hW hd (fun _ _ => ⟨has, eT, hcc, hss⟩)
  dsimp only [Pt.U, Pt.locs, Pt.cells, Pt.slots] at X' e1 e2 e3 st hQ
  subst e1 e2 e3
  exact ⟨v, T', L, X', hQ, fun t k => st.trans k⟩
theorem callV (X : Stand p l e R s m args below meth c T locs cells slots) (hx : p.tables.exec = Jvm.exec) (hZ : Z.Warmed39 s.vm) {own C : String} {index : Nat} {y : MethodName} (hown : s.vm.findClass own = some m.cls) {bytes : ByteArray} {maxL : Nat} {ret : Option FieldType} {rm : Room}
    (w1 : (Cond.methodLink own index y).before a0 Z = true) (w2 : (Cond.declares y).before a0 Z = true) (w3 : (Cond.selects C y y).before a0 Z = true) (w4 : (Cond.instanceMethod y).before a0 Z = true) (w5 : (Cond.code y bytes maxL ret).before a0 Z = true) (w6 : (Cond.initialized y.cls).before a0 Z = true) (hy : y.cls ≠ "java/lang/invoke/MethodHandle" ∧ y.cls ≠ "java/lang/invoke/VarHandle")
    (eT : T.heap = h) {a : Addr} (E : Exa Z h a C) {argsL rest : List Value} {as' : Array Value} {Q : Option Value → Heap → List Loc → Prop} {W : Nat} (hM : Does l y bytes maxL ret [] rm Z as' h Q) (has : (.ref a :: argsL).toArray = as') (hf : rm.frames + 1 ≤ R.frames) (hl : W + (maxL + 11) + rm.locals ≤ R.locals)
    (hcc : cells + rm.cells ≤ R.cells) (hss : slots + rm.slots ≤ R.slots) {g : JFrame} (hg : g.method = m) (hsize : g.locals.size = c.maxLocals) (hlen : ∀ sig, parseMethodDescriptor y.desc = some sig → argsL.length = sig.parameters.length) (hst : g.stack = argsL.reverse ++ .ref a :: rest) (hW : 2 * g.monitorRoom + (rest.map fun v => v.category).sum ≤ W) (hd : decode c.code g.pc = .ok (.invokevirtual index, 3)) :
    ∃ v T' L, Stand p l e R s m args below meth c T' (locs ++ L) (cells + rm.cells) (slots + rm.slots) ∧ Q v T'.heap L ∧ ∀ target, Steps p.tables e below (T'.setTop { g with pc := g.pc + 3, stack := v.toList ++ rest }) target → Steps p.tables e below (T.setTop g) target := by
  obtain ⟨cB, kB, q1, q2, q3⟩ := isOf hZ eT E
  obtain ⟨v, vm1, ⟨T', L', k', n'⟩, -, X', ⟨L, hQ, e1, e2, e3⟩, st⟩ := X.virtualBack hx (y := y) (z := y) hown (mvT hZ w1) (mvT hZ w2) (notFace_of_selects (args := args) (mvT hZ w3)) (mvT hZ w3) (mvT hZ w4) hy (backOf (W := W) hM hZ w5 w6 hf hl) q1 q3 hg hsize (Steps.refl _) hlen hst hW hd (fun _ _ => ⟨has, eT, hcc, hss⟩)
  dsimp only [Pt.U, Pt.locs, Pt.cells, Pt.slots] at X' e1 e2 e3 st hQ
  subst e1 e2 e3
  exact ⟨v, T', L, X', hQ, fun t k => st.trans k⟩
theorem callC (X : Stand p l e R s m args below meth c T locs cells slots) (hx : p.tables.exec = Jvm.exec) (hZ : Z.Warmed39 s.vm) {own : String} {index : Nat} {y : MethodName} (hown : s.vm.findClass own = some m.cls) {bytes : ByteArray} {maxL : Nat} {ret : Option FieldType} {rm : Room}
    (w1 : (Cond.methodLink own index y).before a0 Z = true) (w2 : (Cond.static y).before a0 Z = true) (w3 : (Cond.code y bytes maxL ret).before a0 Z = true) (w4 : (Cond.initialized y.cls).before a0 Z = true) (hy : y.cls ≠ "java/lang/invoke/MethodHandle" ∧ y.cls ≠ "java/lang/invoke/VarHandle")
    (eT : T.heap = h) {argsL rest : List Value} {as' : Array Value} {Q : Option Value → Heap → List Loc → Prop} {W : Nat} (hM : Does l y bytes maxL ret [] rm Z as' h Q) (has : argsL.toArray = as') (hf : rm.frames + 1 ≤ R.frames) (hl : W + (maxL + 11) + rm.locals ≤ R.locals)
    (hcc : cells + rm.cells ≤ R.cells) (hss : slots + rm.slots ≤ R.slots) {g : JFrame} (hg : g.method = m) (hsize : g.locals.size = c.maxLocals) (hlen : ∀ sig, parseMethodDescriptor y.desc = some sig → argsL.length = sig.parameters.length) (hst : g.stack = argsL.reverse ++ rest) (hW : 2 * g.monitorRoom + (rest.map fun v => v.category).sum ≤ W) (hd : decode c.code g.pc = .ok (.invokestatic index, 3)) :
    ∃ v T' L, Stand p l e R s m args below meth c T' (locs ++ L) (cells + rm.cells) (slots + rm.slots) ∧ Q v T'.heap L ∧ ∀ target, Steps p.tables e below (T'.setTop { g with pc := g.pc + 3, stack := v.toList ++ rest }) target → Steps p.tables e below (T.setTop g) target := by
  obtain ⟨v, vm1, ⟨T', L', k', n'⟩, -, X', ⟨L, hQ, e1, e2, e3⟩, st⟩ := Jvm.LawKit.callS X hx (y := y) hown (mvT hZ w1) (mvT hZ w2) (mvT hZ w4) (mvT hZ w3) hy (backOf (W := W) hM hZ w3 w4 hf hl) hg hsize hlen hst hW hd (fun _ _ => ⟨has, eT, hcc, hss⟩)
  dsimp only [Pt.U, Pt.locs, Pt.cells, Pt.slots] at X' e1 e2 e3 st hQ
  subst e1 e2 e3
  exact ⟨v, T', L, X', hQ, st⟩
end Own
end Jvm.RoadKit
namespace Jvm.Free.XS
open Sem ClassFile Op Lib
theorem lcmpS {tb : Tables} [Ours tb] {e : Env} {below : List Frame} {T target : State} {m : MethodId} {c : Code} {g : JFrame} (h : At T m c below) (hx : tb.exec = Jvm.exec) (hg : g.method = m) {x y : Int64} {v : Int32} {rest : List Value} (hd : decode c.code g.pc = .ok (.lcmp, 1)) (hs : g.stack = .long y :: .long x :: rest) (hv : Jvm.RoadKit.lcmpW x y = v)
    (hr : Steps tb e below (T.setTop { g with pc := g.pc + 1, stack := .int v :: rest }) target) : Steps tb e below (T.setTop g) target := by
  subst hv
  exact lcmp h hx hg hd hs hr
end Jvm.Free.XS
namespace Jvm.RoadKit
open Sem ClassFile Op Lib Jvm.Stand Jvm.Free Jvm.LawKit Jvm.FP Jvm.Free.Fl
section OwnD
theorem own_cmp (i j : Int) : compare i j = if i < j then Ordering.lt else if i = j then Ordering.eq else Ordering.gt := rfl
theorem cmpL_lt {x y : Int64} (h : x < y) : lcmpW x y = -1 := by
  have h' := Int64.lt_iff_toInt_lt.mp h
  show (if y < x then (1 : Int32) else if x = y then 0 else -1) = -1
  rw [if_neg (fun q => by have := Int64.lt_iff_toInt_lt.mp q; omega), if_neg (fun q => by rw [q] at h'; omega)]
theorem cmpL_eq {x y : Int64} (h : x = y) : lcmpW x y = 0 := by
  subst h
  show (if x < x then (1 : Int32) else if x = x then 0 else -1) = 0
  rw [if_neg (fun q => by have := Int64.lt_iff_toInt_lt.mp q; omega), if_pos rfl]
theorem cmpL_gt {x y : Int64} (h : y < x) : lcmpW x y = 1 := by
  show (if y < x then (1 : Int32) else if x = y then 0 else -1) = 1
  rw [if_pos h]
theorem DInt_nn {i : Int} {x : UInt64} (h : Core.DInt i x) : NoNaN64 x := val64_no.mpr (Core.DInt_ne_nan h)
theorem DInt_fin {i : Int} {x : UInt64} (h : Core.DInt i x) : Fin64 x := fin64_core.mpr (by
  have h' : Core.Whole i (Core.val64 x) := h
  cases q : Core.val64 x with
  | nan => rw [q] at h'; exact h'.elim
  | inf s => rw [q] at h'; exact h'.elim
  | fin s c e => exact ⟨s, c, e, q⟩)
theorem cmpD_lt {i j : Int} {x y : UInt64} (hx : Core.DInt i x) (hy : Core.DInt j y) (h : i < j) (o : CmpOp) : cmpValue (FP.dcmp x y) o = -1 := by
  rw [show FP.dcmp x y = _ from Core.dcmp_int hx hy, own_cmp, if_pos h]; rfl
theorem cmpD_eq {i j : Int} {x y : UInt64} (hx : Core.DInt i x) (hy : Core.DInt j y) (h : i = j) (o : CmpOp) : cmpValue (FP.dcmp x y) o = 0 := by
  rw [show FP.dcmp x y = _ from Core.dcmp_int hx hy, own_cmp, if_neg (by omega), if_pos h]; rfl
theorem cmpD_gt {i j : Int} {x y : UInt64} (hx : Core.DInt i x) (hy : Core.DInt j y) (h : j < i) (o : CmpOp) : cmpValue (FP.dcmp x y) o = 1 := by
  rw [show FP.dcmp x y = _ from Core.dcmp_int hx hy, own_cmp, if_neg (by omega), if_neg (by omega)]; rfl
theorem DInt_zero : Core.DInt 0 0 := by
  have h := Core.l2d_int (a := 0) (by decide)
  rw [show Core.l2d 0 = 0 from l2d_zero] at h
  exact h
theorem DInt_i2d {x : Int32} {d : UInt64} (q : FP.i2d x = d) : Core.DInt x.toInt d := q ▸ Core.i2d_int x
theorem DInt_l2d {x : Int64} {d : UInt64} (q : FP.l2d x = d) (h : x.toInt.natAbs ≤ 2 ^ 53) : Core.DInt x.toInt d := q ▸ Core.l2d_int h
theorem DInt_add {i j : Int} {a b d : UInt64} (q : FP.dadd a b = d) (ha : Core.DInt i a) (hb : Core.DInt j b) (h : (i + j).natAbs ≤ 2 ^ 53) : Core.DInt (i + j) d := q ▸ Core.dadd_int ha hb h
theorem DInt_sub {i j : Int} {a b d : UInt64} (q : FP.dsub a b = d) (ha : Core.DInt i a) (hb : Core.DInt j b) (h : (i - j).natAbs ≤ 2 ^ 53) : Core.DInt (i - j) d := q ▸ Core.dsub_int ha hb h
theorem DInt_mul {i j : Int} {a b d : UInt64} (q : FP.dmul a b = d) (ha : Core.DInt i a) (hb : Core.DInt j b) (h : (i * j).natAbs ≤ 2 ^ 53) : Core.DInt (i * j) d := q ▸ Core.dmul_int ha hb h
end OwnD
/-! an array by the list of its values -/
def Sar (Z : State) (h : Heap) (a : Addr) (ty : FieldType) (vs : List Value) : Prop := ∃ c : Cell, Arr Z h a c ty ∧ c.slots = vs.toArray
section OwnA
variable {p : Program} {l : Launch} {e : Env} {R : Room} {s : State} {m : MethodId} {args : Array Value} {below : List Frame} {meth : Method} {c : Code} {T : State} {locs : List Loc} {cells slots : Nat} {Z : State} {a0 : Array Value} {h h' : Heap} {a b : Addr} {ty : FieldType} {vs : List Value} {sl : Nat} {v : Value} {ws : List Addr}
theorem Sar.lt (F : Sar Z h a ty vs) : a < h.size := by obtain ⟨c, A, -⟩ := F; exact A.lt
theorem Sar.ext (F : Sar Z h a ty vs) (E : Ext h h') : Sar Z h' a ty vs := by obtain ⟨c, A, r⟩ := F; exact ⟨c, A.ext E, r⟩
theorem Sar.other (F : Sar Z h b ty vs) (W : Wr h h' a sl v) (q : b ≠ a) : Sar Z h' b ty vs := by obtain ⟨c, A, r⟩ := F; exact ⟨c, A.other W q, r⟩
theorem Sar.keep (F : Sar Z h a ty vs) (K : Keep h h' ws) (q : a ∉ ws) : Sar Z h' a ty vs := by obtain ⟨c, A, r⟩ := F; exact ⟨c, ⟨K.2.1 a c A.1 q, A.2⟩, r⟩
theorem Sar.new {k : ClassId} {z : Int32} {n : Nat} (A : Arr Z h a (newA k ty z) ty) (hn : z.toNatClampNeg = n) : Sar Z h a ty (List.replicate n (defaultValue ty)) := ⟨_, A, by subst hn; show Array.replicate _ _ = _; simp⟩
theorem Sar.in {cl : Cell} {j : Int32} {i : Nat} (S : cl.slots = vs.toArray) (hj : j.toInt = i) (hi : i < vs.length) : ¬ (j < 0 ∨ cl.slots.size ≤ j.toNatClampNeg) := by
  rw [S]
  have q : j.toNatClampNeg = i := by show j.toInt.toNat = i; omega
  have r : ¬ j < 0 := fun z => by have z' := Int32.lt_iff_toInt_lt.mp z; rw [hj] at z'; simp at z'; omega
  rw [q]
  simp only [List.size_toArray]
  intro z
  rcases z with z | z
  · exact r z
  · omega
theorem Sar.nat {j : Int32} {i : Nat} (hj : j.toInt = i) : j.toNatClampNeg = i := by show j.toInt.toNat = i; omega
theorem stDS (X : Stand p l e R s m args below meth c T locs cells slots) (hx : p.tables.exec = Jvm.exec) (hZ : Z.Warmed39 s.vm) (eT : T.heap = h) (V : Sar Z h a .double vs) {j : Int32} {x : UInt64} (i : Nat) (hj : j.toInt = i) (hi : i < vs.length) {g : JFrame} (hg : g.method = m) {rest : List Value} (hs : g.stack = .double x :: .int j :: .ref a :: rest) (hd : decode c.code g.pc = .ok (.dastore, 1)) :
    ∃ T' h', Stand p l e R s m args below meth c T' (locs ++ [⟨a, i⟩]) cells slots ∧ T'.heap = h' ∧ Wr h h' a i (.double x) ∧ Sar Z h' a .double (vs.set i (.double x)) ∧ ∀ target, Steps p.tables e below (T'.setTop { g with pc := g.pc + 1, stack := rest }) target → Steps p.tables e below (T.setTop g) target := by
  obtain ⟨cl, A, S⟩ := V
  obtain ⟨T', h', X', e', W, st⟩ := stD X hx hZ eT A (Sar.in S hj hi) hg hs hd
  rw [Sar.nat hj] at X' W
  exact ⟨T', h', X', e', W, ⟨_, A.same W, by show cl.slots.setIfInBounds _ _ = _; rw [S]; simp⟩, st⟩
theorem stIS (X : Stand p l e R s m args below meth c T locs cells slots) (hx : p.tables.exec = Jvm.exec) (hZ : Z.Warmed39 s.vm) (eT : T.heap = h) (V : Sar Z h a .int vs) {j : Int32} {x : Int32} (i : Nat) (hj : j.toInt = i) (hi : i < vs.length) {g : JFrame} (hg : g.method = m) {rest : List Value} (hs : g.stack = .int x :: .int j :: .ref a :: rest) (hd : decode c.code g.pc = .ok (.iastore, 1)) :
    ∃ T' h', Stand p l e R s m args below meth c T' (locs ++ [⟨a, i⟩]) cells slots ∧ T'.heap = h' ∧ Wr h h' a i (.int x) ∧ Sar Z h' a .int (vs.set i (.int x)) ∧ ∀ target, Steps p.tables e below (T'.setTop { g with pc := g.pc + 1, stack := rest }) target → Steps p.tables e below (T.setTop g) target := by
  obtain ⟨cl, A, S⟩ := V
  obtain ⟨T', h', X', e', W, st⟩ := stI X hx hZ eT A (Sar.in S hj hi) hg hs hd
  rw [Sar.nat hj] at X' W
  exact ⟨T', h', X', e', W, ⟨_, A.same W, by show cl.slots.setIfInBounds _ _ = _; rw [S]; simp⟩, st⟩
theorem ldDS (X : Stand p l e R s m args below meth c T locs cells slots) (hx : p.tables.exec = Jvm.exec) (hZ : Z.Warmed39 s.vm) (eT : T.heap = h) (V : Sar Z h a .double vs) {j : Int32} (i : Nat) (hj : j.toInt = i) (hv : vs[i]? = some v) {g : JFrame} (hg : g.method = m) {rest : List Value} (hs : g.stack = .int j :: .ref a :: rest) (hd : decode c.code g.pc = .ok (.daload, 1)) :
    ∀ target, Steps p.tables e below (T.setTop { g with pc := g.pc + 1, stack := v :: rest }) target → Steps p.tables e below (T.setTop g) target := by
  obtain ⟨cl, A, S⟩ := V
  have hi : i < vs.length := (List.getElem?_eq_some_iff.mp hv).1
  exact X.daload hx (by rw [eT]; exact A.1) (State.isArrayOf_alike hZ.alike A.2.1) A.2.2 (Sar.in S hj hi) (by rw [S, Sar.nat hj]; simpa using hv) hg hs hd
theorem ldIS (X : Stand p l e R s m args below meth c T locs cells slots) (hx : p.tables.exec = Jvm.exec) (hZ : Z.Warmed39 s.vm) (eT : T.heap = h) (V : Sar Z h a .int vs) {j : Int32} (i : Nat) (hj : j.toInt = i) (hv : vs[i]? = some v) {g : JFrame} (hg : g.method = m) {rest : List Value} (hs : g.stack = .int j :: .ref a :: rest) (hd : decode c.code g.pc = .ok (.iaload, 1)) :
    ∀ target, Steps p.tables e below (T.setTop { g with pc := g.pc + 1, stack := v :: rest }) target → Steps p.tables e below (T.setTop g) target := by
  obtain ⟨cl, A, S⟩ := V
  have hi : i < vs.length := (List.getElem?_eq_some_iff.mp hv).1
  exact X.iaload hx (by rw [eT]; exact A.1) (State.isArrayOf_alike hZ.alike A.2.1) A.2.2 (Sar.in S hj hi) (by rw [S, Sar.nat hj]; simpa using hv) hg hs hd
theorem lenS (X : Stand p l e R s m args below meth c T locs cells slots) (hx : p.tables.exec = Jvm.exec) (hZ : Z.Warmed39 s.vm) (eT : T.heap = h) (V : Sar Z h a ty vs) {n : Int32} (hn : vs.length.toInt32 = n) {g : JFrame} (hg : g.method = m) {rest : List Value} (hs : g.stack = .ref a :: rest) (hd : decode c.code g.pc = .ok (.arraylength, 1)) :
    ∀ target, Steps p.tables e below (T.setTop { g with pc := g.pc + 1, stack := .int n :: rest }) target → Steps p.tables e below (T.setTop g) target := by
  obtain ⟨cl, A, S⟩ := V
  intro target k
  refine X.arraylength hx (by rw [eT]; exact A.1) (State.isArrayOf_alike hZ.alike A.2.1) hg hs hd target ?_
  rw [S]
  simp only [List.size_toArray, hn]
  exact k
end OwnA
end Jvm.RoadKit
namespace Jvm.RoadKit
open Jvm.FP Jvm.Free.Fl
theorem DInt_nz {i : Int} {x : UInt64} (h : Core.DInt i x) (hi : i ≠ 0) : Nz64 x := nz64_core.mpr fun z => by
  obtain ⟨s, q, e⟩ := z
  have h' : Core.Whole i (Core.val64 x) := h
  rw [e] at h'
  exact hi ((Core.whole_zero h').mp rfl)
theorem DInt_one : Core.DInt 1 4607182418800017408 := Core.dint_one
end Jvm.RoadKit
namespace Jvm.RoadKit
open Jvm.FP Jvm.Free.Fl Op
theorem cmpD_le {i j : Int} {x y : UInt64} (hx : Core.DInt i x) (hy : Core.DInt j y) (h : i ≤ j) (o : ClassFile.CmpOp) : ∃ v : Int32, cmpValue (FP.dcmp x y) o = v ∧ ¬ (0 : Int32) < v := by
  by_cases q : i < j
  · exact ⟨-1, cmpD_lt hx hy q o, by decide⟩
  · exact ⟨0, cmpD_eq hx hy (by omega) o, by decide⟩
theorem cmpD_ge {i j : Int} {x y : UInt64} (hx : Core.DInt i x) (hy : Core.DInt j y) (h : j ≤ i) (o : ClassFile.CmpOp) : ∃ v : Int32, cmpValue (FP.dcmp x y) o = v ∧ ¬ v < (0 : Int32) := by
  by_cases q : j < i
  · exact ⟨1, cmpD_gt hx hy q o, by decide⟩
  · exact ⟨0, cmpD_eq hx hy (by omega) o, by decide⟩
end Jvm.RoadKit
namespace Jvm.RoadKit
open Jvm.Free
theorem cmpL_le {x y : Int64} (h : ¬ y.toInt < x.toInt) : ∃ v : Int32, lcmpW x y = v ∧ ¬ (0 : Int32) < v := by
  by_cases q : x.toInt < y.toInt
  · exact ⟨-1, cmpL_lt (Int64.lt_iff_toInt_lt.mpr q), by decide⟩
  · exact ⟨0, cmpL_eq (Int64.toInt_inj.mp (by omega)), by decide⟩
theorem cmpL_gtI {x y : Int64} (h : y.toInt < x.toInt) : lcmpW x y = 1 := cmpL_gt (Int64.lt_iff_toInt_lt.mpr h)
end Jvm.RoadKit
namespace Jvm.RoadKit
open Jvm.Free
theorem cmpL_ge {x y : Int64} (h : ¬ x.toInt < y.toInt) : ∃ v : Int32, lcmpW x y = v ∧ ¬ v < (0 : Int32) := by
  by_cases q : y.toInt < x.toInt
  · exact ⟨1, cmpL_gtI q, by decide⟩
  · exact ⟨0, cmpL_eq (Int64.toInt_inj.mp (by omega)), by decide⟩
end Jvm.RoadKit
namespace Jvm.RoadKit
section OwnN
theorem own_mb {i j : Int} {A B : Nat} (hi : i.natAbs ≤ A) (hj : j.natAbs ≤ B) : (i * j).natAbs ≤ A * B := by rw [Int.natAbs_mul]; exact Nat.mul_le_mul hi hj
theorem own_mb2 {i j : Int} {A B : Nat} (hi : -(A : Int) ≤ i ∧ i ≤ A) (hj : -(B : Int) ≤ j ∧ j ≤ B) : -((A * B : Nat) : Int) ≤ i * j ∧ i * j ≤ ((A * B : Nat) : Int) := by
  have h := own_mb (i := i) (j := j) (A := A) (B := B) (by omega) (by omega)
  omega
theorem own_ladd {a b : Int64} (h1 : -9223372036854775808 ≤ a.toInt + b.toInt) (h2 : a.toInt + b.toInt < 9223372036854775808) : (a + b).toInt = a.toInt + b.toInt := by
  have := c_ladd a b; have := rng64 (a + b); omega
theorem own_lsub {a b : Int64} (h1 : -9223372036854775808 ≤ a.toInt - b.toInt) (h2 : a.toInt - b.toInt < 9223372036854775808) : (a - b).toInt = a.toInt - b.toInt := by
  have := c_lsub a b; have := rng64 (a - b); omega
theorem own_lmul {a b : Int64} (h : (a.toInt * b.toInt).natAbs < 9223372036854775808) : (a * b).toInt = a.toInt * b.toInt := by
  have := c_lmul a b; have := rng64 (a * b); omega
theorem own_short (x : Int32) : (x.toInt16.toInt32).toInt.natAbs ≤ 32768 := by
  have := c_i2s x; omega
theorem own_and3 (x : Int32) : (x &&& 3) = 0 ∨ (x &&& 3) = 1 ∨ (x &&& 3) = 2 ∨ (x &&& 3) = 3 := by
  have h := c_and x 3 (by decide)
  have e : (3 : Int32).toInt = 3 := by decide
  simp only [← Int32.toInt_inj]
  rw [show (0 : Int32).toInt = 0 from by decide, show (1 : Int32).toInt = 1 from by decide, show (2 : Int32).toInt = 2 from by decide, e]
  omega
end OwnN
end Jvm.RoadKit
namespace Jvm.RoadKit
abbrev SI (x : Int32) : Slot := .val (.int x)
abbrev SD (x : UInt64) : Slot := .val (.double x)
abbrev SJ (x : Int64) : Slot := .val (.long x)
abbrev SA (x : Addr) : Slot := .val (.ref x)
abbrev SN : Slot := .val .null
abbrev SU : Slot := .unset
abbrev S2 : Slot := .second
end Jvm.RoadKit
namespace Jvm.Free.XS
open Sem ClassFile Op Lib
theorem dup2X1W {tb : Tables} [Ours tb] {e : Env} {below : List Frame} {T target : State} {m : MethodId} {c : Code} {g : JFrame} (h : At T m c below) (hx : tb.exec = Jvm.exec) (hg : g.method = m) {x y : Value} {rest : List Value} (hd : decode c.code g.pc = .ok (.dup2_x1, 1)) (hs : g.stack = x :: y :: rest) (hc : x.category = 2) (hc' : y.category = 1)
    (hr : Steps tb e below (T.setTop { g with pc := g.pc + 1, stack := x :: y :: x :: rest }) target) : Steps tb e below (T.setTop g) target := by
  subst hg
  jvm_step h [h.top, hx, hd, hs, hc, hc']
  exact hr
end Jvm.Free.XS
namespace Jvm.RoadKit
open Sem ClassFile Op Lib Jvm.Stand Jvm.Free Jvm.LawKit
section OwnM
/-- what the word methodRef gives an <init>'s call -/
theorem own_refReady {V : State} {args : Array Value} {own : String} {index cur : Nat} {y : MethodName} {r : MethodId} (hcur : V.vm.findClass own = some cur) (hn : V.methodNamed? y = some r) (hy : y.cls ≠ "java/lang/invoke/MethodHandle" ∧ y.cls ≠ "java/lang/invoke/VarHandle")
    (h : (Cond.methodRef own index y).before args V = true) : namesResolved V.vm cur index r.cls ∧ V.vm.methodReady cur index r := by
  have hm := State.methodFound?_of_named hn hy
  have hfc := findClass_of_methodNamed hn
  simp only [Cond.before, Cond.holds, Cond.value, hcur, hm, beq_iff_eq, Option.some.injEq, Bool.and_eq_true, decide_eq_true_eq] at h
  obtain ⟨⟨hnames, hcls⟩, hres⟩ := h
  obtain ⟨cp, hcp, hnm⟩ := State.names_spec hnames
  obtain ⟨ci, nt, hentry, hnt, -⟩ := namesOf?_method hnm
  obtain ⟨k, cf, hk, hcf, rfl⟩ := State.poolOf?_spec hcur hcp
  have hr : V.refClass? own index = some r.cls := hcls.trans hfc
  have hci : V.resolvedAt? own ci = some (.cls r.cls) := by
    simp only [State.refClass?, hcp, Option.bind_eq_bind, Option.bind_some] at hr
    rcases hentry with he | he <;> simp only [he, Option.bind_eq_some_iff] at hr <;>
      (obtain ⟨z, hr1, hr2⟩ := hr; cases z <;> simp at hr2; subst hr2; exact hr1)
  split at hres
  · rename_i m2 hr2
    have hmm : m2 = r := by simpa using hres
    subst hmm
    exact ⟨⟨k, cf, ci, nt, hk, hcf, hentry, State.resolvedAt?_spec hcur hci⟩, State.resolvedAt?_spec hcur hr2⟩
  · cases hres
variable {p : Program} {l : Launch} {e : Env} {R : Room} {s : State} {m : MethodId} {args : Array Value} {below : List Frame} {meth : Method} {c : Code} {T : State} {locs : List Loc} {cells slots : Nat} {Z : State} {a0 : Array Value} {h : Heap}
theorem callIR (X : Stand p l e R s m args below meth c T locs cells slots) (hx : p.tables.exec = Jvm.exec) (hZ : Z.Warmed39 s.vm) {own : String} {index : Nat} {y : MethodName} (hy1 : y.name = "<init>") (hown : s.vm.findClass own = some m.cls) {bytes : ByteArray} {maxL : Nat} {rm : Room}
    (w1 : (Cond.methodRef own index y).before a0 Z = true) (w2 : (Cond.instanceMethod y).before a0 Z = true) (w3 : (Cond.code y bytes maxL none).before a0 Z = true) (w4 : (Cond.initialized y.cls).before a0 Z = true) (hy : y.cls ≠ "java/lang/invoke/MethodHandle" ∧ y.cls ≠ "java/lang/invoke/VarHandle")
    (eT : T.heap = h) {a : Addr} {argsL rest : List Value} {as' : Array Value} {Q : Option Value → Heap → List Loc → Prop} {W : Nat} (hM : Does l y bytes maxL none [] rm Z as' h Q) (has : (.ref a :: argsL).toArray = as') (hf : rm.frames + 1 ≤ R.frames) (hl : W + (maxL + 11) + rm.locals ≤ R.locals)
    (hcc : cells + rm.cells ≤ R.cells) (hss : slots + rm.slots ≤ R.slots) {g : JFrame} (hg : g.method = m) (hsize : g.locals.size = c.maxLocals) (hlen : ∀ sig, parseMethodDescriptor y.desc = some sig → argsL.length = sig.parameters.length) (hst : g.stack = argsL.reverse ++ .ref a :: rest) (hW : 2 * g.monitorRoom + (rest.map fun v => v.category).sum ≤ W) (hd : decode c.code g.pc = .ok (.invokespecial index, 3)) :
    ∃ v T' L, Stand p l e R s m args below meth c T' (locs ++ L) (cells + rm.cells) (slots + rm.slots) ∧ Q v T'.heap L ∧ ∀ target, Steps p.tables e below (T'.setTop { g with pc := g.pc + 3, stack := v.toList ++ rest }) target → Steps p.tables e below (T.setTop g) target := by
  have hS : SCall p l e R s m args below meth c index y := SCall.of_ready hx hy1 (mvT hZ w2) (mvT hZ w3) fun U r hU hn => by
    have hZU : Z.Warmed39 U.vm := wtrans hZ hU
    obtain ⟨mZ, hnZ⟩ := Cond.code_named w3
    have href := Cond.methodRef_warmed39 hZU hnZ hy w1
    have hnU : (Z.setVm U.vm).methodNamed? y = some mZ := by rw [State.methodNamed?_setVm hZU.alike]; exact hnZ
    have hns : (Z.setVm s.vm).methodNamed? y = some mZ := by rw [State.methodNamed?_setVm hZ.alike]; exact hnZ
    have hms : mZ = r := Option.some.inj (hns.symm.trans hn)
    subst hms
    exact own_refReady (V := Z.setVm U.vm) (by show U.vm.findClass own = _; rw [hU.alike.findClass]; exact hown) hnU hy href
  obtain ⟨v, vm1, ⟨T', L', k', n'⟩, -, X', ⟨L, hQ, e1, e2, e3⟩, st⟩ := hS X (backOf (W := W) hM hZ w3 w4 hf hl) hg hsize (Steps.refl _) hlen hst hW hd (fun _ _ => ⟨has, eT, hcc, hss⟩)
  dsimp only [Pt.U, Pt.locs, Pt.cells, Pt.slots] at X' e1 e2 e3 st hQ
  subst e1 e2 e3
  exact ⟨v, T', L, X', hQ, fun t k => st.trans k⟩
theorem callP (X : Stand p l e R s m args below meth c T locs cells slots) (hx : p.tables.exec = Jvm.exec) (hZ : Z.Warmed39 s.vm) {own C : String} {index n : Nat} {y : MethodName} (hown : s.vm.findClass own = some m.cls) {bytes : ByteArray} {maxL : Nat} {ret : Option FieldType} {rm : Room}
    (w1 : (Cond.methodLink own index y).before a0 Z = true) (w2 : (Cond.instanceMethod y).before a0 Z = true) (w3 : (Cond.privateMethod y).before a0 Z = true) (w5 : (Cond.code y bytes maxL ret).before a0 Z = true) (w6 : (Cond.initialized y.cls).before a0 Z = true) (wk : (Cond.instantiable y.cls n).before a0 Z = true) (hy : y.cls ≠ "java/lang/invoke/MethodHandle" ∧ y.cls ≠ "java/lang/invoke/VarHandle")
    (eT : T.heap = h) {a : Addr} (E : Exa Z h a C) {argsL rest : List Value} {as' : Array Value} {Q : Option Value → Heap → List Loc → Prop} {W : Nat} (hM : Does l y bytes maxL ret [] rm Z as' h Q) (has : (.ref a :: argsL).toArray = as') (hf : rm.frames + 1 ≤ R.frames) (hl : W + (maxL + 11) + rm.locals ≤ R.locals)
    (hcc : cells + rm.cells ≤ R.cells) (hss : slots + rm.slots ≤ R.slots) {g : JFrame} (hg : g.method = m) (hsize : g.locals.size = c.maxLocals) (hlen : ∀ sig, parseMethodDescriptor y.desc = some sig → argsL.length = sig.parameters.length) (hst : g.stack = argsL.reverse ++ .ref a :: rest) (hW : 2 * g.monitorRoom + (rest.map fun v => v.category).sum ≤ W) (hd : decode c.code g.pc = .ok (.invokevirtual index, 3)) :
    ∃ v T' L, Stand p l e R s m args below meth c T' (locs ++ L) (cells + rm.cells) (slots + rm.slots) ∧ Q v T'.heap L ∧ ∀ target, Steps p.tables e below (T'.setTop { g with pc := g.pc + 3, stack := v.toList ++ rest }) target → Steps p.tables e below (T.setTop g) target := by
  obtain ⟨cB, kB, q1, q2, ⟨cellB, c1, c2, c3⟩⟩ := isOf hZ eT E
  have hp : s.PrivateAt y := Cond.privateMethod_at (args := args) (mvT hZ w3)
  obtain ⟨t, kt, g0, g2, g5, g7, -⟩ := Cond.instantiable_spec (mvT (args := args) hZ wk)
  have gi : kt.isInterface = false := by simpa using (Bool.or_eq_false_iff.mp g7).1
  have hsel : (Cond.selects y.cls y y).before args s = true := selects_self_of_private g0 g2 gi hp (mvT hZ w2) hy
  obtain ⟨v, vm1, ⟨T', L', k', n'⟩, -, X', ⟨L, hQ, e1, e2, e3⟩, st⟩ := X.privateBack hx (y := y) hown (mvT hZ w1) (mvT hZ w2) hsel hp (mvT hZ w5) hy (backOf (W := W) hM hZ w5 w6 hf hl) hg hsize (Steps.refl _) c1 (fun q z => by rw [z] at c3; cases c3) hlen hst hW hd (fun _ _ => ⟨has, eT, hcc, hss⟩)
  dsimp only [Pt.U, Pt.locs, Pt.cells, Pt.slots] at X' e1 e2 e3 st hQ
  subst e1 e2 e3
  exact ⟨v, T', L, X', hQ, fun t k => st.trans k⟩
theorem callVZ (X : Stand p l e R s m args below meth c T locs cells slots) (hx : p.tables.exec = Jvm.exec) (hZ : Z.Warmed39 s.vm) {own C : String} {index : Nat} {y z : MethodName} (hown : s.vm.findClass own = some m.cls) {bytes : ByteArray} {maxL : Nat} {ret : Option FieldType} {rm : Room} (nf : NotFace s y)
    (w1 : (Cond.methodLink own index y).before a0 Z = true) (w2 : (Cond.declares y).before a0 Z = true) (w3 : (Cond.selects C y z).before a0 Z = true) (w4 : (Cond.instanceMethod z).before a0 Z = true) (w5 : (Cond.code z bytes maxL ret).before a0 Z = true) (w6 : (Cond.initialized z.cls).before a0 Z = true) (hy : y.cls ≠ "java/lang/invoke/MethodHandle" ∧ y.cls ≠ "java/lang/invoke/VarHandle")
    (eT : T.heap = h) {a : Addr} (E : Exa Z h a C) {argsL rest : List Value} {as' : Array Value} {Q : Option Value → Heap → List Loc → Prop} {W : Nat} (hM : Does l z bytes maxL ret [] rm Z as' h Q) (has : (.ref a :: argsL).toArray = as') (hf : rm.frames + 1 ≤ R.frames) (hl : W + (maxL + 11) + rm.locals ≤ R.locals)
    (hcc : cells + rm.cells ≤ R.cells) (hss : slots + rm.slots ≤ R.slots) {g : JFrame} (hg : g.method = m) (hsize : g.locals.size = c.maxLocals) (hlen : ∀ sig, parseMethodDescriptor y.desc = some sig → argsL.length = sig.parameters.length) (hst : g.stack = argsL.reverse ++ .ref a :: rest) (hW : 2 * g.monitorRoom + (rest.map fun v => v.category).sum ≤ W) (hd : decode c.code g.pc = .ok (.invokevirtual index, 3)) :
    ∃ v T' L, Stand p l e R s m args below meth c T' (locs ++ L) (cells + rm.cells) (slots + rm.slots) ∧ Q v T'.heap L ∧ ∀ target, Steps p.tables e below (T'.setTop { g with pc := g.pc + 3, stack := v.toList ++ rest }) target → Steps p.tables e below (T.setTop g) target := by
  obtain ⟨cB, kB, q1, q2, q3⟩ := isOf hZ eT E
  obtain ⟨v, vm1, ⟨T', L', k', n'⟩, -, X', ⟨L, hQ, e1, e2, e3⟩, st⟩ := X.virtualBack hx (y := y) (z := z) hown (mvT hZ w1) (mvT hZ w2) nf (mvT hZ w3) (mvT hZ w4) hy (backOf (W := W) hM hZ w5 w6 hf hl) q1 q3 hg hsize (Steps.refl _) hlen hst hW hd (fun _ _ => ⟨has, eT, hcc, hss⟩)
  dsimp only [Pt.U, Pt.locs, Pt.cells, Pt.slots] at X' e1 e2 e3 st hQ
  subst e1 e2 e3
  exact ⟨v, T', L, X', hQ, fun t k => st.trans k⟩
theorem callF (X : Stand p l e R s m args below meth c T locs cells slots) (hx : p.tables.exec = Jvm.exec) (hZ : Z.Warmed39 s.vm) {own C : String} {index count : Nat} {xi y : MethodName} (hown : s.vm.findClass own = some m.cls) {bytes : ByteArray} {maxL : Nat} {ret : Option FieldType} {rm : Room}
    (w1 : (Cond.methodLink own index xi).before a0 Z = true) (w2 : (Cond.declares xi).before a0 Z = true) (w7 : (Cond.interfaceMethod xi.cls xi.cls xi.name xi.desc).before a0 Z = true) (k7 : ((Cond.interfaceMethod xi.cls xi.cls xi.name xi.desc).onTables && (Cond.interfaceMethod xi.cls xi.cls xi.name xi.desc).keepsFace) = true) (w3 : (Cond.selects C xi y).before a0 Z = true) (w4 : (Cond.instanceMethod y).before a0 Z = true) (w8 : (Cond.publicMethod y).before a0 Z = true) (w9 : (Cond.unhidden C xi.name xi.desc).before a0 Z = true) (w10 : (Cond.castable C xi.cls).before a0 Z = true) (w5 : (Cond.code y bytes maxL ret).before a0 Z = true) (w6 : (Cond.initialized y.cls).before a0 Z = true) (hy : xi.cls ≠ "java/lang/invoke/MethodHandle" ∧ xi.cls ≠ "java/lang/invoke/VarHandle")
    (eT : T.heap = h) {a : Addr} (E : Exa Z h a C) {argsL rest : List Value} {as' : Array Value} {Q : Option Value → Heap → List Loc → Prop} {W : Nat} (hM : Does l y bytes maxL ret [] rm Z as' h Q) (has : (.ref a :: argsL).toArray = as') (hf : rm.frames + 1 ≤ R.frames) (hl : W + (maxL + 11) + rm.locals ≤ R.locals)
    (hcc : cells + rm.cells ≤ R.cells) (hss : slots + rm.slots ≤ R.slots) {g : JFrame} (hg : g.method = m) (hsize : g.locals.size = c.maxLocals) (hlen : ∀ sig, parseMethodDescriptor xi.desc = some sig → argsL.length = sig.parameters.length) (hst : g.stack = argsL.reverse ++ .ref a :: rest) (hW : 2 * g.monitorRoom + (rest.map fun v => v.category).sum ≤ W) (hd : decode c.code g.pc = .ok (.invokeinterface index count, 5)) :
    ∃ v T' L, Stand p l e R s m args below meth c T' (locs ++ L) (cells + rm.cells) (slots + rm.slots) ∧ Q v T'.heap L ∧ ∀ target, Steps p.tables e below (T'.setTop { g with pc := g.pc + 5, stack := v.toList ++ rest }) target → Steps p.tables e below (T.setTop g) target := by
  obtain ⟨cB, kB, q1, q2, q3⟩ := isOf hZ eT E
  obtain ⟨v, vm1, ⟨T', L', k', n'⟩, -, X', ⟨L, hQ, e1, e2, e3⟩, st⟩ := X.interfaceBack hx hown (mvT hZ w1) (mvT hZ w2) (mvT hZ w7 k7) (mvT hZ w3) (mvT hZ w4) (mvT hZ w8) (mvT hZ w9) (mvT hZ w10) hy (backOf (W := W) hM hZ w5 w6 hf hl) q1 q2 q3 hg hsize (Steps.refl _) hlen hst hW hd (fun _ _ => ⟨has, eT, hcc, hss⟩)
  dsimp only [Pt.U, Pt.locs, Pt.cells, Pt.slots] at X' e1 e2 e3 st hQ
  subst e1 e2 e3
  exact ⟨v, T', L, X', hQ, fun t k => st.trans k⟩
theorem callVU (X : Stand p l e R s m args below meth c T locs cells slots) (hx : p.tables.exec = Jvm.exec) (hZ : Z.Warmed39 s.vm) {own C owner : String} {index : Nat} {xi y : MethodName} (hown : s.vm.findClass own = some m.cls) {bytes : ByteArray} {maxL : Nat} {ret : Option FieldType} {rm : Room}
    (w1 : (Cond.methodLink own index xi).before a0 Z = true) (w7 : (Cond.sameMethod xi.cls owner xi.name xi.desc).before a0 Z = true) (w2 : (Cond.declares ⟨owner, xi.name, xi.desc⟩).before a0 Z = true) (hy : owner ≠ "java/lang/invoke/MethodHandle" ∧ owner ≠ "java/lang/invoke/VarHandle") (w3 : (Cond.selects C xi y).before a0 Z = true) (w4 : (Cond.instanceMethod y).before a0 Z = true) (w5 : (Cond.code y bytes maxL ret).before a0 Z = true) (w6 : (Cond.initialized y.cls).before a0 Z = true)
    (eT : T.heap = h) {a : Addr} (E : Exa Z h a C) {argsL rest : List Value} {as' : Array Value} {Q : Option Value → Heap → List Loc → Prop} {W : Nat} (hM : Does l y bytes maxL ret [] rm Z as' h Q) (has : (.ref a :: argsL).toArray = as') (hf : rm.frames + 1 ≤ R.frames) (hl : W + (maxL + 11) + rm.locals ≤ R.locals)
    (hcc : cells + rm.cells ≤ R.cells) (hss : slots + rm.slots ≤ R.slots) {g : JFrame} (hg : g.method = m) (hsize : g.locals.size = c.maxLocals) (hlen : ∀ sig, parseMethodDescriptor xi.desc = some sig → argsL.length = sig.parameters.length) (hst : g.stack = argsL.reverse ++ .ref a :: rest) (hW : 2 * g.monitorRoom + (rest.map fun v => v.category).sum ≤ W) (hd : decode c.code g.pc = .ok (.invokevirtual index, 3)) :
    ∃ v T' L, Stand p l e R s m args below meth c T' (locs ++ L) (cells + rm.cells) (slots + rm.slots) ∧ Q v T'.heap L ∧ ∀ target, Steps p.tables e below (T'.setTop { g with pc := g.pc + 3, stack := v.toList ++ rest }) target → Steps p.tables e below (T.setTop g) target := by
  obtain ⟨cB, kB, q1, q2, q3⟩ := isOf hZ eT E
  obtain ⟨v, vm1, ⟨T', L', k', n'⟩, -, X', ⟨L, hQ, e1, e2, e3⟩, st⟩ := X.virtualBackUp hx hown (mvT hZ w1) (mvT hZ w7) (mvT hZ w2) hy (mvT hZ w3) (mvT hZ w4) (backOf (W := W) hM hZ w5 w6 hf hl) q1 q3 hg hsize (Steps.refl _) hlen hst hW hd (fun _ _ => ⟨has, eT, hcc, hss⟩)
  dsimp only [Pt.U, Pt.locs, Pt.cells, Pt.slots] at X' e1 e2 e3 st hQ
  subst e1 e2 e3
  exact ⟨v, T', L, X', hQ, fun t k => st.trans k⟩
variable {h' : Heap} {a b : Addr} {ty : FieldType} {vs : List Value} {v : Value} {ws : List Addr} {sl : Nat}
/-- the array at a holds values of the class C: what a store asks -/
def OvS (Z : State) (h : Heap) (a : Addr) (C : String) : Prop := ∃ cl : Cell, h[a]? = some cl ∧ Ovr Z cl.cls C
theorem OvS.ext {C : String} (F : OvS Z h a C) (E : Ext h h') : OvS Z h' a C := by obtain ⟨cl, h1, h2⟩ := F; exact ⟨cl, E.2 _ _ h1, h2⟩
theorem OvS.wr {C : String} {w : Value} (F : OvS Z h a C) (W : Wr h h' b sl w) : OvS Z h' a C := by
  obtain ⟨cl, h1, h2⟩ := F
  obtain ⟨d1, a1, a2, -⟩ := wr_at W h1
  exact ⟨d1, a1, by rw [a2]; exact h2⟩
theorem OvS.keep {C : String} (F : OvS Z h a C) (K : Keep h h' ws) : OvS Z h' a C := by
  obtain ⟨cl, h1, h2⟩ := F
  obtain ⟨c', q1, q2, -⟩ := K.2.2 _ _ h1
  exact ⟨c', q1, by rw [q2]; exact h2⟩
theorem OvS.lt {C : String} (F : OvS Z h a C) : a < h.size := by obtain ⟨cl, h1, -⟩ := F; exact (Array.getElem?_eq_some_iff.mp h1).1
theorem ldAS (X : Stand p l e R s m args below meth c T locs cells slots) (hx : p.tables.exec = Jvm.exec) (hZ : Z.Warmed39 s.vm) (eT : T.heap = h) (V : Sar Z h a ty vs) (ht : ty.isReference = true) {j : Int32} (i : Nat) (hj : j.toInt = i) (hv : vs[i]? = some v) {g : JFrame} (hg : g.method = m) {rest : List Value} (hs : g.stack = .int j :: .ref a :: rest) (hd : decode c.code g.pc = .ok (.aaload, 1)) :
    ∀ target, Steps p.tables e below (T.setTop { g with pc := g.pc + 1, stack := v :: rest }) target → Steps p.tables e below (T.setTop g) target := by
  obtain ⟨cl, A, S⟩ := V
  have hi : i < vs.length := (List.getElem?_eq_some_iff.mp hv).1
  exact X.aaload hx (by rw [eT]; exact A.1) (State.isArrayOf_alike hZ.alike A.2.1) ht A.2.2 (Sar.in S hj hi) (by rw [S, Sar.nat hj]; simpa using hv) hg hs hd
theorem ldJS (X : Stand p l e R s m args below meth c T locs cells slots) (hx : p.tables.exec = Jvm.exec) (hZ : Z.Warmed39 s.vm) (eT : T.heap = h) (V : Sar Z h a .long vs) {j : Int32} (i : Nat) (hj : j.toInt = i) (hv : vs[i]? = some v) {g : JFrame} (hg : g.method = m) {rest : List Value} (hs : g.stack = .int j :: .ref a :: rest) (hd : decode c.code g.pc = .ok (.laload, 1)) :
    ∀ target, Steps p.tables e below (T.setTop { g with pc := g.pc + 1, stack := v :: rest }) target → Steps p.tables e below (T.setTop g) target := by
  obtain ⟨cl, A, S⟩ := V
  have hi : i < vs.length := (List.getElem?_eq_some_iff.mp hv).1
  exact X.laload hx (by rw [eT]; exact A.1) (State.isArrayOf_alike hZ.alike A.2.1) A.2.2 (Sar.in S hj hi) (by rw [S, Sar.nat hj]; simpa using hv) hg hs hd
theorem stJS (X : Stand p l e R s m args below meth c T locs cells slots) (hx : p.tables.exec = Jvm.exec) (hZ : Z.Warmed39 s.vm) (eT : T.heap = h) (V : Sar Z h a .long vs) {j : Int32} {x : Int64} (i : Nat) (hj : j.toInt = i) (hi : i < vs.length) {g : JFrame} (hg : g.method = m) {rest : List Value} (hs : g.stack = .long x :: .int j :: .ref a :: rest) (hd : decode c.code g.pc = .ok (.lastore, 1)) :
    ∃ T' h', Stand p l e R s m args below meth c T' (locs ++ [⟨a, i⟩]) cells slots ∧ T'.heap = h' ∧ Wr h h' a i (.long x) ∧ Sar Z h' a .long (vs.set i (.long x)) ∧ ∀ target, Steps p.tables e below (T'.setTop { g with pc := g.pc + 1, stack := rest }) target → Steps p.tables e below (T.setTop g) target := by
  obtain ⟨cl, A, S⟩ := V
  obtain ⟨T', h', X', e', W, st⟩ := stJ X hx hZ eT A (Sar.in S hj hi) hg hs hd
  rw [Sar.nat hj] at X' W
  exact ⟨T', h', X', e', W, ⟨_, A.same W, by show cl.slots.setIfInBounds _ _ = _; rw [S]; simp⟩, st⟩
theorem stAS (X : Stand p l e R s m args below meth c T locs cells slots) (hx : p.tables.exec = Jvm.exec) (hZ : Z.Warmed39 s.vm) (eT : T.heap = h) (V : Sar Z h a ty vs) (ht : ty.isReference = true) {j : Int32} (i : Nat) (hj : j.toInt = i) (hi : i < vs.length) (F : Sto Z h a v) {g : JFrame} (hg : g.method = m) {rest : List Value} (hs : g.stack = v :: .int j :: .ref a :: rest) (hd : decode c.code g.pc = .ok (.aastore, 1)) :
    ∃ T' h', Stand p l e R s m args below meth c T' (locs ++ [⟨a, i⟩]) cells slots ∧ T'.heap = h' ∧ Wr h h' a i v ∧ Sar Z h' a ty (vs.set i v) ∧ ∀ target, Steps p.tables e below (T'.setTop { g with pc := g.pc + 1, stack := rest }) target → Steps p.tables e below (T.setTop g) target := by
  obtain ⟨cl, A, S⟩ := V
  obtain ⟨T', h', X', e', W, st⟩ := stR X hx hZ eT A (Sar.in S hj hi) ht F hg hs hd
  rw [Sar.nat hj] at X' W
  exact ⟨T', h', X', e', W, ⟨_, A.same W, by show cl.slots.setIfInBounds _ _ = _; rw [S]; simp⟩, st⟩
theorem OvS.sto {C : String} {y : Addr} (F : OvS Z h a C) (V : Sar Z h a ty vs) (I : Ins Z h y C true) : Sto Z h a (.ref y) := by
  obtain ⟨cl, h1, h2⟩ := F
  obtain ⟨c2, A, S⟩ := V
  cases h1.symm.trans A.1
  exact Sto.of A h2 I
theorem own_nf {V : State} {ar : Array Value} {C : String} {y y2 : MethodName} (hd : (Cond.declares y).before ar V = true) (hs : (Cond.selects C y y).before ar V = true) (hc : y2.cls = y.cls) : NotFace V y2 := fun r0 h0 => by
  obtain ⟨r1, r, hn, -⟩ := Cond.declares_spec hd
  obtain ⟨kr, h1, h2⟩ := notFace_of_selects hs r1 hn
  have q1 := findClass_of_methodNamed h0
  have q2 := findClass_of_methodNamed hn
  rw [hc] at q1
  have q3 : r0.cls = r1.cls := Option.some.inj (q1.symm.trans q2)
  exact ⟨kr, by rw [q3]; exact h1, h2⟩
end OwnM
end Jvm.RoadKit
namespace Jvm.RoadKit
open Sem ClassFile Op Lib Jvm.Stand Jvm.Free Jvm.LawKit
section OwnA
variable {p : Program} {l : Launch} {e : Env} {R : Room} {s : State} {m : MethodId} {args : Array Value} {below : List Frame} {meth : Method} {c : Code} {T : State} {locs : List Loc} {cells slots : Nat} {Z : State} {a0 : Array Value} {Hs h h' : Heap} {a : Addr} {ws : List Addr} {sl : Nat} {v : Value}
theorem own_extR (h : Heap) : Ext h h := ⟨Nat.le_refl _, fun _ _ q => q⟩
theorem own_extT (B : Ext Hs h) (E : Ext h h') : Ext Hs h' := ⟨Nat.le_trans B.1 E.1, fun x c q => E.2 x c (B.2 x c q)⟩
theorem own_extK (B : Ext Hs h) (K : Keep h h' ws) (q : ∀ x ∈ ws, Hs.size ≤ x) : Ext Hs h' := ⟨Nat.le_trans B.1 K.1, fun x c z => K.2.1 x c (B.2 x c z) fun hm => absurd (Array.getElem?_eq_some_iff.mp z).1 (Nat.not_lt.mpr (q x hm))⟩
theorem own_extW (B : Ext Hs h) (W : Wr h h' a sl v) (q : Hs.size ≤ a) : Ext Hs h' := own_extK B (Keep.of_wr W) (allS q all0)
theorem own_nb {b : Addr} {n : Nat} (q : b < n) (g : a = n) : b ≠ a := fun e => Nat.lt_irrefl _ (Nat.lt_of_lt_of_eq q (g.symm.trans e.symm))
theorem own_nc {b : Addr} {n : Nat} (q : b < n) (g : n ≤ a) : b ≠ a := fun e => Nat.lt_irrefl _ (Nat.lt_of_lt_of_le q (Nat.le_trans g (Nat.le_of_eq e.symm)))
theorem own_zw {n : Nat} (q : n ≤ h.size) (W : Wr h h' a sl v) : n ≤ h'.size := Nat.le_trans q (Nat.le_of_eq W.size.symm)
theorem own_oth {C O n d O' n' d' : String} {b : Addr} {w : Value} (F : Fld Z h b O n d w) (W : Wr h h' a (slotOf Z O' n' d') v) (L : Laid Z a0 C O n d) (L' : Laid Z a0 C O' n' d') (q : n ≠ n' ∧ (parseFieldDescriptor d).isSome = true ∧ (parseFieldDescriptor d').isSome = true) : Fld Z h' b O n d w := by
  obtain ⟨t, q1⟩ := Option.isSome_iff_exists.mp q.2.1
  obtain ⟨t', q2⟩ := Option.isSome_iff_exists.mp q.2.2
  exact F.other W (Or.inr (slot_ne L L' q.1 q1 q2))
theorem own_g1 {P : State → Prop} {g g' : JFrame} {locs' : List Loc} {cc ss : Nat} (H : ∃ T', Stand p l e R s m args below meth c T' locs' cc ss ∧ T'.heap = h ∧ ∀ target, Steps p.tables e below (T'.setTop g') target → Steps p.tables e below (T.setTop g) target)
    (k : ∀ T', Stand p l e R s m args below meth c T' locs' cc ss → T'.heap = h → Goes p e below P T' g') : Goes p e below P T g := by
  obtain ⟨T', X', e', st⟩ := H; exact Goes.by st (k T' X' e')
theorem own_p1 {P : State → Prop} {g g' : JFrame} {locs' : List Loc} {cc ss : Nat} (H : ∃ T' h', Stand p l e R s m args below meth c T' locs' cc ss ∧ T'.heap = h' ∧ Wr h h' a sl v ∧ ∀ target, Steps p.tables e below (T'.setTop g') target → Steps p.tables e below (T.setTop g) target)
    (k : ∀ T' h', Stand p l e R s m args below meth c T' locs' cc ss → T'.heap = h' → Wr h h' a sl v → Goes p e below P T' g') : Goes p e below P T g := by
  obtain ⟨T', h', X', e', W', st⟩ := H; exact Goes.by st (k T' h' X' e' W')
theorem own_c1 {P : State → Prop} {g : JFrame} {g' : Option Value → JFrame} {Q : Option Value → State → List Loc → Prop} {locs' : List Loc} {cc ss : Nat} (H : ∃ v T' L, Stand p l e R s m args below meth c T' (locs' ++ L) cc ss ∧ Q v T' L ∧ ∀ target, Steps p.tables e below (T'.setTop (g' v)) target → Steps p.tables e below (T.setTop g) target)
    (k : ∀ v T' L, Stand p l e R s m args below meth c T' (locs' ++ L) cc ss → Q v T' L → Goes p e below P T' (g' v)) : Goes p e below P T g := by
  obtain ⟨v, T', L, X', q, st⟩ := H; exact Goes.by st (k v T' L X' q)
theorem gb {P : State → Prop} {g : JFrame} (T' : State) (g' : JFrame) (st : ∀ target, Steps p.tables e below (T'.setTop g') target → Steps p.tables e below (T.setTop g) target) (k : Goes p e below P T' g') : Goes p e below P T g := Goes.by st k
theorem cloneS (X : Stand p l e R s m args below meth c T locs cells slots) (hx : p.tables.exec = Jvm.exec) (hZ : Z.Warmed39 s.vm) {own ad : String} {index : Nat} (hown : s.vm.findClass own = some m.cls)
    (w1 : (Cond.methodLink own index ⟨ad, "clone", "()Ljava/lang/Object;"⟩).before a0 Z = true) (w2 : (Cond.sameMethod ad "java/lang/Object" "clone" "()Ljava/lang/Object;").before a0 Z = true) (w3 : (Cond.native ⟨"java/lang/Object", "clone", "()Ljava/lang/Object;"⟩).before a0 Z = true)
    (w4 : (Cond.instanceMethod ⟨"java/lang/Object", "clone", "()Ljava/lang/Object;"⟩).before a0 Z = true) (w5 : (Cond.selects ad ⟨ad, "clone", "()Ljava/lang/Object;"⟩ ⟨"java/lang/Object", "clone", "()Ljava/lang/Object;"⟩).before a0 Z = true) (w6 : (Cond.castable ad "java/lang/Cloneable").before a0 Z = true)
    (eT : T.heap = h) {ty : FieldType} {vs : List Value} (V : Sar Z h a ty vs) (E : Exa Z h a ad) (F : ∀ v ∈ vs, fits ty v = true) {g : JFrame} (hg : g.method = m) (hsize : g.locals.size = c.maxLocals) {rest : List Value} (hs : g.stack = .ref a :: rest) (hd : decode c.code g.pc = .ok (.invokevirtual index, 3))
    (hf : 1 ≤ R.frames) {W : Nat} (hW : 2 * g.monitorRoom + (rest.map fun v => v.category).sum ≤ W) (hl : W + 14 ≤ R.locals) (hc : cells + 1 ≤ R.cells) {n : Nat} (hn' : vs.length = n) (hsl : slots + n ≤ R.slots) :
    ∃ T' h', Stand p l e R s m args below meth c T' locs (cells + 1) (slots + n) ∧ T'.heap = h' ∧ Ext h h' ∧ Sar Z h' h.size ty vs ∧ Exa Z h' h.size ad ∧
      ∀ target, Steps p.tables e below (T'.setTop { g with pc := g.pc + 3, stack := .ref h.size :: rest }) target → Steps p.tables e below (T.setTop g) target := by
  obtain ⟨cl, A, S⟩ := V
  have hn : cl.slots.size = n := by rw [S]; simpa using hn'
  have FC : FitC Z cl := fitC_of A fun i hi v hv => F v (by rw [S] at hv; exact List.mem_of_getElem? (by simpa using hv))
  obtain ⟨T', h', X', e', ex, A', E', st⟩ := cloneA X hx hZ hown w1 w2 w3 w4 w5 w6 eT A E FC hg hsize hs hd hf hW hl (Nat.le_of_eq hn) hc hsl
  exact ⟨T', h', X', e', ex, ⟨_, A', S⟩, E', st⟩
end OwnA
end Jvm.RoadKit
namespace Jvm.Pilot.@@N@@
open Jvm Jvm.ClassFile Sem Op Lib Jvm.Free Jvm.Stand Jvm.LawKit Jvm.RoadKit Jvm.FP Jvm.Free.Fl Bundle Jvm.Pilot.@@N@@.Jvm.D
theorem own_rem3 (x : Int32) (hx : 0 ≤ x.toInt) : x % 3 = 0 ∨ x % 3 = 1 ∨ x % 3 = 2 := by
  have h := (c_iremV x 3).1 hx (by decide)
  have e : (3 : Int32).toInt = 3 := by decide
  simp only [← Int32.toInt_inj]
  rw [show (0 : Int32).toInt = 0 from by decide, show (1 : Int32).toInt = 1 from by decide, show (2 : Int32).toInt = 2 from by decide]
  omega
theorem own_T_val : Core.val64 4607182418800017409 = .fin false 4503599627370497 (-52) := by decide +kernel
theorem own_T_z : Core.zval Core.b64 (Core.val64 4607182418800017409) < 2 * (Core.one64 : Int) := by rw [own_T_val]; decide +kernel
theorem own_T_lt {ki : Int} {x : UInt64} (h : Core.DInt ki x) (h2 : 2 ≤ ki) : cmpValue (FP.dcmp 4607182418800017409 x) .g = -1 := by
  have q : FP.dcmp 4607182418800017409 x = some .lt := Core.dcmp_lt.mpr ⟨by rw [own_T_val]; exact fun z => (nomatch z), Core.DInt_ne_nan h, by
    rw [Core.DInt_zval h]
    exact Int.lt_of_lt_of_le own_T_z (Int.mul_le_mul_of_nonneg_right h2 (Int.natCast_nonneg _))⟩
  rw [q]; rfl
theorem own_eqr {Z : State} {args : Array Value} {X F : Term} {idx : List Nat} {y : Addr} (hF : F.eval args Z none idx Z = some (.ref y)) (h : (Cond.eq X F).value args Z none Z idx = some true) : X.eval args Z none idx Z = some (.ref y) := by
  obtain ⟨x, y', e1, e2, k1, k2⟩ := cmp_v (Or.inl h)
  cases hF.symm.trans e2
  rw [e1]
  cases x <;> simp_all [Cond.value, Kin, Value.isRef]
theorem own_len {args : Array Value} {first s : State} {o : Option Outcome} {idx : List Nat} {t : Term} {n : Int32} {x : Addr} {cl : Cell} (ht : t.eval args first o idx s = some (.ref x)) (ha : s.arrayAt? x = some cl) (h : (Term.length t).eval args first o idx s = some (.int n)) : (cl.slots.size : Int) = n.toInt := by
  by_cases q : cl.slots.size < 2 ^ 31
  · have e := (len_f ht ha q).symm.trans h
    have e2 : cl.slots.size.toInt32 = n := Value.int.inj (Option.some.inj e)
    rw [← e2, len_toInt q]
  · exfalso
    simp [Term.eval, ht, ha] at h
    omega
theorem own_arr4 {sl : Array Value} {a b c d : Value} (n : sl.size = 4) (h0 : sl[0]? = some a) (h1 : sl[1]? = some b) (h2 : sl[2]? = some c) (h3 : sl[3]? = some d) : sl = [a, b, c, d].toArray := by
  obtain ⟨L⟩ := sl
  match L, n with
  | [p, q, r, s], _ => simp at h0 h1 h2 h3; subst h0 h1 h2 h3; rfl
theorem own_arr0 {sl : Array Value} (n : sl.size = 0) : sl = ([] : List Value).toArray := by
  obtain ⟨L⟩ := sl
  match L, n with
  | [], _ => rfl
abbrev LF (a b c d e f g h i : Int32) (j : Addr) (k : UInt64) (r : List Slot) : Array Slot := (SI a :: SI b :: SI c :: SI d :: SI e :: SI f :: SI g :: SI h :: SI i :: SA j :: SD 4607182418800017409 :: S2 :: SD k :: S2 :: r).toArray
theorem ww {a0 : Array Value} {Z : State} (hw : ∀ d ∈ tables_1, d.before a0 Z = true) (i : Nat) {d : Cond} (h : tables_1[i]? = some d) : d.before a0 Z = true := hw _ (List.mem_of_getElem? h)
abbrev mn0 : MethodName := (⟨"com/example/hqsim/hqsim/engine/network/EndToEnd", "goesOn", "()Z"⟩ : MethodName)
abbrev mn1 : MethodName := (⟨"com/example/hqsim/hqsim/engine/network/EndToEnd", "leave", "(Lcom/example/hqsim/hqsim/engine/network/Message;Lcom/example/hqsim/hqsim/engine/network/Fate;)V"⟩ : MethodName)
abbrev mn2 : MethodName := (⟨"com/example/hqsim/hqsim/engine/kernel/Simulation", "now", "()D"⟩ : MethodName)
abbrev mn3 : MethodName := (⟨"com/example/hqsim/hqsim/engine/network/Message", "measured", "()Z"⟩ : MethodName)
abbrev mn4 : MethodName := (⟨"com/example/hqsim/hqsim/engine/network/EndToEnd", "count", "(Lcom/example/hqsim/hqsim/engine/network/Message;Lcom/example/hqsim/hqsim/engine/network/Fate;)V"⟩ : MethodName)
abbrev mn5 : MethodName := (⟨"java/util/List", "size", "()I"⟩ : MethodName)
abbrev mn6 : MethodName := (⟨"java/util/ArrayList", "size", "()I"⟩ : MethodName)
abbrev mn7 : MethodName := (⟨"com/example/hqsim/hqsim/engine/kernel/Simulation", "spend", "(J)V"⟩ : MethodName)
abbrev mn8 : MethodName := (⟨"java/util/ArrayList", "iterator", "()Ljava/util/Iterator;"⟩ : MethodName)
abbrev mn9 : MethodName := (⟨"java/util/ArrayList$Itr", "hasNext", "()Z"⟩ : MethodName)
abbrev mn10 : MethodName := (⟨"com/example/hqsim/hqsim/engine/statistics/MeasurementWindow", "end", "()D"⟩ : MethodName)
abbrev mn11 : MethodName := (⟨"com/example/hqsim/hqsim/engine/kernel/PendingEvents", "place", "(Lcom/example/hqsim/hqsim/engine/kernel/Event;I)V"⟩ : MethodName)
abbrev mn12 : MethodName := (⟨"java/util/List", "iterator", "()Ljava/util/Iterator;"⟩ : MethodName)
abbrev mn13 : MethodName := (⟨"java/util/Iterator", "hasNext", "()Z"⟩ : MethodName)
abbrev mn14 : MethodName := (⟨"com/example/hqsim/hqsim/engine/kernel/Event", "pending", "()Z"⟩ : MethodName)
abbrev mn15 : MethodName := (⟨"com/example/hqsim/hqsim/engine/network/EndToEnd", "produce", "(Lcom/example/hqsim/hqsim/engine/network/Origin;JD)Lcom/example/hqsim/hqsim/engine/network/Message;"⟩ : MethodName)
abbrev mn16 : MethodName := (⟨"java/lang/Enum", "ordinal", "()I"⟩ : MethodName)
abbrev mn17 : MethodName := (⟨"com/example/hqsim/hqsim/engine/kernel/PendingEvents", "siftUp", "(ILcom/example/hqsim/hqsim/engine/kernel/Event;)V"⟩ : MethodName)
abbrev mn18 : MethodName := (⟨"com/example/hqsim/hqsim/engine/kernel/PendingEvents", "add", "(Lcom/example/hqsim/hqsim/engine/kernel/Event;)V"⟩ : MethodName)
abbrev mn19 : MethodName := (⟨"com/example/hqsim/hqsim/engine/kernel/Simulation", "add", "(DLcom/example/hqsim/hqsim/engine/kernel/Event;)V"⟩ : MethodName)
abbrev mn20 : MethodName := (⟨"com/example/hqsim/hqsim/engine/kernel/Simulation", "scheduleAt", "(DLcom/example/hqsim/hqsim/engine/kernel/Event;)V"⟩ : MethodName)
abbrev mn21 : MethodName := (⟨"com/example/hqsim/hqsim/engine/kernel/PendingEvents", "size", "()I"⟩ : MethodName)
abbrev mn22 : MethodName := (⟨"com/example/hqsim/hqsim/engine/kernel/PendingEvents", "first", "()Lcom/example/hqsim/hqsim/engine/kernel/Event;"⟩ : MethodName)
abbrev mn23 : MethodName := (⟨"com/example/hqsim/hqsim/engine/kernel/EventBudget", "spend", "(D)V"⟩ : MethodName)
abbrev mn24 : MethodName := (⟨"com/example/hqsim/hqsim/engine/kernel/PendingEvents", "take", "(Lcom/example/hqsim/hqsim/engine/kernel/Event;)V"⟩ : MethodName)
abbrev mn25 : MethodName := (⟨"com/example/hqsim/hqsim/engine/kernel/Simulation", "run", "()V"⟩ : MethodName)
abbrev mn26 : MethodName := (⟨"com/example/hqsim/hqsim/engine/network/Message", "<init>", "(Lcom/example/hqsim/hqsim/engine/network/Origin;JDDZ)V"⟩ : MethodName)
abbrev mn27 : MethodName := (⟨"com/example/hqsim/hqsim/engine/network/Fate", "ordinal", "()I"⟩ : MethodName)
abbrev mn28 : MethodName := (⟨"com/example/hqsim/hqsim/engine/statistics/MeasurementWindow", "<init>", "(DD)V"⟩ : MethodName)
abbrev mn29 : MethodName := (⟨"com/example/hqsim/hqsim/engine/network/Measurement$Edge", "<init>", "(Lcom/example/hqsim/hqsim/engine/network/Measurement;J)V"⟩ : MethodName)
abbrev mn30 : MethodName := (⟨"com/example/hqsim/hqsim/engine/network/Measurement$Edge", "run", "()V"⟩ : MethodName)
abbrev mn31 : MethodName := (⟨"com/example/hqsim/hqsim/engine/network/Measurement", "begun", "()J"⟩ : MethodName)
abbrev mn32 : MethodName := (⟨"com/example/hqsim/hqsim/engine/network/Measurement", "inside", "()J"⟩ : MethodName)
abbrev mn33 : MethodName := (⟨"com/example/hqsim/hqsim/engine/kernel/EventBudget", "<init>", "(JJ)V"⟩ : MethodName)
abbrev mn34 : MethodName := (⟨"com/example/hqsim/hqsim/engine/kernel/EventBudget", "<init>", "(J)V"⟩ : MethodName)
abbrev mn35 : MethodName := (⟨"com/example/hqsim/hqsim/engine/kernel/PendingEvents", "<init>", "(I)V"⟩ : MethodName)
abbrev mn36 : MethodName := (⟨"com/example/hqsim/hqsim/engine/kernel/Simulation", "<init>", "(Lcom/example/hqsim/hqsim/engine/kernel/EventBudget;I)V"⟩ : MethodName)
abbrev mn37 : MethodName := (⟨"com/example/hqsim/hqsim/engine/kernel/Simulation", "<init>", "(Lcom/example/hqsim/hqsim/engine/kernel/EventBudget;)V"⟩ : MethodName)
abbrev mn38 : MethodName := (⟨"com/example/hqsim/hqsim/engine/statistics/MeasurementWindow", "start", "()D"⟩ : MethodName)
abbrev mn39 : MethodName := (⟨"com/example/hqsim/hqsim/engine/kernel/Event", "<init>", "()V"⟩ : MethodName)
abbrev mn40 : MethodName := (⟨"com/example/hqsim/hqsim/engine/kernel/PendingEvents", "before", "(Lcom/example/hqsim/hqsim/engine/kernel/Event;Lcom/example/hqsim/hqsim/engine/kernel/Event;)Z"⟩ : MethodName)
abbrev mn41 : MethodName := (⟨"com/example/hqsim/hqsim/engine/network/Measurement", "<init>", "(Lcom/example/hqsim/hqsim/engine/kernel/Simulation;Lcom/example/hqsim/hqsim/engine/statistics/MeasurementWindow;)V"⟩ : MethodName)
abbrev mn42 : MethodName := (⟨"com/example/hqsim/hqsim/engine/network/Fate", "values", "()[Lcom/example/hqsim/hqsim/engine/network/Fate;"⟩ : MethodName)
abbrev mn43 : MethodName := (⟨"com/example/hqsim/hqsim/engine/statistics/QuantileHistogram", "<init>", "()V"⟩ : MethodName)
abbrev mn44 : MethodName := (⟨"com/example/hqsim/hqsim/engine/network/DeliveryTimeMetrics", "within", "()Ljava/util/List;"⟩ : MethodName)
abbrev mn45 : MethodName := (⟨"com/example/hqsim/hqsim/engine/network/EndToEnd", "<init>", "(Lcom/example/hqsim/hqsim/engine/kernel/Simulation;Lcom/example/hqsim/hqsim/engine/statistics/MeasurementWindow;Lcom/example/hqsim/hqsim/engine/network/Measurement;Lcom/example/hqsim/hqsim/engine/network/DeliveryTimeMetrics;)V"⟩ : MethodName)
abbrev mn46 : MethodName := (⟨"com/example/hqsim/hqsim/engine/kernel/PendingEvents", "siftDown", "(ILcom/example/hqsim/hqsim/engine/kernel/Event;)V"⟩ : MethodName)
abbrev mn47 : MethodName := (⟨"com/example/hqsim/hqsim/engine/kernel/Event", "run", "()V"⟩ : MethodName)
abbrev mn48 : MethodName := (⟨"com/example/hqsim/hqsim/engine/kernel/EventBudget", "spend", "(JD)V"⟩ : MethodName)
abbrev mn49 : MethodName := (⟨"java/util/ArrayList$Itr", "<init>", "(Ljava/util/ArrayList;)V"⟩ : MethodName)
abbrev mn50 : MethodName := (⟨"com/example/hqsim/hqsim/engine/network/Message", "produced", "()D"⟩ : MethodName)
abbrev mn51 : MethodName := (⟨"com/example/hqsim/hqsim/engine/statistics/QuantileHistogram", "add", "(D)V"⟩ : MethodName)
abbrev sn0 : String := "com/example/hqsim/hqsim/engine/network/EndToEnd"
abbrev sn1 : String := "com/example/hqsim/hqsim/engine/kernel/Event"
abbrev sn2 : String := "com/example/hqsim/hqsim/engine/kernel/Simulation"
abbrev sn3 : String := "com/example/hqsim/hqsim/engine/network/Measurement$Edge"
abbrev sn4 : String := "com/example/hqsim/hqsim/engine/kernel/PendingEvents"
abbrev sn5 : String := "com/example/hqsim/hqsim/engine/kernel/EventBudget"
abbrev sn6 : String := "Lcom/example/hqsim/hqsim/engine/network/Measurement;"
abbrev sn7 : String := "com/example/hqsim/hqsim/engine/network/Message"
abbrev sn8 : String := "com/example/hqsim/hqsim/engine/network/Fate"
abbrev sn9 : String := "java/util/ArrayList"
abbrev sn10 : String := "[Lcom/example/hqsim/hqsim/engine/kernel/Event;"
abbrev sn11 : String := "com/example/hqsim/hqsim/engine/statistics/QuantileHistogram"
abbrev sn12 : String := "com/example/hqsim/hqsim/engine/network/Measurement"
abbrev sn13 : String := "com/example/hqsim/hqsim/engine/statistics/MeasurementWindow"
abbrev sn14 : String := "Lcom/example/hqsim/hqsim/engine/kernel/Simulation;"
abbrev sn15 : String := "Lcom/example/hqsim/hqsim/engine/statistics/MeasurementWindow;"
abbrev sn16 : String := "Lcom/example/hqsim/hqsim/engine/kernel/EventBudget;"
abbrev sn17 : String := "Ljava/util/List;"
abbrev sn18 : String := "deliveredInWindow"
abbrev sn19 : String := "Lcom/example/hqsim/hqsim/engine/statistics/QuantileHistogram;"
abbrev sn20 : String := "responseTimeSum"
abbrev sn21 : String := "Lcom/example/hqsim/hqsim/engine/kernel/PendingEvents;"
abbrev sn22 : String := "java/lang/Enum"
abbrev sn23 : String := "java/util/AbstractList"
abbrev sn24 : String := "java/util/ArrayList$Itr"
abbrev sn25 : String := "Lcom/example/hqsim/hqsim/engine/network/Fate;"
abbrev sn26 : String := "[Ljava/lang/Object;"
abbrev sn27 : String := "com/example/hqsim/hqsim/engine/network/DeliveryTimeMetrics"
abbrev sn28 : String := "[Lcom/example/hqsim/hqsim/engine/network/Fate;"
abbrev sn29 : String := "java/util/ImmutableCollections$ListN"
abbrev sn30 : String := "Ljava/util/ArrayList;"
abbrev sn31 : String := "Lcom/example/hqsim/hqsim/engine/network/Origin;"
abbrev sn32 : String := "com/example/hqsim/hqsim/engine/network/Origin"
abbrev sn33 : String := "Lcom/example/hqsim/hqsim/engine/kernel/EventBudget$Pool;"
abbrev sn34 : String := "Lcom/example/hqsim/hqsim/engine/network/DeliveryTimeMetrics;"
theorem pn0 : plainName "com/example/hqsim/hqsim/engine/network/EndToEnd" = true := by first | (simp [plainName, overriddenIn]; done) | decide +kernel
theorem pd0 : parseMethodDescriptor "()Z" = some ⟨[], some .boolean⟩ := by decide +kernel
theorem pn1 : plainName "com/example/hqsim/hqsim/engine/kernel/Simulation" = true := by first | (simp [plainName, overriddenIn]; done) | decide +kernel
theorem pd1 : parseMethodDescriptor "()D" = some ⟨[], some .double⟩ := by decide +kernel
theorem pn2 : plainName "com/example/hqsim/hqsim/engine/statistics/MeasurementWindow" = true := by first | (simp [plainName, overriddenIn]; done) | decide +kernel
theorem pn3 : plainName "com/example/hqsim/hqsim/engine/kernel/EventBudget" = true := by first | (simp [plainName, overriddenIn]; done) | decide +kernel
theorem pd2 : parseMethodDescriptor "(JJ)V" = some ⟨[.long, .long], none⟩ := by decide +kernel
theorem pd3 : parseMethodDescriptor "(J)V" = some ⟨[.long], none⟩ := by decide +kernel
theorem pn4 : plainName "com/example/hqsim/hqsim/engine/kernel/PendingEvents" = true := by first | (simp [plainName, overriddenIn]; done) | decide +kernel
theorem pd4 : parseMethodDescriptor "(I)V" = some ⟨[.int], none⟩ := by decide +kernel
theorem pd5 : parseMethodDescriptor "(Lcom/example/hqsim/hqsim/engine/kernel/EventBudget;I)V" = some ⟨[(.object "com/example/hqsim/hqsim/engine/kernel/EventBudget"), .int], none⟩ := by decide +kernel
theorem pd6 : parseMethodDescriptor "(Lcom/example/hqsim/hqsim/engine/kernel/EventBudget;)V" = some ⟨[(.object "com/example/hqsim/hqsim/engine/kernel/EventBudget")], none⟩ := by decide +kernel
theorem pn5 : plainName "java/lang/Record" = true := by first | (simp [plainName, overriddenIn]; done) | decide +kernel
theorem pd7 : parseMethodDescriptor "()V" = some ⟨[], none⟩ := by decide +kernel
theorem pd8 : parseMethodDescriptor "(DD)V" = some ⟨[.double, .double], none⟩ := by decide +kernel
theorem pn6 : plainName "com/example/hqsim/hqsim/engine/kernel/Event" = true := by first | (simp [plainName, overriddenIn]; done) | decide +kernel
theorem pn7 : plainName "com/example/hqsim/hqsim/engine/network/Measurement$Edge" = true := by first | (simp [plainName, overriddenIn]; done) | decide +kernel
theorem pd9 : parseMethodDescriptor "(Lcom/example/hqsim/hqsim/engine/network/Measurement;J)V" = some ⟨[(.object "com/example/hqsim/hqsim/engine/network/Measurement"), .long], none⟩ := by decide +kernel
theorem pd10 : parseMethodDescriptor "(Lcom/example/hqsim/hqsim/engine/kernel/Event;I)V" = some ⟨[(.object "com/example/hqsim/hqsim/engine/kernel/Event"), .int], none⟩ := by decide +kernel
theorem pd11 : parseMethodDescriptor "(ILcom/example/hqsim/hqsim/engine/kernel/Event;)V" = some ⟨[.int, (.object "com/example/hqsim/hqsim/engine/kernel/Event")], none⟩ := by decide +kernel
theorem pd12 : parseMethodDescriptor "(Lcom/example/hqsim/hqsim/engine/kernel/Event;)V" = some ⟨[(.object "com/example/hqsim/hqsim/engine/kernel/Event")], none⟩ := by decide +kernel
theorem pd13 : parseMethodDescriptor "(DLcom/example/hqsim/hqsim/engine/kernel/Event;)V" = some ⟨[.double, (.object "com/example/hqsim/hqsim/engine/kernel/Event")], none⟩ := by decide +kernel
theorem pd14 : parseMethodDescriptor "(D)D" = some ⟨[.double], some .double⟩ := by decide +kernel
theorem pd15 : parseMethodDescriptor "(Lcom/example/hqsim/hqsim/engine/kernel/Event;Lcom/example/hqsim/hqsim/engine/kernel/Event;)Z" = some ⟨[(.object "com/example/hqsim/hqsim/engine/kernel/Event"), (.object "com/example/hqsim/hqsim/engine/kernel/Event")], some .boolean⟩ := by decide +kernel
theorem pn8 : plainName "com/example/hqsim/hqsim/engine/network/Measurement" = true := by first | (simp [plainName, overriddenIn]; done) | decide +kernel
theorem pd16 : parseMethodDescriptor "(Lcom/example/hqsim/hqsim/engine/kernel/Simulation;Lcom/example/hqsim/hqsim/engine/statistics/MeasurementWindow;)V" = some ⟨[(.object "com/example/hqsim/hqsim/engine/kernel/Simulation"), (.object "com/example/hqsim/hqsim/engine/statistics/MeasurementWindow")], none⟩ := by decide +kernel
theorem pn9 : plainName "com/example/hqsim/hqsim/engine/network/Fate" = true := by first | (simp [plainName, overriddenIn]; done) | decide +kernel
theorem pd17 : parseMethodDescriptor "()[Lcom/example/hqsim/hqsim/engine/network/Fate;" = some ⟨[], some (.array (.object "com/example/hqsim/hqsim/engine/network/Fate"))⟩ := by decide +kernel
theorem pn10 : plainName "com/example/hqsim/hqsim/engine/statistics/QuantileHistogram" = true := by first | (simp [plainName, overriddenIn]; done) | decide +kernel
theorem pn11 : plainName "java/util/AbstractCollection" = true := by first | (simp [plainName, overriddenIn]; done) | decide +kernel
theorem pn12 : plainName "java/util/AbstractList" = true := by first | (simp [plainName, overriddenIn]; done) | decide +kernel
theorem pn13 : plainName "java/util/ArrayList" = true := by first | (simp [plainName, overriddenIn]; done) | decide +kernel
theorem pn14 : plainName "com/example/hqsim/hqsim/engine/network/DeliveryTimeMetrics" = true := by first | (simp [plainName, overriddenIn]; done) | decide +kernel
theorem pd18 : parseMethodDescriptor "()Ljava/util/List;" = some ⟨[], some (.object "java/util/List")⟩ := by decide +kernel
theorem pn15 : plainName "java/util/ImmutableCollections$ListN" = true := by first | (simp [plainName, overriddenIn]; done) | decide +kernel
theorem pd19 : parseMethodDescriptor "()I" = some ⟨[], some .int⟩ := by decide +kernel
theorem pd20 : parseMethodDescriptor "(Lcom/example/hqsim/hqsim/engine/kernel/Simulation;Lcom/example/hqsim/hqsim/engine/statistics/MeasurementWindow;Lcom/example/hqsim/hqsim/engine/network/Measurement;Lcom/example/hqsim/hqsim/engine/network/DeliveryTimeMetrics;)V" = some ⟨[(.object "com/example/hqsim/hqsim/engine/kernel/Simulation"), (.object "com/example/hqsim/hqsim/engine/statistics/MeasurementWindow"), (.object "com/example/hqsim/hqsim/engine/network/Measurement"), (.object "com/example/hqsim/hqsim/engine/network/DeliveryTimeMetrics")], none⟩ := by decide +kernel
theorem pd21 : parseMethodDescriptor "()Lcom/example/hqsim/hqsim/engine/kernel/Event;" = some ⟨[], some (.object "com/example/hqsim/hqsim/engine/kernel/Event")⟩ := by decide +kernel
theorem pd22 : parseMethodDescriptor "(D)V" = some ⟨[.double], none⟩ := by decide +kernel
theorem pd23 : parseMethodDescriptor "()J" = some ⟨[], some .long⟩ := by decide +kernel
theorem pn16 : plainName "com/example/hqsim/hqsim/engine/network/Message" = true := by first | (simp [plainName, overriddenIn]; done) | decide +kernel
theorem pd24 : parseMethodDescriptor "(Lcom/example/hqsim/hqsim/engine/network/Origin;JDDZ)V" = some ⟨[(.object "com/example/hqsim/hqsim/engine/network/Origin"), .long, .double, .double, .boolean], none⟩ := by decide +kernel
theorem pd25 : parseMethodDescriptor "(Lcom/example/hqsim/hqsim/engine/network/Origin;JD)Lcom/example/hqsim/hqsim/engine/network/Message;" = some ⟨[(.object "com/example/hqsim/hqsim/engine/network/Origin"), .long, .double], some (.object "com/example/hqsim/hqsim/engine/network/Message")⟩ := by decide +kernel
theorem pd26 : parseMethodDescriptor "(JD)V" = some ⟨[.long, .double], none⟩ := by decide +kernel
theorem pn17 : plainName "java/util/ArrayList$Itr" = true := by first | (simp [plainName, overriddenIn]; done) | decide +kernel
theorem pd27 : parseMethodDescriptor "(Ljava/util/ArrayList;)V" = some ⟨[(.object "java/util/ArrayList")], none⟩ := by decide +kernel
theorem pd28 : parseMethodDescriptor "()Ljava/util/Iterator;" = some ⟨[], some (.object "java/util/Iterator")⟩ := by decide +kernel
theorem pd29 : parseMethodDescriptor "(Lcom/example/hqsim/hqsim/engine/network/Message;Lcom/example/hqsim/hqsim/engine/network/Fate;)V" = some ⟨[(.object "com/example/hqsim/hqsim/engine/network/Message"), (.object "com/example/hqsim/hqsim/engine/network/Fate")], none⟩ := by decide +kernel
theorem pn18 : plainName "java/lang/Enum" = true := by first | (simp [plainName, overriddenIn]; done) | decide +kernel
theorem pn19 : plainName "com/example/hqsim/hqsim/engine/network/EndToEndGoesOnPinLaw" = true := by first | (simp [plainName, overriddenIn]; done) | decide +kernel
theorem d50_0 : decode prog_35_method_7_code 0 = .ok (.aload_n 0, 1) := by decide +kernel
theorem d50_1 : decode prog_35_method_7_code 1 = .ok (.getfield 33, 3) := by decide +kernel
theorem d50_4 : decode prog_35_method_7_code 4 = .ok (.invokevirtual 82, 3) := by decide +kernel
theorem d50_7 : decode prog_35_method_7_code 7 = .ok (.aload_n 0, 1) := by decide +kernel
theorem d50_8 : decode prog_35_method_7_code 8 = .ok (.getfield 37, 3) := by decide +kernel
theorem d50_11 : decode prog_35_method_7_code 11 = .ok (.invokevirtual 162, 3) := by decide +kernel
theorem d50_14 : decode prog_35_method_7_code 14 = .ok (.dcmp .g, 1) := by decide +kernel
theorem d50_15 : decode prog_35_method_7_code 15 = .ok (.ifCond .lt 12, 3) := by decide +kernel
theorem d50_18 : decode prog_35_method_7_code 18 = .ok (.aload_n 0, 1) := by decide +kernel
theorem d50_19 : decode prog_35_method_7_code 19 = .ok (.getfield 93, 3) := by decide +kernel
theorem d50_22 : decode prog_35_method_7_code 22 = .ok (.lconst 0, 1) := by decide +kernel
theorem d50_23 : decode prog_35_method_7_code 23 = .ok (.lcmp, 1) := by decide +kernel
theorem d50_24 : decode prog_35_method_7_code 24 = .ok (.ifCond .le 7, 3) := by decide +kernel
theorem d50_27 : decode prog_35_method_7_code 27 = .ok (.iconst 1, 1) := by decide +kernel
theorem d50_28 : decode prog_35_method_7_code 28 = .ok (.goto 4, 3) := by decide +kernel
theorem d50_31 : decode prog_35_method_7_code 31 = .ok (.iconst 0, 1) := by decide +kernel
theorem d50_32 : decode prog_35_method_7_code 32 = .ok (.ireturn, 1) := by decide +kernel
theorem d31_0 : decode prog_19_method_3_code 0 = .ok (.aload_n 0, 1) := by decide +kernel
theorem d31_1 : decode prog_19_method_3_code 1 = .ok (.getfield 25, 3) := by decide +kernel
theorem d31_4 : decode prog_19_method_3_code 4 = .ok (.dreturn, 1) := by decide +kernel
theorem ef_au0_now (m : MethodId) (x0 : Addr) : entryFrame m #[(.ref x0)] 1 = mkF m 0 #[SA x0] [] := by first | (simp [entryFrame, mkF, argsToLocals, Value.category, maxLocals]; done) | rfl
set_option maxRecDepth 65536 in
set_option maxHeartbeats 40000000 in
theorem au0_now (l : Launch) (Z : State) (a0 : Array Value) (hw : ∀ d ∈ tables_1, d.before a0 Z = true) (sm : Addr) (y_5 : UInt64) (h0 : Heap) (n0 : Nat) (Z0 : n0 ≤ h0.size) (u5 : Fld Z h0 sm sn2 "now" "D" (.double y_5)) :
    Does l mn2 prog_19_method_3_code 1 (some .double) [] ({ frames := 0, cells := 0, slots := 0, locals := 0 } : Room) Z #[(.ref sm)] h0 (fun v h L => v = some (.double y_5) ∧ Fr n0 L ∧ h = h0) := by
  refine Does.of (plainFor_of_name pn1) ?_
  intro p e s m below meth c s₁ hx hby hml hret hlk hZ hown hnm X0 e0
  have N0 := Fr.nil n0
  refine Goes.cast (g' := mkF m 0 #[SA sm] []) (ef_au0_now m sm) ?_
  have K0 := Keep.refl h0 []
  refine gb s₁ (mkF m 1 #[SA sm] [(.ref sm)]) (fun _ k => XS.aloadN X0.here hx rfl (hb hby d31_0) rfl rfl k) ?_
  refine own_g1 (getF X0 hx hZ hown (host := "") (Or.inl (ww hw 105 rfl)) Via.refl e0 u5 rfl rfl (hb hby d31_1)) fun T5 X5 e5 => ?_
  exact outD X5 hx hlk hret (hb hby d31_4) (by rw [e5]; exact ⟨rfl, N0, rfl⟩) (by decide) (by decide)
theorem d19_0 : decode prog_53_method_8_code 0 = .ok (.aload_n 0, 1) := by decide +kernel
theorem d19_1 : decode prog_53_method_8_code 1 = .ok (.getfield 13, 3) := by decide +kernel
theorem d19_4 : decode prog_53_method_8_code 4 = .ok (.dreturn, 1) := by decide +kernel
set_option maxRecDepth 65536 in
set_option maxHeartbeats 40000000 in
theorem au1_end (l : Launch) (Z : State) (a0 : Array Value) (hw : ∀ d ∈ tables_1, d.before a0 Z = true) (wi : Addr) (y_6 : UInt64) (h0 : Heap) (n0 : Nat) (Z0 : n0 ≤ h0.size) (u6 : Fld Z h0 wi sn13 "end" "D" (.double y_6)) :
    Does l mn10 prog_53_method_8_code 1 (some .double) [] ({ frames := 0, cells := 0, slots := 0, locals := 0 } : Room) Z #[(.ref wi)] h0 (fun v h L => v = some (.double y_6) ∧ Fr n0 L ∧ h = h0) := by
  refine Does.of (plainFor_of_name pn2) ?_
  intro p e s m below meth c s₁ hx hby hml hret hlk hZ hown hnm X0 e0
  have N0 := Fr.nil n0
  refine Goes.cast (g' := mkF m 0 #[SA wi] []) (ef_au0_now m wi) ?_
  have K0 := Keep.refl h0 []
  refine gb s₁ (mkF m 1 #[SA wi] [(.ref wi)]) (fun _ k => XS.aloadN X0.here hx rfl (hb hby d19_0) rfl rfl k) ?_
  refine own_g1 (getF X0 hx hZ hown (host := "") (Or.inl (ww hw 70 rfl)) Via.refl e0 u6 rfl rfl (hb hby d19_1)) fun T12 X12 e12 => ?_
  exact outD X12 hx hlk hret (hb hby d19_4) (by rw [e12]; exact ⟨rfl, N0, rfl⟩) (by decide) (by decide)
set_option maxRecDepth 65536 in
set_option maxHeartbeats 40000000 in
theorem au_goesOnL (l : Launch) (Z : State) (a0 : Array Value) (hw : ∀ d ∈ tables_1, d.before a0 Z = true) (et sm wi : Addr) (tn ev : UInt64) (h0 : Heap) (n0 : Nat) (Z0 : n0 ≤ h0.size) (E_et : Exa Z h0 et sn0) (E_sm : Exa Z h0 sm sn2) (E_wi : Exa Z h0 wi sn13) (F_simulation_et : Fld Z h0 et sn0 "simulation" sn14 (.ref sm)) (F_window_et : Fld Z h0 et sn0 "window" sn15 (.ref wi)) (F_now_sm : Fld Z h0 sm sn2 "now" "D" (.double tn)) (F_end_wi : Fld Z h0 wi sn13 "end" "D" (.double ev)) (hcv : cmpValue (FP.dcmp tn ev) .g = -1) :
    Does l mn0 prog_35_method_7_code 1 (some .boolean) [] ({ frames := 1, cells := 0, slots := 0, locals := 14 } : Room) Z #[(.ref et)] h0 (fun v h L => v = some (.int 1) ∧ Fr n0 L ∧ h = h0) := by
  refine Does.of (plainFor_of_name pn0) ?_
  intro p e s m below meth c s₁ hx hby hml hret hlk hZ hown hnm X0 e0
  have N0 := Fr.nil n0
  refine Goes.cast (g' := mkF m 0 #[SA et] []) (ef_au0_now m et) ?_
  refine gb s₁ (mkF m 1 #[SA et] [(.ref et)]) (fun _ k => XS.aloadN X0.here hx rfl (hb hby d50_0) rfl rfl k) ?_
  refine own_g1 (getF X0 hx hZ hown (host := "") (Or.inl (ww hw 231 rfl)) Via.refl e0 F_simulation_et rfl rfl (hb hby d50_1)) fun T1 X1 e1 => ?_
  refine own_c1 (callV X1 hx hZ (y := mn2) hown (ww hw 268 rfl) (ww hw 269 rfl) (ww hw 271 rfl) (ww hw 270 rfl) (ww hw 272 rfl) (ww hw 28 rfl) (by decide) e1 E_sm (argsL := []) (rest := []) (W := 0) (au0_now l Z a0 hw sm tn h0 n0 Z0 F_now_sm) rfl (by decide) (by decide) (by decide) (by decide) rfl (by rw [hml]; rfl) (lenOf pd1 rfl) rfl (by show 2 * 0 + _ ≤ _; exact Nat.le_of_eq rfl) (hb hby d50_4)) fun v7 T7 L7 X7 hQ7 => ?_
  obtain ⟨rfl, NL7, hk7⟩ := hQ7
  have N0 := Fr.app N0 NL7
  refine gb T7 (mkF m 8 #[SA et] [(.ref et), (.double tn)]) (fun _ k => XS.aloadN X7.here hx rfl (hb hby d50_7) rfl rfl k) ?_
  refine own_g1 (getF X7 hx hZ hown (host := "") (Or.inl (ww hw 233 rfl)) Via.refl hk7 F_window_et rfl rfl (hb hby d50_8)) fun T8 X8 e8 => ?_
  refine own_c1 (callV X8 hx hZ (y := mn10) hown (ww hw 419 rfl) (ww hw 141 rfl) (ww hw 143 rfl) (ww hw 142 rfl) (ww hw 144 rfl) (ww hw 58 rfl) (by decide) e8 E_wi (argsL := []) (rest := [(.double tn)]) (W := 2) (au1_end l Z a0 hw wi ev h0 n0 Z0 F_end_wi) rfl (by decide) (by decide) (by decide) (by decide) rfl (by rw [hml]; rfl) (lenOf pd1 rfl) rfl (by show 2 * 0 + _ ≤ _; exact Nat.le_of_eq rfl) (hb hby d50_11)) fun v14 T14 L14 X14 hQ14 => ?_
  obtain ⟨rfl, NL14, hk14⟩ := hQ14
  have N0 := Fr.app N0 NL14
  refine gb T14 (mkF m 15 #[SA et] [(.int (-1 : Int32))]) (fun _ k => XS.dcmpS X14.here hx rfl (hb hby d50_14) rfl hcv k) ?_
  refine gb T14 (mkF m 27 #[SA et] []) (fun _ k => XS.ifYes X14.here hx rfl (pc0 := 15) (pc' := 27) rfl (hb hby d50_15) rfl (by decide) (by decide) (by decide) k) ?_
  refine gb T14 (mkF m 28 #[SA et] [(.int (1 : Int32))]) (fun _ k => XS.iconst X14.here hx rfl (hb hby d50_27)  k) ?_
  refine gb T14 (mkF m 32 #[SA et] [(.int (1 : Int32))]) (fun _ k => XS.goto X14.here hx rfl (pc0 := 28) (pc' := 32) rfl (hb hby d50_28) (by decide) (by decide) k) ?_
  exact outZ X14 hx hlk hret (hb hby d50_32) (by rw [hk14]; exact ⟨rfl, N0, rfl⟩) (by decide) (by decide)
set_option maxRecDepth 65536 in
set_option maxHeartbeats 40000000 in
theorem au_goesOn0 (l : Launch) (Z : State) (a0 : Array Value) (hw : ∀ d ∈ tables_1, d.before a0 Z = true) (et sm wi : Addr) (tn ev : UInt64) (cv : Int32) (h0 : Heap) (n0 : Nat) (Z0 : n0 ≤ h0.size) (E_et : Exa Z h0 et sn0) (E_sm : Exa Z h0 sm sn2) (E_wi : Exa Z h0 wi sn13) (F_simulation_et : Fld Z h0 et sn0 "simulation" sn14 (.ref sm)) (F_window_et : Fld Z h0 et sn0 "window" sn15 (.ref wi)) (F_now_sm : Fld Z h0 sm sn2 "now" "D" (.double tn)) (F_end_wi : Fld Z h0 wi sn13 "end" "D" (.double ev)) (F_inNetwork_et : Fld Z h0 et sn0 "inNetwork" "J" (.long (0 : Int64))) (hcv : cmpValue (FP.dcmp tn ev) .g = cv) (hcn : ¬ cv < 0) :
    Does l mn0 prog_35_method_7_code 1 (some .boolean) [] ({ frames := 1, cells := 0, slots := 0, locals := 14 } : Room) Z #[(.ref et)] h0 (fun v h L => v = some (.int 0) ∧ Fr n0 L ∧ h = h0) := by
  refine Does.of (plainFor_of_name pn0) ?_
  intro p e s m below meth c s₁ hx hby hml hret hlk hZ hown hnm X0 e0
  have N0 := Fr.nil n0
  refine Goes.cast (g' := mkF m 0 #[SA et] []) (ef_au0_now m et) ?_
  refine gb s₁ (mkF m 1 #[SA et] [(.ref et)]) (fun _ k => XS.aloadN X0.here hx rfl (hb hby d50_0) rfl rfl k) ?_
  refine own_g1 (getF X0 hx hZ hown (host := "") (Or.inl (ww hw 231 rfl)) Via.refl e0 F_simulation_et rfl rfl (hb hby d50_1)) fun T15 X15 e15 => ?_
  refine own_c1 (callV X15 hx hZ (y := mn2) hown (ww hw 268 rfl) (ww hw 269 rfl) (ww hw 271 rfl) (ww hw 270 rfl) (ww hw 272 rfl) (ww hw 28 rfl) (by decide) e15 E_sm (argsL := []) (rest := []) (W := 0) (au0_now l Z a0 hw sm tn h0 n0 Z0 F_now_sm) rfl (by decide) (by decide) (by decide) (by decide) rfl (by rw [hml]; rfl) (lenOf pd1 rfl) rfl (by show 2 * 0 + _ ≤ _; exact Nat.le_of_eq rfl) (hb hby d50_4)) fun v17 T17 L17 X17 hQ17 => ?_
  obtain ⟨rfl, NL17, hk17⟩ := hQ17
  have N0 := Fr.app N0 NL17
  refine gb T17 (mkF m 8 #[SA et] [(.ref et), (.double tn)]) (fun _ k => XS.aloadN X17.here hx rfl (hb hby d50_7) rfl rfl k) ?_
  refine own_g1 (getF X17 hx hZ hown (host := "") (Or.inl (ww hw 233 rfl)) Via.refl hk17 F_window_et rfl rfl (hb hby d50_8)) fun T18 X18 e18 => ?_
  refine own_c1 (callV X18 hx hZ (y := mn10) hown (ww hw 419 rfl) (ww hw 141 rfl) (ww hw 143 rfl) (ww hw 142 rfl) (ww hw 144 rfl) (ww hw 58 rfl) (by decide) e18 E_wi (argsL := []) (rest := [(.double tn)]) (W := 2) (au1_end l Z a0 hw wi ev h0 n0 Z0 F_end_wi) rfl (by decide) (by decide) (by decide) (by decide) rfl (by rw [hml]; rfl) (lenOf pd1 rfl) rfl (by show 2 * 0 + _ ≤ _; exact Nat.le_of_eq rfl) (hb hby d50_11)) fun v20 T20 L20 X20 hQ20 => ?_
  obtain ⟨rfl, NL20, hk20⟩ := hQ20
  have N0 := Fr.app N0 NL20
  refine gb T20 (mkF m 15 #[SA et] [(.int cv)]) (fun _ k => XS.dcmpS X20.here hx rfl (hb hby d50_14) rfl hcv k) ?_
  refine gb T20 (mkF m 18 #[SA et] []) (fun _ k => XS.ifNo X20.here hx rfl (hb hby d50_15) rfl ((if0 _ _).trans (flt hcn).1) k) ?_
  refine gb T20 (mkF m 19 #[SA et] [(.ref et)]) (fun _ k => XS.aloadN X20.here hx rfl (hb hby d50_18) rfl rfl k) ?_
  refine own_g1 (getF X20 hx hZ hown (host := "") (Or.inl (ww hw 280 rfl)) Via.refl hk20 F_inNetwork_et rfl rfl (hb hby d50_19)) fun T21 X21 e21 => ?_
  refine gb T21 (mkF m 23 #[SA et] [(.long (0 : Int64)), (.long (0 : Int64))]) (fun _ k => XS.lconst X21.here hx rfl (hb hby d50_22)  k) ?_
  refine gb T21 (mkF m 24 #[SA et] [(.int (0 : Int32))]) (fun _ k => XS.lcmpS X21.here hx rfl (hb hby d50_23) rfl (by decide) k) ?_
  refine gb T21 (mkF m 31 #[SA et] []) (fun _ k => XS.ifYes X21.here hx rfl (pc0 := 24) (pc' := 31) rfl (hb hby d50_24) rfl (by decide) (by decide) (by decide) k) ?_
  refine gb T21 (mkF m 32 #[SA et] [(.int (0 : Int32))]) (fun _ k => XS.iconst X21.here hx rfl (hb hby d50_31)  k) ?_
  exact outZ X21 hx hlk hret (hb hby d50_32) (by rw [e21]; exact ⟨rfl, N0, rfl⟩) (by decide) (by decide)
set_option maxRecDepth 65536 in
set_option maxHeartbeats 40000000 in
theorem au_goesOn1 (l : Launch) (Z : State) (a0 : Array Value) (hw : ∀ d ∈ tables_1, d.before a0 Z = true) (et sm wi : Addr) (tn ev : UInt64) (cv : Int32) (h0 : Heap) (n0 : Nat) (Z0 : n0 ≤ h0.size) (E_et : Exa Z h0 et sn0) (E_sm : Exa Z h0 sm sn2) (E_wi : Exa Z h0 wi sn13) (F_simulation_et : Fld Z h0 et sn0 "simulation" sn14 (.ref sm)) (F_window_et : Fld Z h0 et sn0 "window" sn15 (.ref wi)) (F_now_sm : Fld Z h0 sm sn2 "now" "D" (.double tn)) (F_end_wi : Fld Z h0 wi sn13 "end" "D" (.double ev)) (F_inNetwork_et : Fld Z h0 et sn0 "inNetwork" "J" (.long (1 : Int64))) (hcv : cmpValue (FP.dcmp tn ev) .g = cv) (hcn : ¬ cv < 0) :
    Does l mn0 prog_35_method_7_code 1 (some .boolean) [] ({ frames := 1, cells := 0, slots := 0, locals := 14 } : Room) Z #[(.ref et)] h0 (fun v h L => v = some (.int 1) ∧ Fr n0 L ∧ h = h0) := by
  refine Does.of (plainFor_of_name pn0) ?_
  intro p e s m below meth c s₁ hx hby hml hret hlk hZ hown hnm X0 e0
  have N0 := Fr.nil n0
  refine Goes.cast (g' := mkF m 0 #[SA et] []) (ef_au0_now m et) ?_
  refine gb s₁ (mkF m 1 #[SA et] [(.ref et)]) (fun _ k => XS.aloadN X0.here hx rfl (hb hby d50_0) rfl rfl k) ?_
  refine own_g1 (getF X0 hx hZ hown (host := "") (Or.inl (ww hw 231 rfl)) Via.refl e0 F_simulation_et rfl rfl (hb hby d50_1)) fun T22 X22 e22 => ?_
  refine own_c1 (callV X22 hx hZ (y := mn2) hown (ww hw 268 rfl) (ww hw 269 rfl) (ww hw 271 rfl) (ww hw 270 rfl) (ww hw 272 rfl) (ww hw 28 rfl) (by decide) e22 E_sm (argsL := []) (rest := []) (W := 0) (au0_now l Z a0 hw sm tn h0 n0 Z0 F_now_sm) rfl (by decide) (by decide) (by decide) (by decide) rfl (by rw [hml]; rfl) (lenOf pd1 rfl) rfl (by show 2 * 0 + _ ≤ _; exact Nat.le_of_eq rfl) (hb hby d50_4)) fun v24 T24 L24 X24 hQ24 => ?_
  obtain ⟨rfl, NL24, hk24⟩ := hQ24
  have N0 := Fr.app N0 NL24
  refine gb T24 (mkF m 8 #[SA et] [(.ref et), (.double tn)]) (fun _ k => XS.aloadN X24.here hx rfl (hb hby d50_7) rfl rfl k) ?_
  refine own_g1 (getF X24 hx hZ hown (host := "") (Or.inl (ww hw 233 rfl)) Via.refl hk24 F_window_et rfl rfl (hb hby d50_8)) fun T25 X25 e25 => ?_
  refine own_c1 (callV X25 hx hZ (y := mn10) hown (ww hw 419 rfl) (ww hw 141 rfl) (ww hw 143 rfl) (ww hw 142 rfl) (ww hw 144 rfl) (ww hw 58 rfl) (by decide) e25 E_wi (argsL := []) (rest := [(.double tn)]) (W := 2) (au1_end l Z a0 hw wi ev h0 n0 Z0 F_end_wi) rfl (by decide) (by decide) (by decide) (by decide) rfl (by rw [hml]; rfl) (lenOf pd1 rfl) rfl (by show 2 * 0 + _ ≤ _; exact Nat.le_of_eq rfl) (hb hby d50_11)) fun v27 T27 L27 X27 hQ27 => ?_
  obtain ⟨rfl, NL27, hk27⟩ := hQ27
  have N0 := Fr.app N0 NL27
  refine gb T27 (mkF m 15 #[SA et] [(.int cv)]) (fun _ k => XS.dcmpS X27.here hx rfl (hb hby d50_14) rfl hcv k) ?_
  refine gb T27 (mkF m 18 #[SA et] []) (fun _ k => XS.ifNo X27.here hx rfl (hb hby d50_15) rfl ((if0 _ _).trans (flt hcn).1) k) ?_
  refine gb T27 (mkF m 19 #[SA et] [(.ref et)]) (fun _ k => XS.aloadN X27.here hx rfl (hb hby d50_18) rfl rfl k) ?_
  refine own_g1 (getF X27 hx hZ hown (host := "") (Or.inl (ww hw 280 rfl)) Via.refl hk27 F_inNetwork_et rfl rfl (hb hby d50_19)) fun T28 X28 e28 => ?_
  refine gb T28 (mkF m 23 #[SA et] [(.long (0 : Int64)), (.long (1 : Int64))]) (fun _ k => XS.lconst X28.here hx rfl (hb hby d50_22)  k) ?_
  refine gb T28 (mkF m 24 #[SA et] [(.int (1 : Int32))]) (fun _ k => XS.lcmpS X28.here hx rfl (hb hby d50_23) rfl (by decide) k) ?_
  refine gb T28 (mkF m 27 #[SA et] []) (fun _ k => XS.ifNo X28.here hx rfl (hb hby d50_24) rfl (by decide) k) ?_
  refine gb T28 (mkF m 28 #[SA et] [(.int (1 : Int32))]) (fun _ k => XS.iconst X28.here hx rfl (hb hby d50_27)  k) ?_
  refine gb T28 (mkF m 32 #[SA et] [(.int (1 : Int32))]) (fun _ k => XS.goto X28.here hx rfl (pc0 := 28) (pc' := 32) rfl (hb hby d50_28) (by decide) (by decide) k) ?_
  exact outZ X28 hx hlk hret (hb hby d50_32) (by rw [e28]; exact ⟨rfl, N0, rfl⟩) (by decide) (by decide)
set_option maxRecDepth 65536 in
set_option maxHeartbeats 40000000 in
theorem au_goesOn2 (l : Launch) (Z : State) (a0 : Array Value) (hw : ∀ d ∈ tables_1, d.before a0 Z = true) (et sm wi : Addr) (tn ev : UInt64) (cv : Int32) (h0 : Heap) (n0 : Nat) (Z0 : n0 ≤ h0.size) (E_et : Exa Z h0 et sn0) (E_sm : Exa Z h0 sm sn2) (E_wi : Exa Z h0 wi sn13) (F_simulation_et : Fld Z h0 et sn0 "simulation" sn14 (.ref sm)) (F_window_et : Fld Z h0 et sn0 "window" sn15 (.ref wi)) (F_now_sm : Fld Z h0 sm sn2 "now" "D" (.double tn)) (F_end_wi : Fld Z h0 wi sn13 "end" "D" (.double ev)) (F_inNetwork_et : Fld Z h0 et sn0 "inNetwork" "J" (.long (2 : Int64))) (hcv : cmpValue (FP.dcmp tn ev) .g = cv) (hcn : ¬ cv < 0) :
    Does l mn0 prog_35_method_7_code 1 (some .boolean) [] ({ frames := 1, cells := 0, slots := 0, locals := 14 } : Room) Z #[(.ref et)] h0 (fun v h L => v = some (.int 1) ∧ Fr n0 L ∧ h = h0) := by
  refine Does.of (plainFor_of_name pn0) ?_
  intro p e s m below meth c s₁ hx hby hml hret hlk hZ hown hnm X0 e0
  have N0 := Fr.nil n0
  refine Goes.cast (g' := mkF m 0 #[SA et] []) (ef_au0_now m et) ?_
  refine gb s₁ (mkF m 1 #[SA et] [(.ref et)]) (fun _ k => XS.aloadN X0.here hx rfl (hb hby d50_0) rfl rfl k) ?_
  refine own_g1 (getF X0 hx hZ hown (host := "") (Or.inl (ww hw 231 rfl)) Via.refl e0 F_simulation_et rfl rfl (hb hby d50_1)) fun T29 X29 e29 => ?_
  refine own_c1 (callV X29 hx hZ (y := mn2) hown (ww hw 268 rfl) (ww hw 269 rfl) (ww hw 271 rfl) (ww hw 270 rfl) (ww hw 272 rfl) (ww hw 28 rfl) (by decide) e29 E_sm (argsL := []) (rest := []) (W := 0) (au0_now l Z a0 hw sm tn h0 n0 Z0 F_now_sm) rfl (by decide) (by decide) (by decide) (by decide) rfl (by rw [hml]; rfl) (lenOf pd1 rfl) rfl (by show 2 * 0 + _ ≤ _; exact Nat.le_of_eq rfl) (hb hby d50_4)) fun v31 T31 L31 X31 hQ31 => ?_
  obtain ⟨rfl, NL31, hk31⟩ := hQ31
  have N0 := Fr.app N0 NL31
  refine gb T31 (mkF m 8 #[SA et] [(.ref et), (.double tn)]) (fun _ k => XS.aloadN X31.here hx rfl (hb hby d50_7) rfl rfl k) ?_
  refine own_g1 (getF X31 hx hZ hown (host := "") (Or.inl (ww hw 233 rfl)) Via.refl hk31 F_window_et rfl rfl (hb hby d50_8)) fun T32 X32 e32 => ?_
  refine own_c1 (callV X32 hx hZ (y := mn10) hown (ww hw 419 rfl) (ww hw 141 rfl) (ww hw 143 rfl) (ww hw 142 rfl) (ww hw 144 rfl) (ww hw 58 rfl) (by decide) e32 E_wi (argsL := []) (rest := [(.double tn)]) (W := 2) (au1_end l Z a0 hw wi ev h0 n0 Z0 F_end_wi) rfl (by decide) (by decide) (by decide) (by decide) rfl (by rw [hml]; rfl) (lenOf pd1 rfl) rfl (by show 2 * 0 + _ ≤ _; exact Nat.le_of_eq rfl) (hb hby d50_11)) fun v34 T34 L34 X34 hQ34 => ?_
  obtain ⟨rfl, NL34, hk34⟩ := hQ34
  have N0 := Fr.app N0 NL34
  refine gb T34 (mkF m 15 #[SA et] [(.int cv)]) (fun _ k => XS.dcmpS X34.here hx rfl (hb hby d50_14) rfl hcv k) ?_
  refine gb T34 (mkF m 18 #[SA et] []) (fun _ k => XS.ifNo X34.here hx rfl (hb hby d50_15) rfl ((if0 _ _).trans (flt hcn).1) k) ?_
  refine gb T34 (mkF m 19 #[SA et] [(.ref et)]) (fun _ k => XS.aloadN X34.here hx rfl (hb hby d50_18) rfl rfl k) ?_
  refine own_g1 (getF X34 hx hZ hown (host := "") (Or.inl (ww hw 280 rfl)) Via.refl hk34 F_inNetwork_et rfl rfl (hb hby d50_19)) fun T35 X35 e35 => ?_
  refine gb T35 (mkF m 23 #[SA et] [(.long (0 : Int64)), (.long (2 : Int64))]) (fun _ k => XS.lconst X35.here hx rfl (hb hby d50_22)  k) ?_
  refine gb T35 (mkF m 24 #[SA et] [(.int (1 : Int32))]) (fun _ k => XS.lcmpS X35.here hx rfl (hb hby d50_23) rfl (by decide) k) ?_
  refine gb T35 (mkF m 27 #[SA et] []) (fun _ k => XS.ifNo X35.here hx rfl (hb hby d50_24) rfl (by decide) k) ?_
  refine gb T35 (mkF m 28 #[SA et] [(.int (1 : Int32))]) (fun _ k => XS.iconst X35.here hx rfl (hb hby d50_27)  k) ?_
  refine gb T35 (mkF m 32 #[SA et] [(.int (1 : Int32))]) (fun _ k => XS.goto X35.here hx rfl (pc0 := 28) (pc' := 32) rfl (hb hby d50_28) (by decide) (by decide) k) ?_
  exact outZ X35 hx hlk hret (hb hby d50_32) (by rw [e35]; exact ⟨rfl, N0, rfl⟩) (by decide) (by decide)
theorem d2_0 : decode prog_15_method_2_code 0 = .ok (.aload_n 0, 1) := by decide +kernel
theorem d2_1 : decode prog_15_method_2_code 1 = .ok (.invokespecial 7, 3) := by decide +kernel
theorem d2_4 : decode prog_15_method_2_code 4 = .ok (.aload_n 0, 1) := by decide +kernel
theorem d2_5 : decode prog_15_method_2_code 5 = .ok (.lload_n 1, 1) := by decide +kernel
theorem d2_6 : decode prog_15_method_2_code 6 = .ok (.putfield 12, 3) := by decide +kernel
theorem d2_9 : decode prog_15_method_2_code 9 = .ok (.aload_n 0, 1) := by decide +kernel
theorem d2_10 : decode prog_15_method_2_code 10 = .ok (.aconst_null, 1) := by decide +kernel
theorem d2_11 : decode prog_15_method_2_code 11 = .ok (.putfield 16, 3) := by decide +kernel
theorem d2_14 : decode prog_15_method_2_code 14 = .ok (.aload_n 0, 1) := by decide +kernel
theorem d2_15 : decode prog_15_method_2_code 15 = .ok (.lload_n 1, 1) := by decide +kernel
theorem d2_16 : decode prog_15_method_2_code 16 = .ok (.putfield 20, 3) := by decide +kernel
theorem d2_19 : decode prog_15_method_2_code 19 = .ok (.aload_n 0, 1) := by decide +kernel
theorem d2_20 : decode prog_15_method_2_code 20 = .ok (.lload_n 3, 1) := by decide +kernel
theorem d2_21 : decode prog_15_method_2_code 21 = .ok (.putfield 23, 3) := by decide +kernel
theorem d2_24 : decode prog_15_method_2_code 24 = .ok (.return_, 1) := by decide +kernel
theorem ef_au2_init (m : MethodId) (x0 : Addr) (x1 : Int64) (x2 : Int64) : entryFrame m #[(.ref x0), (.long x1), (.long x2)] 5 = mkF m 0 #[SA x0, SJ x1, S2, SJ x2, S2] [] := by first | (simp [entryFrame, mkF, argsToLocals, Value.category, maxLocals]; done) | rfl
set_option maxRecDepth 65536 in
set_option maxHeartbeats 40000000 in
theorem au2_init (l : Launch) (Z : State) (a0 : Array Value) (hw : ∀ d ∈ tables_1, d.before a0 Z = true) (q1 : Addr) (y_a1 y_a2 y_23 y_25 y_26 : Int64) (h0 : Heap) (n0 : Nat) (Z0 : n0 ≤ h0.size) (u22 : Exa Z h0 q1 sn5) (u23 : Fld Z h0 q1 sn5 "limit" "J" (.long y_23)) (u24 : Fld Z h0 q1 sn5 "pool" sn33 .null) (u25 : Fld Z h0 q1 sn5 "allowed" "J" (.long y_25)) (u26 : Fld Z h0 q1 sn5 "spent" "J" (.long y_26)) (ge_q1 : n0 ≤ q1) :
    Does l mn33 prog_15_method_2_code 5 none [] ({ frames := 1, cells := 0, slots := 0, locals := 12 } : Room) Z #[(.ref q1), (.long y_a1), (.long y_a2)] h0 (fun v h L => v = none ∧ Fr n0 L ∧ Keep h0 h [q1] ∧ Fld Z h q1 sn5 "allowed" "J" (.long y_a1) ∧ Fld Z h q1 sn5 "spent" "J" (.long y_a2)) := by
  refine Does.of (plainFor_of_name pn3) ?_
  intro p e s m below meth c s₁ hx hby hml hret hlk hZ hown hnm X0 e0
  have N0 := Fr.nil n0
  refine Goes.cast (g' := mkF m 0 #[SA q1, SJ y_a1, S2, SJ y_a2, S2] []) (ef_au2_init m q1 y_a1 y_a2) ?_
  have mi_q1 : q1 ∈ [q1] ∨ h0.size ≤ q1 := (Or.inl (List.mem_cons_self ..))
  have K0 := Keep.refl h0 [q1]
  refine gb s₁ (mkF m 1 #[SA q1, SJ y_a1, S2, SJ y_a2, S2] [(.ref q1)]) (fun _ k => XS.aloadN X0.here hx rfl (hb hby d2_0) rfl rfl k) ?_
  obtain ⟨T61, X61, e61, st61⟩ := initO X0 hx hZ hown (ww hw 15 rfl) (ww hw 16 rfl) (ww hw 17 rfl) e0 (g := (mkF m 1 #[SA q1, SJ y_a1, S2, SJ y_a2, S2] [(.ref q1)])) rfl (by rw [hml]; rfl) rfl (hb hby d2_1) (by decide) (W := 0) (by show 2 * 0 + _ ≤ _; exact Nat.le_of_eq rfl) (by decide)
  refine gb T61 (mkF m 4 #[SA q1, SJ y_a1, S2, SJ y_a2, S2] []) st61 ?_
  refine gb T61 (mkF m 6 #[SA q1, SJ y_a1, S2, SJ y_a2, S2] [(.long y_a1), (.ref q1)]) (fun _ k => XS.aloadN X61.here hx rfl (hb hby d2_4) rfl rfl (XS.lloadN X61.here hx rfl (hb hby d2_5) rfl k)) ?_
  refine own_p1 (putF X61 hx hZ hown (host := "") (Or.inl (ww hw 18 rfl)) Via.refl e61 u23 u22 (Or.inr ⟨(ww hw 19 rfl), rfl, hnm⟩) (ww hw 6 rfl) (ty := .long) (by decide) rfl rfl rfl rfl (hb hby d2_6)) fun T62 h62 X62 e62 W62 => ?_
  have N0 := Fr.snoc X62 N0 ge_q1
  have u22 := u22.wr W62
  have u24 := own_oth u24 W62 (Or.inr (ww hw 21 rfl)) (Or.inr (ww hw 19 rfl)) (by decide)
  have u25 := own_oth u25 W62 (Or.inl (ww hw 23 rfl)) (Or.inr (ww hw 19 rfl)) (by decide)
  have u26 := own_oth u26 W62 (Or.inl (ww hw 25 rfl)) (Or.inr (ww hw 19 rfl)) (by decide)
  have Z0 := own_zw Z0 W62
  have K0 := K0.wr W62 mi_q1
  refine gb T62 (mkF m 11 #[SA q1, SJ y_a1, S2, SJ y_a2, S2] [.null, (.ref q1)]) (fun _ k => XS.aloadN X62.here hx rfl (hb hby d2_9) rfl rfl (XS.aconstNull X62.here hx rfl (hb hby d2_10)  k)) ?_
  refine own_p1 (putF X62 hx hZ hown (host := "") (Or.inl (ww hw 20 rfl)) Via.refl e62 u24 u22 (Or.inr ⟨(ww hw 21 rfl), rfl, hnm⟩) (ww hw 6 rfl) (ty := (.object "com/example/hqsim/hqsim/engine/kernel/EventBudget$Pool")) (by decide) rfl rfl rfl rfl (hb hby d2_11)) fun T63 h63 X63 e63 W63 => ?_
  have N0 := Fr.snoc X63 N0 ge_q1
  have u22 := u22.wr W63
  have u25 := own_oth u25 W63 (Or.inl (ww hw 23 rfl)) (Or.inr (ww hw 21 rfl)) (by decide)
  have u26 := own_oth u26 W63 (Or.inl (ww hw 25 rfl)) (Or.inr (ww hw 21 rfl)) (by decide)
  have Z0 := own_zw Z0 W63
  have K0 := K0.wr W63 mi_q1
  refine gb T63 (mkF m 16 #[SA q1, SJ y_a1, S2, SJ y_a2, S2] [(.long y_a1), (.ref q1)]) (fun _ k => XS.aloadN X63.here hx rfl (hb hby d2_14) rfl rfl (XS.lloadN X63.here hx rfl (hb hby d2_15) rfl k)) ?_
  refine own_p1 (putF X63 hx hZ hown (host := "") (Or.inl (ww hw 22 rfl)) Via.refl e63 u25 u22 (Or.inl (ww hw 23 rfl)) (ww hw 6 rfl) (ty := .long) (by decide) rfl rfl rfl rfl (hb hby d2_16)) fun T64 h64 X64 e64 W64 => ?_
  have N0 := Fr.snoc X64 N0 ge_q1
  have u22 := u22.wr W64
  have u25 := u25.same W64
  have u26 := own_oth u26 W64 (Or.inl (ww hw 25 rfl)) (Or.inl (ww hw 23 rfl)) (by decide)
  have Z0 := own_zw Z0 W64
  have K0 := K0.wr W64 mi_q1
  refine gb T64 (mkF m 21 #[SA q1, SJ y_a1, S2, SJ y_a2, S2] [(.long y_a2), (.ref q1)]) (fun _ k => XS.aloadN X64.here hx rfl (hb hby d2_19) rfl rfl (XS.lloadN X64.here hx rfl (hb hby d2_20) rfl k)) ?_
  refine own_p1 (putF X64 hx hZ hown (host := "") (Or.inl (ww hw 24 rfl)) Via.refl e64 u26 u22 (Or.inl (ww hw 25 rfl)) (ww hw 6 rfl) (ty := .long) (by decide) rfl rfl rfl rfl (hb hby d2_21)) fun T65 h65 X65 e65 W65 => ?_
  have N0 := Fr.snoc X65 N0 ge_q1
  have u25 := own_oth u25 W65 (Or.inl (ww hw 23 rfl)) (Or.inl (ww hw 25 rfl)) (by decide)
  have u26 := u26.same W65
  have Z0 := own_zw Z0 W65
  have K0 := K0.wr W65 mi_q1
  exact outV X65 hx hlk hret (hb hby d2_24) (by rw [e65]; exact ⟨rfl, N0, K0, u25, u26⟩) (by decide) (by decide)
theorem d1_0 : decode prog_15_method_1_code 0 = .ok (.aload_n 0, 1) := by decide +kernel
theorem d1_1 : decode prog_15_method_1_code 1 = .ok (.lload_n 1, 1) := by decide +kernel
theorem d1_2 : decode prog_15_method_1_code 2 = .ok (.lconst 0, 1) := by decide +kernel
theorem d1_3 : decode prog_15_method_1_code 3 = .ok (.invokespecial 1, 3) := by decide +kernel
theorem d1_6 : decode prog_15_method_1_code 6 = .ok (.return_, 1) := by decide +kernel
theorem ef_au3_init (m : MethodId) (x0 : Addr) (x1 : Int64) : entryFrame m #[(.ref x0), (.long x1)] 3 = mkF m 0 #[SA x0, SJ x1, S2] [] := by first | (simp [entryFrame, mkF, argsToLocals, Value.category, maxLocals]; done) | rfl
set_option maxRecDepth 65536 in
set_option maxHeartbeats 40000000 in
theorem au3_init (l : Launch) (Z : State) (a0 : Array Value) (hw : ∀ d ∈ tables_1, d.before a0 Z = true) (q1 : Addr) (y_a1 y_23 y_25 y_26 : Int64) (h0 : Heap) (n0 : Nat) (Z0 : n0 ≤ h0.size) (u22 : Exa Z h0 q1 sn5) (u23 : Fld Z h0 q1 sn5 "limit" "J" (.long y_23)) (u24 : Fld Z h0 q1 sn5 "pool" sn33 .null) (u25 : Fld Z h0 q1 sn5 "allowed" "J" (.long y_25)) (u26 : Fld Z h0 q1 sn5 "spent" "J" (.long y_26)) (ge_q1 : n0 ≤ q1) :
    Does l mn34 prog_15_method_1_code 3 none [] ({ frames := 2, cells := 0, slots := 0, locals := 28 } : Room) Z #[(.ref q1), (.long y_a1)] h0 (fun v h L => v = none ∧ Fr n0 L ∧ Keep h0 h [q1] ∧ Fld Z h q1 sn5 "allowed" "J" (.long y_a1) ∧ Fld Z h q1 sn5 "spent" "J" (.long (0 : Int64))) := by
  refine Does.of (plainFor_of_name pn3) ?_
  intro p e s m below meth c s₁ hx hby hml hret hlk hZ hown hnm X0 e0
  have N0 := Fr.nil n0
  refine Goes.cast (g' := mkF m 0 #[SA q1, SJ y_a1, S2] []) (ef_au3_init m q1 y_a1) ?_
  have mi_q1 : q1 ∈ [q1] ∨ h0.size ≤ q1 := (Or.inl (List.mem_cons_self ..))
  have K0 := Keep.refl h0 [q1]
  refine gb s₁ (mkF m 3 #[SA q1, SJ y_a1, S2] [(.long (0 : Int64)), (.long y_a1), (.ref q1)]) (fun _ k => XS.aloadN X0.here hx rfl (hb hby d1_0) rfl rfl (XS.lloadN X0.here hx rfl (hb hby d1_1) rfl (XS.lconst X0.here hx rfl (hb hby d1_2)  k))) ?_
  refine own_c1 (callI X0 hx hZ (y := mn33) rfl hown (ww hw 12 rfl) (ww hw 13 rfl) (ww hw 14 rfl) (ww hw 7 rfl) (by decide) e0 (a := q1) (argsL := [(.long y_a1), (.long (0 : Int64))]) (rest := []) (W := 0) (au2_init l Z a0 hw q1 y_a1 (0 : Int64) y_23 y_25 y_26 h0 n0 Z0 u22 u23 u24 u25 u26 ge_q1) rfl (by decide) (by decide) (by decide) (by decide) rfl (by rw [hml]; rfl) (lenOf pd2 rfl) rfl (by show 2 * 0 + _ ≤ _; exact Nat.le_of_eq rfl) (hb hby d1_3)) fun v77 T77 L77 X77 hQ77 => ?_
  obtain ⟨rfl, NL77, K77, f75, f76⟩ := hQ77
  have N0 := Fr.app N0 NL77
  have e77 : T77.heap = T77.heap := rfl
  have Z0 := Nat.le_trans Z0 K77.1
  have K0 := K0.trans K77 (allS mi_q1 all0)
  exact outV X77 hx hlk hret (hb hby d1_6) (by rw [e77]; exact ⟨rfl, N0, K0, f75, f76⟩) (by decide) (by decide)
theorem d6_0 : decode prog_18_method_1_code 0 = .ok (.aload_n 0, 1) := by decide +kernel
theorem d6_1 : decode prog_18_method_1_code 1 = .ok (.invokespecial 1, 3) := by decide +kernel
theorem d6_4 : decode prog_18_method_1_code 4 = .ok (.aload_n 0, 1) := by decide +kernel
theorem d6_5 : decode prog_18_method_1_code 5 = .ok (.bipush 17, 2) := by decide +kernel
theorem d6_7 : decode prog_18_method_1_code 7 = .ok (.anewarray 9, 3) := by decide +kernel
theorem d6_10 : decode prog_18_method_1_code 10 = .ok (.putfield 11, 3) := by decide +kernel
theorem d6_13 : decode prog_18_method_1_code 13 = .ok (.aload_n 0, 1) := by decide +kernel
theorem d6_14 : decode prog_18_method_1_code 14 = .ok (.dconst 1, 1) := by decide +kernel
theorem d6_15 : decode prog_18_method_1_code 15 = .ok (.putfield 15, 3) := by decide +kernel
theorem d6_18 : decode prog_18_method_1_code 18 = .ok (.iload_n 1, 1) := by decide +kernel
theorem d6_19 : decode prog_18_method_1_code 19 = .ok (.bipush 16, 2) := by decide +kernel
theorem d6_21 : decode prog_18_method_1_code 21 = .ok (.if_icmp .le 9, 3) := by decide +kernel
theorem d6_30 : decode prog_18_method_1_code 30 = .ok (.return_, 1) := by decide +kernel
theorem ef_au4_init (m : MethodId) (x0 : Addr) (x1 : Int32) : entryFrame m #[(.ref x0), (.int x1)] 2 = mkF m 0 #[SA x0, SI x1] [] := by first | (simp [entryFrame, mkF, argsToLocals, Value.category, maxLocals]; done) | rfl
set_option maxRecDepth 65536 in
set_option maxHeartbeats 40000000 in
theorem au4_init (l : Launch) (Z : State) (a0 : Array Value) (hw : ∀ d ∈ tables_1, d.before a0 Z = true) (o5_1 : Addr) (y_33 : Int32) (y_32 y_34 : UInt64) (h0 : Heap) (n0 : Nat) (Z0 : n0 ≤ h0.size) (u30 : Exa Z h0 o5_1 sn4) (u31 : Fld Z h0 o5_1 sn4 "heap" sn10 .null) (u32 : Fld Z h0 o5_1 sn4 "daysPerSecond" "D" (.double y_32)) (u33 : Fld Z h0 o5_1 sn4 "size" "I" (.int y_33)) (u34 : Fld Z h0 o5_1 sn4 "floor" "D" (.double y_34)) (ge_o5_1 : n0 ≤ o5_1) :
    Does l mn35 prog_18_method_1_code 2 none [] ({ frames := 1, cells := 1, slots := 17, locals := 12 } : Room) Z #[(.ref o5_1), (.int (0 : Int32))] h0 (fun v h L => ∃ (o6_1 : Addr), v = none ∧ Fr n0 L ∧ Keep h0 h [o5_1] ∧ h0.size ≤ o6_1 ∧ Fld Z h o5_1 sn4 "heap" sn10 (.ref o6_1) ∧ Fld Z h o5_1 sn4 "size" "I" (.int y_33) ∧ Fld Z h o5_1 sn4 "floor" "D" (.double y_34) ∧ OvS Z h o6_1 sn1 ∧ Sar Z h o6_1 (.object sn1) [.null, .null, .null, .null, .null, .null, .null, .null, .null, .null, .null, .null, .null, .null, .null, .null, .null]) := by
  refine Does.of (plainFor_of_name pn4) ?_
  intro p e s m below meth c s₁ hx hby hml hret hlk hZ hown hnm X0 e0
  have N0 := Fr.nil n0
  refine Goes.cast (g' := mkF m 0 #[SA o5_1, SI 0] []) (ef_au4_init m o5_1 (0 : Int32)) ?_
  have mi_o5_1 : o5_1 ∈ [o5_1] ∨ h0.size ≤ o5_1 := (Or.inl (List.mem_cons_self ..))
  have K0 := Keep.refl h0 [o5_1]
  refine gb s₁ (mkF m 1 #[SA o5_1, SI 0] [(.ref o5_1)]) (fun _ k => XS.aloadN X0.here hx rfl (hb hby d6_0) rfl rfl k) ?_
  obtain ⟨T120, X120, e120, st120⟩ := initO X0 hx hZ hown (ww hw 44 rfl) (ww hw 16 rfl) (ww hw 17 rfl) e0 (g := (mkF m 1 #[SA o5_1, SI 0] [(.ref o5_1)])) rfl (by rw [hml]; rfl) rfl (hb hby d6_1) (by decide) (W := 0) (by show 2 * 0 + _ ≤ _; exact Nat.le_of_eq rfl) (by decide)
  refine gb T120 (mkF m 4 #[SA o5_1, SI 0] []) st120 ?_
  refine gb T120 (mkF m 7 #[SA o5_1, SI 0] [(.int (17 : Int32)), (.ref o5_1)]) (fun _ k => XS.aloadN X120.here hx rfl (hb hby d6_4) rfl rfl (XS.bipush X120.here hx rfl (hb hby d6_5)  k)) ?_
  obtain ⟨T121, h121, k121, X121, e121, E121, A121, O121, st121⟩ := newR X120 hx hZ hown (ww hw 45 rfl) (ww hw 46 rfl) e120 (g := (mkF m 7 #[SA o5_1, SI 0] [(.int (17 : Int32)), (.ref o5_1)])) rfl (hb hby d6_7) rfl (by decide) (cap := 17) (by decide) (by decide) (by decide) (by decide)
  obtain ⟨o6_1, g121⟩ : ∃ z, z = h0.size := ⟨_, rfl⟩
  rw [← g121] at A121 st121
  have ne_o5_1_o6_1 : o5_1 ≠ o6_1 := own_nb u30.lt g121
  have ge_o6_1 : n0 ≤ o6_1 := Nat.le_trans Z0 (Nat.le_of_eq g121.symm)
  have sz_o6_1 : h0.size ≤ o6_1 := Nat.le_trans K0.1 (Nat.le_of_eq g121.symm)
  have u30 := u30.ext E121
  have u31 := u31.ext E121
  have u32 := u32.ext E121
  have u33 := u33.ext E121
  have u34 := u34.ext E121
  have Z0 := Nat.le_trans Z0 E121.1
  have K0 := K0.ext E121
  have O_o6_1 : OvS Z h121 o6_1 sn1 := ⟨_, A121.1, O121⟩
  have V_o6_1 : Sar Z h121 o6_1 (.object sn1) [.null, .null, .null, .null, .null, .null, .null, .null, .null, .null, .null, .null, .null, .null, .null, .null, .null] := Sar.new (n := 17) A121 (by decide)
  refine gb T121 (mkF m 10 #[SA o5_1, SI 0] [(.ref o6_1), (.ref o5_1)]) st121 ?_
  refine own_p1 (putF X121 hx hZ hown (host := "") (Or.inl (ww hw 47 rfl)) Via.refl e121 u31 u30 (Or.inl (ww hw 48 rfl)) (ww hw 39 rfl) (ty := (.array (.object sn1))) (by decide) rfl rfl rfl rfl (hb hby d6_10)) fun T122 h122 X122 e122 W122 => ?_
  have N0 := Fr.snoc X122 N0 ge_o5_1
  have u30 := u30.wr W122
  have u31 := u31.same W122
  have u32 := own_oth u32 W122 (Or.inl (ww hw 50 rfl)) (Or.inl (ww hw 48 rfl)) (by decide)
  have u33 := own_oth u33 W122 (Or.inl (ww hw 129 rfl)) (Or.inl (ww hw 48 rfl)) (by decide)
  have u34 := own_oth u34 W122 (Or.inl (ww hw 327 rfl)) (Or.inl (ww hw 48 rfl)) (by decide)
  have O_o6_1 := O_o6_1.wr W122
  have V_o6_1 := V_o6_1.other W122 (Ne.symm ne_o5_1_o6_1)
  have Z0 := own_zw Z0 W122
  have K0 := K0.wr W122 mi_o5_1
  refine gb T122 (mkF m 15 #[SA o5_1, SI 0] [(.double (4607182418800017408 : UInt64)), (.ref o5_1)]) (fun _ k => XS.aloadN X122.here hx rfl (hb hby d6_13) rfl rfl (XS.dconst1 X122.here hx rfl (hb hby d6_14) rfl k)) ?_
  refine own_p1 (putF X122 hx hZ hown (host := "") (Or.inl (ww hw 49 rfl)) Via.refl e122 u32 u30 (Or.inl (ww hw 50 rfl)) (ww hw 39 rfl) (ty := .double) (by decide) rfl rfl rfl rfl (hb hby d6_15)) fun T123 h123 X123 e123 W123 => ?_
  have N0 := Fr.snoc X123 N0 ge_o5_1
  have u31 := own_oth u31 W123 (Or.inl (ww hw 48 rfl)) (Or.inl (ww hw 50 rfl)) (by decide)
  have u33 := own_oth u33 W123 (Or.inl (ww hw 129 rfl)) (Or.inl (ww hw 50 rfl)) (by decide)
  have u34 := own_oth u34 W123 (Or.inl (ww hw 327 rfl)) (Or.inl (ww hw 50 rfl)) (by decide)
  have O_o6_1 := O_o6_1.wr W123
  have V_o6_1 := V_o6_1.other W123 (Ne.symm ne_o5_1_o6_1)
  have Z0 := own_zw Z0 W123
  have K0 := K0.wr W123 mi_o5_1
  refine gb T123 (mkF m 21 #[SA o5_1, SI 0] [(.int (16 : Int32)), (.int (0 : Int32))]) (fun _ k => XS.iloadN X123.here hx rfl (hb hby d6_18) rfl (XS.bipush X123.here hx rfl (hb hby d6_19)  k)) ?_
  refine gb T123 (mkF m 30 #[SA o5_1, SI 0] []) (fun _ k => XS.icmpYes X123.here hx rfl (pc0 := 21) (pc' := 30) rfl (hb hby d6_21) rfl (by decide) (by decide) (by decide) k) ?_
  exact outV X123 hx hlk hret (hb hby d6_30) (by rw [e123]; exact ⟨o6_1, rfl, N0, K0, sz_o6_1, u31, u33, u34, O_o6_1, V_o6_1⟩) (by decide) (by decide)
theorem d5_0 : decode prog_19_method_2_code 0 = .ok (.aload_n 0, 1) := by decide +kernel
theorem d5_1 : decode prog_19_method_2_code 1 = .ok (.invokespecial 7, 3) := by decide +kernel
theorem d5_4 : decode prog_19_method_2_code 4 = .ok (.aload_n 0, 1) := by decide +kernel
theorem d5_5 : decode prog_19_method_2_code 5 = .ok (.aload_n 1, 1) := by decide +kernel
theorem d5_6 : decode prog_19_method_2_code 6 = .ok (.putfield 12, 3) := by decide +kernel
theorem d5_9 : decode prog_19_method_2_code 9 = .ok (.aload_n 0, 1) := by decide +kernel
theorem d5_10 : decode prog_19_method_2_code 10 = .ok (.new 16, 3) := by decide +kernel
theorem d5_13 : decode prog_19_method_2_code 13 = .ok (.dup, 1) := by decide +kernel
theorem d5_14 : decode prog_19_method_2_code 14 = .ok (.iload_n 2, 1) := by decide +kernel
theorem d5_15 : decode prog_19_method_2_code 15 = .ok (.invokespecial 18, 3) := by decide +kernel
theorem d5_18 : decode prog_19_method_2_code 18 = .ok (.putfield 21, 3) := by decide +kernel
theorem d5_21 : decode prog_19_method_2_code 21 = .ok (.return_, 1) := by decide +kernel
theorem ef_au5_init (m : MethodId) (x0 : Addr) (x1 : Addr) (x2 : Int32) : entryFrame m #[(.ref x0), (.ref x1), (.int x2)] 3 = mkF m 0 #[SA x0, SA x1, SI x2] [] := by first | (simp [entryFrame, mkF, argsToLocals, Value.category, maxLocals]; done) | rfl
set_option maxRecDepth 65536 in
set_option maxHeartbeats 40000000 in
theorem au5_init (l : Launch) (Z : State) (a0 : Array Value) (hw : ∀ d ∈ tables_1, d.before a0 Z = true) (q2 q1 : Addr) (y_29 : Int64) (y_28 : UInt64) (h0 : Heap) (n0 : Nat) (Z0 : n0 ≤ h0.size) (u25 : Exa Z h0 q2 sn2) (u26 : Fld Z h0 q2 sn2 "budget" sn16 .null) (u27 : Fld Z h0 q2 sn2 "pending" sn21 .null) (u28 : Fld Z h0 q2 sn2 "now" "D" (.double y_28)) (u29 : Fld Z h0 q2 sn2 "scheduled" "J" (.long y_29)) (ge_q2 : n0 ≤ q2) :
    Does l mn36 prog_19_method_2_code 3 none [] ({ frames := 2, cells := 2, slots := 29, locals := 27 } : Room) Z #[(.ref q2), (.ref q1), (.int (0 : Int32))] h0 (fun v h L => ∃ (o5_1 o5_2 : Addr), v = none ∧ Fr n0 L ∧ Keep h0 h [q2] ∧ h0.size ≤ o5_1 ∧ h0.size ≤ o5_2 ∧ o5_1 ≠ o5_2 ∧ Fld Z h q2 sn2 "budget" sn16 (.ref q1) ∧ Fld Z h q2 sn2 "pending" sn21 (.ref o5_1) ∧ Fld Z h q2 sn2 "now" "D" (.double y_28) ∧ Fld Z h q2 sn2 "scheduled" "J" (.long y_29) ∧ Exa Z h o5_1 sn4 ∧ Fld Z h o5_1 sn4 "heap" sn10 (.ref o5_2) ∧ Fld Z h o5_1 sn4 "size" "I" (.int (0 : Int32)) ∧ Fld Z h o5_1 sn4 "floor" "D" (.double (0 : UInt64)) ∧ OvS Z h o5_2 sn1 ∧ Sar Z h o5_2 (.object sn1) [.null, .null, .null, .null, .null, .null, .null, .null, .null, .null, .null, .null, .null, .null, .null, .null, .null]) := by
  refine Does.of (plainFor_of_name pn1) ?_
  intro p e s m below meth c s₁ hx hby hml hret hlk hZ hown hnm X0 e0
  have N0 := Fr.nil n0
  refine Goes.cast (g' := mkF m 0 #[SA q2, SA q1, SI 0] []) (ef_au5_init m q2 q1 (0 : Int32)) ?_
  have mi_q2 : q2 ∈ [q2] ∨ h0.size ≤ q2 := (Or.inl (List.mem_cons_self ..))
  have K0 := Keep.refl h0 [q2]
  refine gb s₁ (mkF m 1 #[SA q2, SA q1, SI 0] [(.ref q2)]) (fun _ k => XS.aloadN X0.here hx rfl (hb hby d5_0) rfl rfl k) ?_
  obtain ⟨T159, X159, e159, st159⟩ := initO X0 hx hZ hown (ww hw 35 rfl) (ww hw 16 rfl) (ww hw 17 rfl) e0 (g := (mkF m 1 #[SA q2, SA q1, SI 0] [(.ref q2)])) rfl (by rw [hml]; rfl) rfl (hb hby d5_1) (by decide) (W := 0) (by show 2 * 0 + _ ≤ _; exact Nat.le_of_eq rfl) (by decide)
  refine gb T159 (mkF m 4 #[SA q2, SA q1, SI 0] []) st159 ?_
  refine gb T159 (mkF m 6 #[SA q2, SA q1, SI 0] [(.ref q1), (.ref q2)]) (fun _ k => XS.aloadN X159.here hx rfl (hb hby d5_4) rfl rfl (XS.aloadN X159.here hx rfl (hb hby d5_5) rfl rfl k)) ?_
  refine own_p1 (putF X159 hx hZ hown (host := "") (Or.inl (ww hw 36 rfl)) Via.refl e159 u26 u25 (Or.inr ⟨(ww hw 37 rfl), rfl, hnm⟩) (ww hw 27 rfl) (ty := (.object sn5)) (by decide) rfl rfl rfl rfl (hb hby d5_6)) fun T160 h160 X160 e160 W160 => ?_
  have N0 := Fr.snoc X160 N0 ge_q2
  have u25 := u25.wr W160
  have u26 := u26.same W160
  have u27 := own_oth u27 W160 (Or.inr (ww hw 52 rfl)) (Or.inr (ww hw 37 rfl)) (by decide)
  have u28 := own_oth u28 W160 (Or.inl (ww hw 106 rfl)) (Or.inr (ww hw 37 rfl)) (by decide)
  have u29 := own_oth u29 W160 (Or.inl (ww hw 120 rfl)) (Or.inr (ww hw 37 rfl)) (by decide)
  have Z0 := own_zw Z0 W160
  have K0 := K0.wr W160 mi_q2
  refine gb T160 (mkF m 10 #[SA q2, SA q1, SI 0] [(.ref q2)]) (fun _ k => XS.aloadN X160.here hx rfl (hb hby d5_9) rfl rfl k) ?_
  obtain ⟨T161, h161, X161, e161, E161, A161, D161, -, st161⟩ := newO X160 hx hZ hown (ww hw 38 rfl) (ww hw 39 rfl) (ww hw 40 rfl) e160 (g := (mkF m 10 #[SA q2, SA q1, SI 0] [(.ref q2)])) rfl (hb hby d5_10) (by decide) (by decide)
  obtain ⟨o5_1, g161⟩ : ∃ z, z = h160.size := ⟨_, rfl⟩
  rw [← g161] at A161 D161 st161
  have ne_q2_o5_1 : q2 ≠ o5_1 := own_nb u25.lt g161
  have ge_o5_1 : n0 ≤ o5_1 := Nat.le_trans Z0 (Nat.le_of_eq g161.symm)
  have sz_o5_1 : h0.size ≤ o5_1 := Nat.le_trans K0.1 (Nat.le_of_eq g161.symm)
  have u25 := u25.ext E161
  have u26 := u26.ext E161
  have u27 := u27.ext E161
  have u28 := u28.ext E161
  have u29 := u29.ext E161
  have Z0 := Nat.le_trans Z0 E161.1
  have K0 := K0.ext E161
  have E_o5_1 := A161
  have f162 : Fld Z h161 o5_1 sn4 "heap" sn10 .null := D161 (Or.inl (ww hw 48 rfl)) (ty := (.array (.object sn1))) (by decide)
  have f163 : Fld Z h161 o5_1 sn4 "daysPerSecond" "D" (.double (0 : UInt64)) := D161 (Or.inl (ww hw 50 rfl)) (ty := .double) (by decide)
  have f164 : Fld Z h161 o5_1 sn4 "size" "I" (.int (0 : Int32)) := D161 (Or.inl (ww hw 129 rfl)) (ty := .int) (by decide)
  have f165 : Fld Z h161 o5_1 sn4 "floor" "D" (.double (0 : UInt64)) := D161 (Or.inl (ww hw 327 rfl)) (ty := .double) (by decide)
  refine gb T161 (mkF m 13 #[SA q2, SA q1, SI 0] [(.ref o5_1), (.ref q2)]) st161 ?_
  refine gb T161 (mkF m 15 #[SA q2, SA q1, SI 0] [(.int (0 : Int32)), (.ref o5_1), (.ref o5_1), (.ref q2)]) (fun _ k => XS.dup X161.here hx rfl (hb hby d5_13) rfl rfl (XS.iloadN X161.here hx rfl (hb hby d5_14) rfl k)) ?_
  refine own_c1 (callI X161 hx hZ (y := mn35) rfl hown (ww hw 41 rfl) (ww hw 42 rfl) (ww hw 43 rfl) (ww hw 40 rfl) (by decide) e161 (a := o5_1) (argsL := [(.int (0 : Int32))]) (rest := [(.ref o5_1), (.ref q2)]) (W := 2) (au4_init l Z a0 hw o5_1 (0 : Int32) (0 : UInt64) (0 : UInt64) h161 n0 Z0 E_o5_1 f162 f163 f164 f165 ge_o5_1) rfl (by decide) (by decide) (by decide) (by decide) rfl (by rw [hml]; rfl) (lenOf pd4 rfl) rfl (by show 2 * 0 + _ ≤ _; exact Nat.le_of_eq rfl) (hb hby d5_15)) fun v171 T171 L171 X171 hQ171 => ?_
  obtain ⟨o5_2, rfl, NL171, K171, sz171_o5_2, f166, f167, f168, f169, f170⟩ := hQ171
  have N0 := Fr.app N0 NL171
  have ne_q2_o5_2 : q2 ≠ o5_2 := own_nc u25.lt sz171_o5_2
  have ne_o5_1_o5_2 : o5_1 ≠ o5_2 := own_nc E_o5_1.lt sz171_o5_2
  have ge_o5_2 : n0 ≤ o5_2 := Nat.le_trans Z0 sz171_o5_2
  have sz_o5_2 : h0.size ≤ o5_2 := Nat.le_trans K0.1 sz171_o5_2
  have e171 : T171.heap = T171.heap := rfl
  have u25 := u25.keep K171
  have u26 := u26.keep K171 (ninS ne_q2_o5_1 nin0)
  have u27 := u27.keep K171 (ninS ne_q2_o5_1 nin0)
  have u28 := u28.keep K171 (ninS ne_q2_o5_1 nin0)
  have u29 := u29.keep K171 (ninS ne_q2_o5_1 nin0)
  have E_o5_1 := E_o5_1.keep K171
  have Z0 := Nat.le_trans Z0 K171.1
  have K0 := K0.trans K171 (allS (Or.inr sz_o5_1) all0)
  refine own_p1 (putF X171 hx hZ hown (host := "") (Or.inl (ww hw 51 rfl)) Via.refl e171 u27 u25 (Or.inr ⟨(ww hw 52 rfl), rfl, hnm⟩) (ww hw 27 rfl) (ty := (.object sn4)) (by decide) rfl rfl rfl rfl (hb hby d5_18)) fun T172 h172 X172 e172 W172 => ?_
  have N0 := Fr.snoc X172 N0 ge_q2
  have u26 := own_oth u26 W172 (Or.inr (ww hw 37 rfl)) (Or.inr (ww hw 52 rfl)) (by decide)
  have u27 := u27.same W172
  have u28 := own_oth u28 W172 (Or.inl (ww hw 106 rfl)) (Or.inr (ww hw 52 rfl)) (by decide)
  have u29 := own_oth u29 W172 (Or.inl (ww hw 120 rfl)) (Or.inr (ww hw 52 rfl)) (by decide)
  have E_o5_1 := E_o5_1.wr W172
  have f166 := f166.other W172 (Or.inl (Ne.symm ne_q2_o5_1))
  have f167 := f167.other W172 (Or.inl (Ne.symm ne_q2_o5_1))
  have f168 := f168.other W172 (Or.inl (Ne.symm ne_q2_o5_1))
  have f169 := f169.wr W172
  have f170 := f170.other W172 (Ne.symm ne_q2_o5_2)
  have Z0 := own_zw Z0 W172
  have K0 := K0.wr W172 mi_q2
  exact outV X172 hx hlk hret (hb hby d5_21) (by rw [e172]; exact ⟨o5_1, o5_2, rfl, N0, K0, sz_o5_1, sz_o5_2, ne_o5_1_o5_2, u26, u27, u28, u29, E_o5_1, f166, f167, f168, f169, f170⟩) (by decide) (by decide)
theorem d4_0 : decode prog_19_method_1_code 0 = .ok (.aload_n 0, 1) := by decide +kernel
theorem d4_1 : decode prog_19_method_1_code 1 = .ok (.aload_n 1, 1) := by decide +kernel
theorem d4_2 : decode prog_19_method_1_code 2 = .ok (.iconst 0, 1) := by decide +kernel
theorem d4_3 : decode prog_19_method_1_code 3 = .ok (.invokespecial 1, 3) := by decide +kernel
theorem d4_6 : decode prog_19_method_1_code 6 = .ok (.return_, 1) := by decide +kernel
theorem ef_au6_init (m : MethodId) (x0 : Addr) (x1 : Addr) : entryFrame m #[(.ref x0), (.ref x1)] 2 = mkF m 0 #[SA x0, SA x1] [] := by first | (simp [entryFrame, mkF, argsToLocals, Value.category, maxLocals]; done) | rfl
set_option maxRecDepth 65536 in
set_option maxHeartbeats 40000000 in
theorem au6_init (l : Launch) (Z : State) (a0 : Array Value) (hw : ∀ d ∈ tables_1, d.before a0 Z = true) (q2 q1 : Addr) (y_29 : Int64) (y_28 : UInt64) (h0 : Heap) (n0 : Nat) (Z0 : n0 ≤ h0.size) (u25 : Exa Z h0 q2 sn2) (u26 : Fld Z h0 q2 sn2 "budget" sn16 .null) (u27 : Fld Z h0 q2 sn2 "pending" sn21 .null) (u28 : Fld Z h0 q2 sn2 "now" "D" (.double y_28)) (u29 : Fld Z h0 q2 sn2 "scheduled" "J" (.long y_29)) (ge_q2 : n0 ≤ q2) :
    Does l mn37 prog_19_method_1_code 2 none [] ({ frames := 3, cells := 2, slots := 29, locals := 41 } : Room) Z #[(.ref q2), (.ref q1)] h0 (fun v h L => ∃ (o4_1 o4_2 : Addr), v = none ∧ Fr n0 L ∧ Keep h0 h [q2] ∧ h0.size ≤ o4_1 ∧ h0.size ≤ o4_2 ∧ o4_1 ≠ o4_2 ∧ Fld Z h q2 sn2 "budget" sn16 (.ref q1) ∧ Fld Z h q2 sn2 "pending" sn21 (.ref o4_1) ∧ Fld Z h q2 sn2 "now" "D" (.double y_28) ∧ Fld Z h q2 sn2 "scheduled" "J" (.long y_29) ∧ Exa Z h o4_1 sn4 ∧ Fld Z h o4_1 sn4 "heap" sn10 (.ref o4_2) ∧ Fld Z h o4_1 sn4 "size" "I" (.int (0 : Int32)) ∧ Fld Z h o4_1 sn4 "floor" "D" (.double (0 : UInt64)) ∧ OvS Z h o4_2 sn1 ∧ Sar Z h o4_2 (.object sn1) [.null, .null, .null, .null, .null, .null, .null, .null, .null, .null, .null, .null, .null, .null, .null, .null, .null]) := by
  refine Does.of (plainFor_of_name pn1) ?_
  intro p e s m below meth c s₁ hx hby hml hret hlk hZ hown hnm X0 e0
  have N0 := Fr.nil n0
  refine Goes.cast (g' := mkF m 0 #[SA q2, SA q1] []) (ef_au6_init m q2 q1) ?_
  have mi_q2 : q2 ∈ [q2] ∨ h0.size ≤ q2 := (Or.inl (List.mem_cons_self ..))
  have K0 := Keep.refl h0 [q2]
  refine gb s₁ (mkF m 3 #[SA q2, SA q1] [(.int (0 : Int32)), (.ref q1), (.ref q2)]) (fun _ k => XS.aloadN X0.here hx rfl (hb hby d4_0) rfl rfl (XS.aloadN X0.here hx rfl (hb hby d4_1) rfl rfl (XS.iconst X0.here hx rfl (hb hby d4_2)  k))) ?_
  refine own_c1 (callI X0 hx hZ (y := mn36) rfl hown (ww hw 32 rfl) (ww hw 33 rfl) (ww hw 34 rfl) (ww hw 28 rfl) (by decide) e0 (a := q2) (argsL := [(.ref q1), (.int (0 : Int32))]) (rest := []) (W := 0) (au5_init l Z a0 hw q2 q1 y_29 y_28 h0 n0 Z0 u25 u26 u27 u28 u29 ge_q2) rfl (by decide) (by decide) (by decide) (by decide) rfl (by rw [hml]; rfl) (lenOf pd5 rfl) rfl (by show 2 * 0 + _ ≤ _; exact Nat.le_of_eq rfl) (hb hby d4_3)) fun v216 T216 L216 X216 hQ216 => ?_
  obtain ⟨o4_1, o4_2, rfl, NL216, K216, sz216_o4_1, sz216_o4_2, ne_o4_1_o4_2, f206, f207, f208, f209, f210, f211, f212, f213, f214, f215⟩ := hQ216
  have N0 := Fr.app N0 NL216
  have ge_o4_1 : n0 ≤ o4_1 := Nat.le_trans Z0 sz216_o4_1
  have sz_o4_1 : h0.size ≤ o4_1 := Nat.le_trans K0.1 sz216_o4_1
  have ge_o4_2 : n0 ≤ o4_2 := Nat.le_trans Z0 sz216_o4_2
  have sz_o4_2 : h0.size ≤ o4_2 := Nat.le_trans K0.1 sz216_o4_2
  have e216 : T216.heap = T216.heap := rfl
  have Z0 := Nat.le_trans Z0 K216.1
  have K0 := K0.trans K216 (allS mi_q2 all0)
  exact outV X216 hx hlk hret (hb hby d4_6) (by rw [e216]; exact ⟨o4_1, o4_2, rfl, N0, K0, sz_o4_1, sz_o4_2, ne_o4_1_o4_2, f206, f207, f208, f209, f210, f211, f212, f213, f214, f215⟩) (by decide) (by decide)
theorem d8_0 : decode jdk_30_method_1_code 0 = .ok (.aload_n 0, 1) := by decide +kernel
theorem d8_1 : decode jdk_30_method_1_code 1 = .ok (.invokespecial 1, 3) := by decide +kernel
theorem d8_4 : decode jdk_30_method_1_code 4 = .ok (.return_, 1) := by decide +kernel
set_option maxRecDepth 65536 in
set_option maxHeartbeats 40000000 in
theorem au7_init (l : Launch) (Z : State) (a0 : Array Value) (hw : ∀ d ∈ tables_1, d.before a0 Z = true) (q6 : Addr) (h0 : Heap) (n0 : Nat) (Z0 : n0 ≤ h0.size)  :
    Does l (⟨"java/lang/Record", "<init>", "()V"⟩ : MethodName) jdk_30_method_1_code 1 none [] ({ frames := 1, cells := 0, slots := 0, locals := 12 } : Room) Z #[(.ref q6)] h0 (fun v h L => v = none ∧ Fr n0 L ∧ h = h0) := by
  refine Does.of (plainFor_of_name pn5) ?_
  intro p e s m below meth c s₁ hx hby hml hret hlk hZ hown hnm X0 e0
  have N0 := Fr.nil n0
  refine Goes.cast (g' := mkF m 0 #[SA q6] []) (ef_au0_now m q6) ?_
  have K0 := Keep.refl h0 []
  refine gb s₁ (mkF m 1 #[SA q6] [(.ref q6)]) (fun _ k => XS.aloadN X0.here hx rfl (hb hby d8_0) rfl rfl k) ?_
  obtain ⟨T237, X237, e237, st237⟩ := initO X0 hx hZ hown (ww hw 67 rfl) (ww hw 16 rfl) (ww hw 17 rfl) e0 (g := (mkF m 1 #[SA q6] [(.ref q6)])) rfl (by rw [hml]; rfl) rfl (hb hby d8_1) (by decide) (W := 0) (by show 2 * 0 + _ ≤ _; exact Nat.le_of_eq rfl) (by decide)
  refine gb T237 (mkF m 4 #[SA q6] []) st237 ?_
  exact outV X237 hx hlk hret (hb hby d8_4) (by rw [e237]; exact ⟨rfl, N0, rfl⟩) (by decide) (by decide)
theorem d7_0 : decode prog_53_method_1_code 0 = .ok (.aload_n 0, 1) := by decide +kernel
theorem d7_1 : decode prog_53_method_1_code 1 = .ok (.invokespecial 1, 3) := by decide +kernel
theorem d7_4 : decode prog_53_method_1_code 4 = .ok (.aload_n 0, 1) := by decide +kernel
theorem d7_5 : decode prog_53_method_1_code 5 = .ok (.dload_n 1, 1) := by decide +kernel
theorem d7_6 : decode prog_53_method_1_code 6 = .ok (.putfield 7, 3) := by decide +kernel
theorem d7_9 : decode prog_53_method_1_code 9 = .ok (.aload_n 0, 1) := by decide +kernel
theorem d7_10 : decode prog_53_method_1_code 10 = .ok (.dload_n 3, 1) := by decide +kernel
theorem d7_11 : decode prog_53_method_1_code 11 = .ok (.putfield 13, 3) := by decide +kernel
theorem d7_14 : decode prog_53_method_1_code 14 = .ok (.return_, 1) := by decide +kernel
theorem ef_au8_init (m : MethodId) (x0 : Addr) (x1 : UInt64) (x2 : UInt64) : entryFrame m #[(.ref x0), (.double x1), (.double x2)] 5 = mkF m 0 #[SA x0, SD x1, S2, SD x2, S2] [] := by first | (simp [entryFrame, mkF, argsToLocals, Value.category, maxLocals]; done) | rfl
set_option maxRecDepth 65536 in
set_option maxHeartbeats 40000000 in
theorem au8_init (l : Launch) (Z : State) (a0 : Array Value) (hw : ∀ d ∈ tables_1, d.before a0 Z = true) (q6 : Addr) (y_a1 y_a2 y_40 y_41 : UInt64) (h0 : Heap) (n0 : Nat) (Z0 : n0 ≤ h0.size) (u39 : Exa Z h0 q6 sn13) (u40 : Fld Z h0 q6 sn13 "start" "D" (.double y_40)) (u41 : Fld Z h0 q6 sn13 "end" "D" (.double y_41)) (ge_q6 : n0 ≤ q6) :
    Does l mn28 prog_53_method_1_code 5 none [] ({ frames := 2, cells := 0, slots := 0, locals := 24 } : Room) Z #[(.ref q6), (.double y_a1), (.double y_a2)] h0 (fun v h L => v = none ∧ Fr n0 L ∧ Keep h0 h [q6] ∧ Fld Z h q6 sn13 "start" "D" (.double y_a1) ∧ Fld Z h q6 sn13 "end" "D" (.double y_a2)) := by
  refine Does.of (plainFor_of_name pn2) ?_
  intro p e s m below meth c s₁ hx hby hml hret hlk hZ hown hnm X0 e0
  have N0 := Fr.nil n0
  refine Goes.cast (g' := mkF m 0 #[SA q6, SD y_a1, S2, SD y_a2, S2] []) (ef_au8_init m q6 y_a1 y_a2) ?_
  have mi_q6 : q6 ∈ [q6] ∨ h0.size ≤ q6 := (Or.inl (List.mem_cons_self ..))
  have K0 := Keep.refl h0 [q6]
  refine gb s₁ (mkF m 1 #[SA q6, SD y_a1, S2, SD y_a2, S2] [(.ref q6)]) (fun _ k => XS.aloadN X0.here hx rfl (hb hby d7_0) rfl rfl k) ?_
  refine own_c1 (callI X0 hx hZ (y := (⟨"java/lang/Record", "<init>", "()V"⟩ : MethodName)) rfl hown (ww hw 62 rfl) (ww hw 63 rfl) (ww hw 66 rfl) (ww hw 65 rfl) (by decide) e0 (a := q6) (argsL := []) (rest := []) (W := 0) (au7_init l Z a0 hw q6 h0 n0 Z0 ) rfl (by decide) (by decide) (by decide) (by decide) rfl (by rw [hml]; rfl) (lenOf pd7 rfl) rfl (by show 2 * 0 + _ ≤ _; exact Nat.le_of_eq rfl) (hb hby d7_1)) fun v247 T247 L247 X247 hQ247 => ?_
  obtain ⟨rfl, NL247, hk247⟩ := hQ247
  have N0 := Fr.app N0 NL247
  refine gb T247 (mkF m 6 #[SA q6, SD y_a1, S2, SD y_a2, S2] [(.double y_a1), (.ref q6)]) (fun _ k => XS.aloadN X247.here hx rfl (hb hby d7_4) rfl rfl (XS.dloadN X247.here hx rfl (hb hby d7_5) rfl k)) ?_
  refine own_p1 (putF X247 hx hZ hown (host := "") (Or.inl (ww hw 68 rfl)) Via.refl hk247 u40 u39 (Or.inr ⟨(ww hw 69 rfl), rfl, hnm⟩) (ww hw 57 rfl) (ty := .double) (by decide) rfl rfl rfl rfl (hb hby d7_6)) fun T248 h248 X248 e248 W248 => ?_
  have N0 := Fr.snoc X248 N0 ge_q6
  have u39 := u39.wr W248
  have u40 := u40.same W248
  have u41 := own_oth u41 W248 (Or.inr (ww hw 71 rfl)) (Or.inr (ww hw 69 rfl)) (by decide)
  have Z0 := own_zw Z0 W248
  have K0 := K0.wr W248 mi_q6
  refine gb T248 (mkF m 11 #[SA q6, SD y_a1, S2, SD y_a2, S2] [(.double y_a2), (.ref q6)]) (fun _ k => XS.aloadN X248.here hx rfl (hb hby d7_9) rfl rfl (XS.dloadN X248.here hx rfl (hb hby d7_10) rfl k)) ?_
  refine own_p1 (putF X248 hx hZ hown (host := "") (Or.inl (ww hw 70 rfl)) Via.refl e248 u41 u39 (Or.inr ⟨(ww hw 71 rfl), rfl, hnm⟩) (ww hw 57 rfl) (ty := .double) (by decide) rfl rfl rfl rfl (hb hby d7_11)) fun T249 h249 X249 e249 W249 => ?_
  have N0 := Fr.snoc X249 N0 ge_q6
  have u40 := own_oth u40 W249 (Or.inr (ww hw 69 rfl)) (Or.inr (ww hw 71 rfl)) (by decide)
  have u41 := u41.same W249
  have Z0 := own_zw Z0 W249
  have K0 := K0.wr W249 mi_q6
  exact outV X249 hx hlk hret (hb hby d7_14) (by rw [e249]; exact ⟨rfl, N0, K0, u40, u41⟩) (by decide) (by decide)
theorem d10_0 : decode prog_53_method_7_code 0 = .ok (.aload_n 0, 1) := by decide +kernel
theorem d10_1 : decode prog_53_method_7_code 1 = .ok (.getfield 7, 3) := by decide +kernel
theorem d10_4 : decode prog_53_method_7_code 4 = .ok (.dreturn, 1) := by decide +kernel
set_option maxRecDepth 65536 in
set_option maxHeartbeats 40000000 in
theorem au9_start (l : Launch) (Z : State) (a0 : Array Value) (hw : ∀ d ∈ tables_1, d.before a0 Z = true) (q6 : Addr) (y_40 : UInt64) (h0 : Heap) (n0 : Nat) (Z0 : n0 ≤ h0.size) (u40 : Fld Z h0 q6 sn13 "start" "D" (.double y_40)) :
    Does l mn38 prog_53_method_7_code 1 (some .double) [] ({ frames := 0, cells := 0, slots := 0, locals := 0 } : Room) Z #[(.ref q6)] h0 (fun v h L => v = some (.double y_40) ∧ Fr n0 L ∧ h = h0) := by
  refine Does.of (plainFor_of_name pn2) ?_
  intro p e s m below meth c s₁ hx hby hml hret hlk hZ hown hnm X0 e0
  have N0 := Fr.nil n0
  refine Goes.cast (g' := mkF m 0 #[SA q6] []) (ef_au0_now m q6) ?_
  have K0 := Keep.refl h0 []
  refine gb s₁ (mkF m 1 #[SA q6] [(.ref q6)]) (fun _ k => XS.aloadN X0.here hx rfl (hb hby d10_0) rfl rfl k) ?_
  refine own_g1 (getF X0 hx hZ hown (host := "") (Or.inl (ww hw 68 rfl)) Via.refl e0 u40 rfl rfl (hb hby d10_1)) fun T257 X257 e257 => ?_
  exact outD X257 hx hlk hret (hb hby d10_4) (by rw [e257]; exact ⟨rfl, N0, rfl⟩) (by decide) (by decide)
theorem d12_0 : decode prog_14_method_1_code 0 = .ok (.aload_n 0, 1) := by decide +kernel
theorem d12_1 : decode prog_14_method_1_code 1 = .ok (.invokespecial 1, 3) := by decide +kernel
theorem d12_4 : decode prog_14_method_1_code 4 = .ok (.aload_n 0, 1) := by decide +kernel
theorem d12_5 : decode prog_14_method_1_code 5 = .ok (.ldc2_w 9, 3) := by decide +kernel
theorem d12_8 : decode prog_14_method_1_code 8 = .ok (.putfield 11, 3) := by decide +kernel
theorem d12_11 : decode prog_14_method_1_code 11 = .ok (.return_, 1) := by decide +kernel
set_option maxRecDepth 65536 in
set_option maxHeartbeats 40000000 in
theorem au10_init (l : Launch) (Z : State) (a0 : Array Value) (hw : ∀ d ∈ tables_1, d.before a0 Z = true) (o9_1 q5 : Addr) (y_44 y_45 y_47 : Int64) (y_46 : UInt64) (h0 : Heap) (n0 : Nat) (Z0 : n0 ≤ h0.size) (u42 : Exa Z h0 o9_1 sn3) (u43 : Fld Z h0 o9_1 sn3 "this$0" sn6 (.ref q5)) (u44 : Fld Z h0 o9_1 sn1 "place" "J" (.long y_44)) (u45 : Fld Z h0 o9_1 sn3 "insideAfter" "J" (.long y_45)) (u46 : Fld Z h0 o9_1 sn1 "time" "D" (.double y_46)) (u47 : Fld Z h0 o9_1 sn1 "sequence" "J" (.long y_47)) (ge_o9_1 : n0 ≤ o9_1) :
    Does l mn39 prog_14_method_1_code 1 none [] ({ frames := 1, cells := 0, slots := 0, locals := 12 } : Room) Z #[(.ref o9_1)] h0 (fun v h L => v = none ∧ Fr n0 L ∧ Keep h0 h [o9_1] ∧ Fld Z h o9_1 sn3 "this$0" sn6 (.ref q5) ∧ Fld Z h o9_1 sn1 "place" "J" (.long (-1 : Int64)) ∧ Fld Z h o9_1 sn3 "insideAfter" "J" (.long y_45) ∧ Fld Z h o9_1 sn1 "time" "D" (.double y_46) ∧ Fld Z h o9_1 sn1 "sequence" "J" (.long y_47)) := by
  refine Does.of (plainFor_of_name pn6) ?_
  intro p e s m below meth c s₁ hx hby hml hret hlk hZ hown hnm X0 e0
  have N0 := Fr.nil n0
  refine Goes.cast (g' := mkF m 0 #[SA o9_1] []) (ef_au0_now m o9_1) ?_
  have mi_o9_1 : o9_1 ∈ [o9_1] ∨ h0.size ≤ o9_1 := (Or.inl (List.mem_cons_self ..))
  have K0 := Keep.refl h0 [o9_1]
  refine gb s₁ (mkF m 1 #[SA o9_1] [(.ref o9_1)]) (fun _ k => XS.aloadN X0.here hx rfl (hb hby d12_0) rfl rfl k) ?_
  obtain ⟨T273, X273, e273, st273⟩ := initO X0 hx hZ hown (ww hw 94 rfl) (ww hw 16 rfl) (ww hw 17 rfl) e0 (g := (mkF m 1 #[SA o9_1] [(.ref o9_1)])) rfl (by rw [hml]; rfl) rfl (hb hby d12_1) (by decide) (W := 0) (by show 2 * 0 + _ ≤ _; exact Nat.le_of_eq rfl) (by decide)
  refine gb T273 (mkF m 4 #[SA o9_1] []) st273 ?_
  refine gb T273 (mkF m 5 #[SA o9_1] [(.ref o9_1)]) (fun _ k => XS.aloadN X273.here hx rfl (hb hby d12_4) rfl rfl k) ?_
  refine gb T273 (mkF m 8 #[SA o9_1] [(.long (-1 : Int64)), (.ref o9_1)]) (X273.ldc2Long hx hown (mvT hZ (ww hw 95 rfl)) (g := (mkF m 5 #[SA o9_1] [(.ref o9_1)])) rfl (hb hby d12_5)) ?_
  refine own_p1 (putF X273 hx hZ hown (host := "") (Or.inl (ww hw 96 rfl)) Via.refl e273 u44 u42 (Or.inl (ww hw 97 rfl)) (ww hw 82 rfl) (ty := .long) (by decide) rfl rfl rfl rfl (hb hby d12_8)) fun T274 h274 X274 e274 W274 => ?_
  have N0 := Fr.snoc X274 N0 ge_o9_1
  have u43 := own_oth u43 W274 (Or.inr (ww hw 88 rfl)) (Or.inl (ww hw 97 rfl)) (by decide)
  have u44 := u44.same W274
  have u45 := own_oth u45 W274 (Or.inr (ww hw 99 rfl)) (Or.inl (ww hw 97 rfl)) (by decide)
  have u46 := own_oth u46 W274 (Or.inl (ww hw 118 rfl)) (Or.inl (ww hw 97 rfl)) (by decide)
  have u47 := own_oth u47 W274 (Or.inl (ww hw 122 rfl)) (Or.inl (ww hw 97 rfl)) (by decide)
  have Z0 := own_zw Z0 W274
  have K0 := K0.wr W274 mi_o9_1
  exact outV X274 hx hlk hret (hb hby d12_11) (by rw [e274]; exact ⟨rfl, N0, K0, u43, u44, u45, u46, u47⟩) (by decide) (by decide)
theorem d11_0 : decode prog_39_method_1_code 0 = .ok (.aload_n 0, 1) := by decide +kernel
theorem d11_1 : decode prog_39_method_1_code 1 = .ok (.aload_n 1, 1) := by decide +kernel
theorem d11_2 : decode prog_39_method_1_code 2 = .ok (.putfield 1, 3) := by decide +kernel
theorem d11_5 : decode prog_39_method_1_code 5 = .ok (.aload_n 0, 1) := by decide +kernel
theorem d11_6 : decode prog_39_method_1_code 6 = .ok (.invokespecial 7, 3) := by decide +kernel
theorem d11_9 : decode prog_39_method_1_code 9 = .ok (.aload_n 0, 1) := by decide +kernel
theorem d11_10 : decode prog_39_method_1_code 10 = .ok (.lload_n 2, 1) := by decide +kernel
theorem d11_11 : decode prog_39_method_1_code 11 = .ok (.putfield 13, 3) := by decide +kernel
theorem d11_14 : decode prog_39_method_1_code 14 = .ok (.return_, 1) := by decide +kernel
theorem ef_au11_init (m : MethodId) (x0 : Addr) (x1 : Addr) (x2 : Int64) : entryFrame m #[(.ref x0), (.ref x1), (.long x2)] 4 = mkF m 0 #[SA x0, SA x1, SJ x2, S2] [] := by first | (simp [entryFrame, mkF, argsToLocals, Value.category, maxLocals]; done) | rfl
set_option maxRecDepth 65536 in
set_option maxHeartbeats 40000000 in
theorem au11_init (l : Launch) (Z : State) (a0 : Array Value) (hw : ∀ d ∈ tables_1, d.before a0 Z = true) (o9_1 q5 : Addr) (y_a2 y_44 y_45 y_47 : Int64) (y_46 : UInt64) (h0 : Heap) (n0 : Nat) (Z0 : n0 ≤ h0.size) (u42 : Exa Z h0 o9_1 sn3) (u43 : Fld Z h0 o9_1 sn3 "this$0" sn6 .null) (u44 : Fld Z h0 o9_1 sn1 "place" "J" (.long y_44)) (u45 : Fld Z h0 o9_1 sn3 "insideAfter" "J" (.long y_45)) (u46 : Fld Z h0 o9_1 sn1 "time" "D" (.double y_46)) (u47 : Fld Z h0 o9_1 sn1 "sequence" "J" (.long y_47)) (ge_o9_1 : n0 ≤ o9_1) :
    Does l mn29 prog_39_method_1_code 4 none [] ({ frames := 2, cells := 0, slots := 0, locals := 24 } : Room) Z #[(.ref o9_1), (.ref q5), (.long y_a2)] h0 (fun v h L => v = none ∧ Fr n0 L ∧ Keep h0 h [o9_1] ∧ Fld Z h o9_1 sn3 "this$0" sn6 (.ref q5) ∧ Fld Z h o9_1 sn1 "place" "J" (.long (-1 : Int64)) ∧ Fld Z h o9_1 sn3 "insideAfter" "J" (.long y_a2) ∧ Fld Z h o9_1 sn1 "time" "D" (.double y_46) ∧ Fld Z h o9_1 sn1 "sequence" "J" (.long y_47)) := by
  refine Does.of (plainFor_of_name pn7) ?_
  intro p e s m below meth c s₁ hx hby hml hret hlk hZ hown hnm X0 e0
  have N0 := Fr.nil n0
  refine Goes.cast (g' := mkF m 0 #[SA o9_1, SA q5, SJ y_a2, S2] []) (ef_au11_init m o9_1 q5 y_a2) ?_
  have mi_o9_1 : o9_1 ∈ [o9_1] ∨ h0.size ≤ o9_1 := (Or.inl (List.mem_cons_self ..))
  have K0 := Keep.refl h0 [o9_1]
  refine gb s₁ (mkF m 2 #[SA o9_1, SA q5, SJ y_a2, S2] [(.ref q5), (.ref o9_1)]) (fun _ k => XS.aloadN X0.here hx rfl (hb hby d11_0) rfl rfl (XS.aloadN X0.here hx rfl (hb hby d11_1) rfl rfl k)) ?_
  refine own_p1 (putF X0 hx hZ hown (host := "") (Or.inl (ww hw 87 rfl)) Via.refl e0 u43 u42 (Or.inr ⟨(ww hw 88 rfl), rfl, hnm⟩) (ww hw 82 rfl) (ty := (.object sn12)) (by decide) rfl rfl rfl rfl (hb hby d11_2)) fun T298 h298 X298 e298 W298 => ?_
  have N0 := Fr.snoc X298 N0 ge_o9_1
  have u42 := u42.wr W298
  have u43 := u43.same W298
  have u44 := own_oth u44 W298 (Or.inl (ww hw 97 rfl)) (Or.inr (ww hw 88 rfl)) (by decide)
  have u45 := own_oth u45 W298 (Or.inr (ww hw 99 rfl)) (Or.inr (ww hw 88 rfl)) (by decide)
  have u46 := own_oth u46 W298 (Or.inl (ww hw 118 rfl)) (Or.inr (ww hw 88 rfl)) (by decide)
  have u47 := own_oth u47 W298 (Or.inl (ww hw 122 rfl)) (Or.inr (ww hw 88 rfl)) (by decide)
  have Z0 := own_zw Z0 W298
  have K0 := K0.wr W298 mi_o9_1
  refine gb T298 (mkF m 6 #[SA o9_1, SA q5, SJ y_a2, S2] [(.ref o9_1)]) (fun _ k => XS.aloadN X298.here hx rfl (hb hby d11_5) rfl rfl k) ?_
  refine own_c1 (callI X298 hx hZ (y := mn39) rfl hown (ww hw 89 rfl) (ww hw 90 rfl) (ww hw 93 rfl) (ww hw 92 rfl) (by decide) e298 (a := o9_1) (argsL := []) (rest := []) (W := 0) (au10_init l Z a0 hw o9_1 q5 y_44 y_45 y_47 y_46 h298 n0 Z0 u42 u43 u44 u45 u46 u47 ge_o9_1) rfl (by decide) (by decide) (by decide) (by decide) rfl (by rw [hml]; rfl) (lenOf pd7 rfl) rfl (by show 2 * 0 + _ ≤ _; exact Nat.le_of_eq rfl) (hb hby d11_6)) fun v304 T304 L304 X304 hQ304 => ?_
  obtain ⟨rfl, NL304, K304, f299, f300, f301, f302, f303⟩ := hQ304
  have N0 := Fr.app N0 NL304
  have e304 : T304.heap = T304.heap := rfl
  have u42 := u42.keep K304
  have Z0 := Nat.le_trans Z0 K304.1
  have K0 := K0.trans K304 (allS mi_o9_1 all0)
  refine gb T304 (mkF m 11 #[SA o9_1, SA q5, SJ y_a2, S2] [(.long y_a2), (.ref o9_1)]) (fun _ k => XS.aloadN X304.here hx rfl (hb hby d11_9) rfl rfl (XS.lloadN X304.here hx rfl (hb hby d11_10) rfl k)) ?_
  refine own_p1 (putF X304 hx hZ hown (host := "") (Or.inl (ww hw 98 rfl)) Via.refl e304 f301 u42 (Or.inr ⟨(ww hw 99 rfl), rfl, hnm⟩) (ww hw 82 rfl) (ty := .long) (by decide) rfl rfl rfl rfl (hb hby d11_11)) fun T305 h305 X305 e305 W305 => ?_
  have N0 := Fr.snoc X305 N0 ge_o9_1
  have f299 := own_oth f299 W305 (Or.inr (ww hw 88 rfl)) (Or.inr (ww hw 99 rfl)) (by decide)
  have f300 := own_oth f300 W305 (Or.inl (ww hw 97 rfl)) (Or.inr (ww hw 99 rfl)) (by decide)
  have f301 := f301.same W305
  have f302 := own_oth f302 W305 (Or.inl (ww hw 118 rfl)) (Or.inr (ww hw 99 rfl)) (by decide)
  have f303 := own_oth f303 W305 (Or.inl (ww hw 122 rfl)) (Or.inr (ww hw 99 rfl)) (by decide)
  have Z0 := own_zw Z0 W305
  have K0 := K0.wr W305 mi_o9_1
  exact outV X305 hx hlk hret (hb hby d11_14) (by rw [e305]; exact ⟨rfl, N0, K0, f299, f300, f301, f302, f303⟩) (by decide) (by decide)
theorem d15_0 : decode prog_14_method_3_code 0 = .ok (.aload_n 0, 1) := by decide +kernel
theorem d15_1 : decode prog_14_method_3_code 1 = .ok (.getfield 11, 3) := by decide +kernel
theorem d15_4 : decode prog_14_method_3_code 4 = .ok (.ldc2_w 9, 3) := by decide +kernel
theorem d15_7 : decode prog_14_method_3_code 7 = .ok (.lcmp, 1) := by decide +kernel
theorem d15_8 : decode prog_14_method_3_code 8 = .ok (.ifCond .eq 7, 3) := by decide +kernel
theorem d15_15 : decode prog_14_method_3_code 15 = .ok (.iconst 0, 1) := by decide +kernel
theorem d15_16 : decode prog_14_method_3_code 16 = .ok (.ireturn, 1) := by decide +kernel
set_option maxRecDepth 65536 in
set_option maxHeartbeats 40000000 in
theorem au12_pending (l : Launch) (Z : State) (a0 : Array Value) (hw : ∀ d ∈ tables_1, d.before a0 Z = true) (o9_1 : Addr) (h0 : Heap) (n0 : Nat) (Z0 : n0 ≤ h0.size) (u44 : Fld Z h0 o9_1 sn1 "place" "J" (.long (-1 : Int64))) :
    Does l mn14 prog_14_method_3_code 1 (some .boolean) [] ({ frames := 0, cells := 0, slots := 0, locals := 0 } : Room) Z #[(.ref o9_1)] h0 (fun v h L => v = some (.int (0 : Int32)) ∧ Fr n0 L ∧ h = h0) := by
  refine Does.of (plainFor_of_name pn6) ?_
  intro p e s m below meth c s₁ hx hby hml hret hlk hZ hown hnm X0 e0
  have N0 := Fr.nil n0
  refine Goes.cast (g' := mkF m 0 #[SA o9_1] []) (ef_au0_now m o9_1) ?_
  have K0 := Keep.refl h0 []
  refine gb s₁ (mkF m 1 #[SA o9_1] [(.ref o9_1)]) (fun _ k => XS.aloadN X0.here hx rfl (hb hby d15_0) rfl rfl k) ?_
  refine own_g1 (getF X0 hx hZ hown (host := "") (Or.inl (ww hw 96 rfl)) Via.refl e0 u44 rfl rfl (hb hby d15_1)) fun T355 X355 e355 => ?_
  refine gb T355 (mkF m 7 #[SA o9_1] [(.long (-1 : Int64)), (.long (-1 : Int64))]) (X355.ldc2Long hx hown (mvT hZ (ww hw 95 rfl)) (g := (mkF m 4 #[SA o9_1] [(.long (-1 : Int64))])) rfl (hb hby d15_4)) ?_
  refine gb T355 (mkF m 8 #[SA o9_1] [(.int (0 : Int32))]) (fun _ k => XS.lcmpS X355.here hx rfl (hb hby d15_7) rfl (by decide) k) ?_
  refine gb T355 (mkF m 15 #[SA o9_1] []) (fun _ k => XS.ifYes X355.here hx rfl (pc0 := 8) (pc' := 15) rfl (hb hby d15_8) rfl (by decide) (by decide) (by decide) k) ?_
  refine gb T355 (mkF m 16 #[SA o9_1] [(.int (0 : Int32))]) (fun _ k => XS.iconst X355.here hx rfl (hb hby d15_15)  k) ?_
  exact outZ X355 hx hlk hret (hb hby d15_16) (by rw [e355]; exact ⟨rfl, N0, rfl⟩) (by decide) (by decide)
theorem d18_0 : decode prog_18_method_12_code 0 = .ok (.aload_n 0, 1) := by decide +kernel
theorem d18_1 : decode prog_18_method_12_code 1 = .ok (.getfield 11, 3) := by decide +kernel
theorem d18_4 : decode prog_18_method_12_code 4 = .ok (.iload_n 2, 1) := by decide +kernel
theorem d18_5 : decode prog_18_method_12_code 5 = .ok (.aload_n 1, 1) := by decide +kernel
theorem d18_6 : decode prog_18_method_12_code 6 = .ok (.aastore, 1) := by decide +kernel
theorem d18_7 : decode prog_18_method_12_code 7 = .ok (.aload_n 1, 1) := by decide +kernel
theorem d18_8 : decode prog_18_method_12_code 8 = .ok (.iload_n 2, 1) := by decide +kernel
theorem d18_9 : decode prog_18_method_12_code 9 = .ok (.i2l, 1) := by decide +kernel
theorem d18_10 : decode prog_18_method_12_code 10 = .ok (.putfield 48, 3) := by decide +kernel
theorem d18_13 : decode prog_18_method_12_code 13 = .ok (.return_, 1) := by decide +kernel
set_option maxRecDepth 65536 in
set_option maxHeartbeats 40000000 in
theorem au13_place (l : Launch) (Z : State) (a0 : Array Value) (hw : ∀ d ∈ tables_1, d.before a0 Z = true) (q3 o9_1 q4 q5 : Addr) (y_44 y_45 y_47 : Int64) (y_46 : UInt64) (h0 : Heap) (n0 : Nat) (Z0 : n0 ≤ h0.size) (u31 : Fld Z h0 q3 sn4 "heap" sn10 (.ref q4)) (u34 : OvS Z h0 q4 sn1) (u35 : Sar Z h0 q4 (.object sn1) [.null, .null, .null, .null, .null, .null, .null, .null, .null, .null, .null, .null, .null, .null, .null, .null, .null]) (u42 : Exa Z h0 o9_1 sn3) (u43 : Fld Z h0 o9_1 sn3 "this$0" sn6 (.ref q5)) (u44 : Fld Z h0 o9_1 sn1 "place" "J" (.long y_44)) (u45 : Fld Z h0 o9_1 sn3 "insideAfter" "J" (.long y_45)) (u46 : Fld Z h0 o9_1 sn1 "time" "D" (.double y_46)) (u47 : Fld Z h0 o9_1 sn1 "sequence" "J" (.long y_47)) (ne_q4_o9_1 : q4 ≠ o9_1) (ge_q4 : n0 ≤ q4) (ge_o9_1 : n0 ≤ o9_1) :
    Does l mn11 prog_18_method_12_code 3 none [] ({ frames := 0, cells := 0, slots := 0, locals := 0 } : Room) Z #[(.ref q3), (.ref o9_1), (.int (0 : Int32))] h0 (fun v h L => v = none ∧ Fr n0 L ∧ Keep h0 h [q4, o9_1] ∧ Sar Z h q4 (.object sn1) [(.ref o9_1), .null, .null, .null, .null, .null, .null, .null, .null, .null, .null, .null, .null, .null, .null, .null, .null] ∧ Fld Z h o9_1 sn3 "this$0" sn6 (.ref q5) ∧ Fld Z h o9_1 sn1 "place" "J" (.long (0 : Int64)) ∧ Fld Z h o9_1 sn3 "insideAfter" "J" (.long y_45) ∧ Fld Z h o9_1 sn1 "time" "D" (.double y_46) ∧ Fld Z h o9_1 sn1 "sequence" "J" (.long y_47)) := by
  refine Does.of (plainFor_of_name pn4) ?_
  intro p e s m below meth c s₁ hx hby hml hret hlk hZ hown hnm X0 e0
  have N0 := Fr.nil n0
  refine Goes.cast (g' := mkF m 0 #[SA q3, SA o9_1, SI 0] []) (ef_au5_init m q3 o9_1 (0 : Int32)) ?_
  have mi_q4 : q4 ∈ [q4, o9_1] ∨ h0.size ≤ q4 := (Or.inl (List.mem_cons_self ..))
  have mi_o9_1 : o9_1 ∈ [q4, o9_1] ∨ h0.size ≤ o9_1 := (Or.inl (List.mem_cons_of_mem _ (List.mem_cons_self ..)))
  have K0 := Keep.refl h0 [q4, o9_1]
  refine gb s₁ (mkF m 1 #[SA q3, SA o9_1, SI 0] [(.ref q3)]) (fun _ k => XS.aloadN X0.here hx rfl (hb hby d18_0) rfl rfl k) ?_
  refine own_g1 (getF X0 hx hZ hown (host := "") (Or.inl (ww hw 47 rfl)) Via.refl e0 u31 rfl rfl (hb hby d18_1)) fun T437 X437 e437 => ?_
  refine gb T437 (mkF m 6 #[SA q3, SA o9_1, SI 0] [(.ref o9_1), (.int (0 : Int32)), (.ref q4)]) (fun _ k => XS.iloadN X437.here hx rfl (hb hby d18_4) rfl (XS.aloadN X437.here hx rfl (hb hby d18_5) rfl rfl k)) ?_
  obtain ⟨T438, h438, X438, e438, W438, V438, st438⟩ := stAS X437 hx hZ e437 u35 rfl (j := (0 : Int32)) 0 (by decide) (by show 0 < 17; decide) (OvS.sto u34 u35 (Ins.of_exa u42 (ww hw 138 rfl))) (g := (mkF m 6 #[SA q3, SA o9_1, SI 0] [(.ref o9_1), (.int (0 : Int32)), (.ref q4)])) rfl rfl (hb hby d18_6)
  have N0 := Fr.snoc X438 N0 ge_q4
  have u42 := u42.wr W438
  have u43 := u43.other W438 (Or.inl (Ne.symm ne_q4_o9_1))
  have u44 := u44.other W438 (Or.inl (Ne.symm ne_q4_o9_1))
  have u45 := u45.other W438 (Or.inl (Ne.symm ne_q4_o9_1))
  have u46 := u46.other W438 (Or.inl (Ne.symm ne_q4_o9_1))
  have u47 := u47.other W438 (Or.inl (Ne.symm ne_q4_o9_1))
  have Z0 := own_zw Z0 W438
  have K0 := K0.wr W438 mi_q4
  have u35 : Sar Z h438 q4 (.object sn1) [(.ref o9_1), .null, .null, .null, .null, .null, .null, .null, .null, .null, .null, .null, .null, .null, .null, .null, .null] := V438
  refine gb T438 (mkF m 7 #[SA q3, SA o9_1, SI 0] []) st438 ?_
  refine gb T438 (mkF m 9 #[SA q3, SA o9_1, SI 0] [(.int (0 : Int32)), (.ref o9_1)]) (fun _ k => XS.aloadN X438.here hx rfl (hb hby d18_7) rfl rfl (XS.iloadN X438.here hx rfl (hb hby d18_8) rfl k)) ?_
  refine gb T438 (mkF m 10 #[SA q3, SA o9_1, SI 0] [(.long (0 : Int64)), (.ref o9_1)]) (fun _ k => XS.i2l X438.here hx rfl (hb hby d18_9) rfl k) ?_
  refine own_p1 (putF X438 hx hZ hown (host := "") (Or.inl (ww hw 139 rfl)) Via.refl e438 u44 u42 (Or.inl (ww hw 97 rfl)) (ww hw 82 rfl) (ty := .long) (by decide) rfl rfl rfl rfl (hb hby d18_10)) fun T439 h439 X439 e439 W439 => ?_
  have N0 := Fr.snoc X439 N0 ge_o9_1
  have u35 := u35.other W439 ne_q4_o9_1
  have u43 := own_oth u43 W439 (Or.inr (ww hw 88 rfl)) (Or.inl (ww hw 97 rfl)) (by decide)
  have u44 := u44.same W439
  have u45 := own_oth u45 W439 (Or.inr (ww hw 99 rfl)) (Or.inl (ww hw 97 rfl)) (by decide)
  have u46 := own_oth u46 W439 (Or.inl (ww hw 118 rfl)) (Or.inl (ww hw 97 rfl)) (by decide)
  have u47 := own_oth u47 W439 (Or.inl (ww hw 122 rfl)) (Or.inl (ww hw 97 rfl)) (by decide)
  have Z0 := own_zw Z0 W439
  have K0 := K0.wr W439 mi_o9_1
  exact outV X439 hx hlk hret (hb hby d18_13) (by rw [e439]; exact ⟨rfl, N0, K0, u35, u43, u44, u45, u46, u47⟩) (by decide) (by decide)
theorem d17_0 : decode prog_18_method_10_code 0 = .ok (.iload_n 1, 1) := by decide +kernel
theorem d17_1 : decode prog_18_method_10_code 1 = .ok (.ifCond .le 41, 3) := by decide +kernel
theorem d17_4 : decode prog_18_method_10_code 4 = .ok (.iload_n 1, 1) := by decide +kernel
theorem d17_5 : decode prog_18_method_10_code 5 = .ok (.iconst 1, 1) := by decide +kernel
theorem d17_6 : decode prog_18_method_10_code 6 = .ok (.isub, 1) := by decide +kernel
theorem d17_7 : decode prog_18_method_10_code 7 = .ok (.iconst 1, 1) := by decide +kernel
theorem d17_8 : decode prog_18_method_10_code 8 = .ok (.iushr, 1) := by decide +kernel
theorem d17_9 : decode prog_18_method_10_code 9 = .ok (.istore_n 3, 1) := by decide +kernel
theorem d17_10 : decode prog_18_method_10_code 10 = .ok (.aload_n 0, 1) := by decide +kernel
theorem d17_11 : decode prog_18_method_10_code 11 = .ok (.getfield 11, 3) := by decide +kernel
theorem d17_14 : decode prog_18_method_10_code 14 = .ok (.iload_n 3, 1) := by decide +kernel
theorem d17_15 : decode prog_18_method_10_code 15 = .ok (.aaload, 1) := by decide +kernel
theorem d17_16 : decode prog_18_method_10_code 16 = .ok (.astore 4, 2) := by decide +kernel
theorem d17_18 : decode prog_18_method_10_code 18 = .ok (.aload_n 2, 1) := by decide +kernel
theorem d17_19 : decode prog_18_method_10_code 19 = .ok (.aload 4, 2) := by decide +kernel
theorem d17_21 : decode prog_18_method_10_code 21 = .ok (.invokestatic 54, 3) := by decide +kernel
theorem d17_24 : decode prog_18_method_10_code 24 = .ok (.ifCond .ne 6, 3) := by decide +kernel
theorem d17_27 : decode prog_18_method_10_code 27 = .ok (.goto 15, 3) := by decide +kernel
theorem d17_42 : decode prog_18_method_10_code 42 = .ok (.aload_n 0, 1) := by decide +kernel
theorem d17_43 : decode prog_18_method_10_code 43 = .ok (.aload_n 2, 1) := by decide +kernel
theorem d17_44 : decode prog_18_method_10_code 44 = .ok (.iload_n 1, 1) := by decide +kernel
theorem d17_45 : decode prog_18_method_10_code 45 = .ok (.invokevirtual 93, 3) := by decide +kernel
theorem d17_48 : decode prog_18_method_10_code 48 = .ok (.return_, 1) := by decide +kernel
theorem ef_au14_siftUp (m : MethodId) (x0 : Addr) (x1 : Int32) (x2 : Addr) : entryFrame m #[(.ref x0), (.int x1), (.ref x2)] 5 = mkF m 0 #[SA x0, SI x1, SA x2, SU, SU] [] := by first | (simp [entryFrame, mkF, argsToLocals, Value.category, maxLocals]; done) | rfl
set_option maxRecDepth 65536 in
set_option maxHeartbeats 40000000 in
theorem au14_siftUp (l : Launch) (Z : State) (a0 : Array Value) (hw : ∀ d ∈ tables_1, d.before a0 Z = true) (q3 o9_1 q4 q5 : Addr) (y_44 y_45 y_47 : Int64) (y_46 : UInt64) (h0 : Heap) (n0 : Nat) (Z0 : n0 ≤ h0.size) (u30 : Exa Z h0 q3 sn4) (u31 : Fld Z h0 q3 sn4 "heap" sn10 (.ref q4)) (u34 : OvS Z h0 q4 sn1) (u35 : Sar Z h0 q4 (.object sn1) [.null, .null, .null, .null, .null, .null, .null, .null, .null, .null, .null, .null, .null, .null, .null, .null, .null]) (u42 : Exa Z h0 o9_1 sn3) (u43 : Fld Z h0 o9_1 sn3 "this$0" sn6 (.ref q5)) (u44 : Fld Z h0 o9_1 sn1 "place" "J" (.long y_44)) (u45 : Fld Z h0 o9_1 sn3 "insideAfter" "J" (.long y_45)) (u46 : Fld Z h0 o9_1 sn1 "time" "D" (.double y_46)) (u47 : Fld Z h0 o9_1 sn1 "sequence" "J" (.long y_47)) (ne_q4_o9_1 : q4 ≠ o9_1) (ge_q4 : n0 ≤ q4) (ge_o9_1 : n0 ≤ o9_1) :
    Does l mn17 prog_18_method_10_code 5 none [] ({ frames := 1, cells := 0, slots := 0, locals := 14 } : Room) Z #[(.ref q3), (.int (0 : Int32)), (.ref o9_1)] h0 (fun v h L => v = none ∧ Fr n0 L ∧ Keep h0 h [q4, o9_1] ∧ Sar Z h q4 (.object sn1) [(.ref o9_1), .null, .null, .null, .null, .null, .null, .null, .null, .null, .null, .null, .null, .null, .null, .null, .null] ∧ Fld Z h o9_1 sn3 "this$0" sn6 (.ref q5) ∧ Fld Z h o9_1 sn1 "place" "J" (.long (0 : Int64)) ∧ Fld Z h o9_1 sn3 "insideAfter" "J" (.long y_45) ∧ Fld Z h o9_1 sn1 "time" "D" (.double y_46) ∧ Fld Z h o9_1 sn1 "sequence" "J" (.long y_47)) := by
  refine Does.of (plainFor_of_name pn4) ?_
  intro p e s m below meth c s₁ hx hby hml hret hlk hZ hown hnm X0 e0
  have N0 := Fr.nil n0
  refine Goes.cast (g' := mkF m 0 #[SA q3, SI 0, SA o9_1, SU, SU] []) (ef_au14_siftUp m q3 (0 : Int32) o9_1) ?_
  have mi_q4 : q4 ∈ [q4, o9_1] ∨ h0.size ≤ q4 := (Or.inl (List.mem_cons_self ..))
  have mi_o9_1 : o9_1 ∈ [q4, o9_1] ∨ h0.size ≤ o9_1 := (Or.inl (List.mem_cons_of_mem _ (List.mem_cons_self ..)))
  have K0 := Keep.refl h0 [q4, o9_1]
  refine gb s₁ (mkF m 1 #[SA q3, SI 0, SA o9_1, SU, SU] [(.int (0 : Int32))]) (fun _ k => XS.iloadN X0.here hx rfl (hb hby d17_0) rfl k) ?_
  refine gb s₁ (mkF m 42 #[SA q3, SI 0, SA o9_1, SU, SU] []) (fun _ k => XS.ifYes X0.here hx rfl (pc0 := 1) (pc' := 42) rfl (hb hby d17_1) rfl (by decide) (by decide) (by decide) k) ?_
  refine gb s₁ (mkF m 45 #[SA q3, SI 0, SA o9_1, SU, SU] [(.int (0 : Int32)), (.ref o9_1), (.ref q3)]) (fun _ k => XS.aloadN X0.here hx rfl (hb hby d17_42) rfl rfl (XS.aloadN X0.here hx rfl (hb hby d17_43) rfl rfl (XS.iloadN X0.here hx rfl (hb hby d17_44) rfl k))) ?_
  refine own_c1 (callP X0 hx hZ (y := mn11) hown (ww hw 134 rfl) (ww hw 135 rfl) (ww hw 136 rfl) (ww hw 137 rfl) (ww hw 40 rfl) (ww hw 39 rfl) (by decide) e0 u30 (argsL := [(.ref o9_1), (.int (0 : Int32))]) (rest := []) (W := 0) (au13_place l Z a0 hw q3 o9_1 q4 q5 y_44 y_45 y_47 y_46 h0 n0 Z0 u31 u34 u35 u42 u43 u44 u45 u46 u47 ne_q4_o9_1 ge_q4 ge_o9_1) rfl (by decide) (by decide) (by decide) (by decide) rfl (by rw [hml]; rfl) (lenOf pd10 rfl) rfl (by show 2 * 0 + _ ≤ _; exact Nat.le_of_eq rfl) (hb hby d17_45)) fun v467 T467 L467 X467 hQ467 => ?_
  obtain ⟨rfl, NL467, K467, f461, f462, f463, f464, f465, f466⟩ := hQ467
  have N0 := Fr.app N0 NL467
  have e467 : T467.heap = T467.heap := rfl
  have Z0 := Nat.le_trans Z0 K467.1
  have K0 := K0.trans K467 (allS mi_q4 (allS mi_o9_1 all0))
  exact outV X467 hx hlk hret (hb hby d17_48) (by rw [e467]; exact ⟨rfl, N0, K0, f461, f462, f463, f464, f465, f466⟩) (by decide) (by decide)
theorem d16_0 : decode prog_18_method_3_code 0 = .ok (.aload_n 0, 1) := by decide +kernel
theorem d16_1 : decode prog_18_method_3_code 1 = .ok (.dup, 1) := by decide +kernel
theorem d16_2 : decode prog_18_method_3_code 2 = .ok (.getfield 23, 3) := by decide +kernel
theorem d16_5 : decode prog_18_method_3_code 5 = .ok (.iconst 1, 1) := by decide +kernel
theorem d16_6 : decode prog_18_method_3_code 6 = .ok (.iadd, 1) := by decide +kernel
theorem d16_7 : decode prog_18_method_3_code 7 = .ok (.putfield 23, 3) := by decide +kernel
theorem d16_10 : decode prog_18_method_3_code 10 = .ok (.aload_n 0, 1) := by decide +kernel
theorem d16_11 : decode prog_18_method_3_code 11 = .ok (.getfield 11, 3) := by decide +kernel
theorem d16_14 : decode prog_18_method_3_code 14 = .ok (.ifnull 30, 3) := by decide +kernel
theorem d16_17 : decode prog_18_method_3_code 17 = .ok (.aload_n 0, 1) := by decide +kernel
theorem d16_18 : decode prog_18_method_3_code 18 = .ok (.aload_n 0, 1) := by decide +kernel
theorem d16_19 : decode prog_18_method_3_code 19 = .ok (.getfield 23, 3) := by decide +kernel
theorem d16_22 : decode prog_18_method_3_code 22 = .ok (.iconst 1, 1) := by decide +kernel
theorem d16_23 : decode prog_18_method_3_code 23 = .ok (.isub, 1) := by decide +kernel
theorem d16_24 : decode prog_18_method_3_code 24 = .ok (.aload_n 1, 1) := by decide +kernel
theorem d16_25 : decode prog_18_method_3_code 25 = .ok (.invokevirtual 27, 3) := by decide +kernel
theorem d16_28 : decode prog_18_method_3_code 28 = .ok (.aload_n 0, 1) := by decide +kernel
theorem d16_29 : decode prog_18_method_3_code 29 = .ok (.getfield 23, 3) := by decide +kernel
theorem d16_32 : decode prog_18_method_3_code 32 = .ok (.bipush 16, 2) := by decide +kernel
theorem d16_34 : decode prog_18_method_3_code 34 = .ok (.if_icmp .le 9, 3) := by decide +kernel
theorem d16_43 : decode prog_18_method_3_code 43 = .ok (.return_, 1) := by decide +kernel
set_option maxRecDepth 65536 in
set_option maxHeartbeats 40000000 in
theorem au15_add (l : Launch) (Z : State) (a0 : Array Value) (hw : ∀ d ∈ tables_1, d.before a0 Z = true) (q3 o9_1 q4 q5 : Addr) (y_44 y_45 y_47 : Int64) (y_33 y_46 : UInt64) (h0 : Heap) (n0 : Nat) (Z0 : n0 ≤ h0.size) (u30 : Exa Z h0 q3 sn4) (u31 : Fld Z h0 q3 sn4 "heap" sn10 (.ref q4)) (u32 : Fld Z h0 q3 sn4 "size" "I" (.int (0 : Int32))) (u33 : Fld Z h0 q3 sn4 "floor" "D" (.double y_33)) (u34 : OvS Z h0 q4 sn1) (u35 : Sar Z h0 q4 (.object sn1) [.null, .null, .null, .null, .null, .null, .null, .null, .null, .null, .null, .null, .null, .null, .null, .null, .null]) (u42 : Exa Z h0 o9_1 sn3) (u43 : Fld Z h0 o9_1 sn3 "this$0" sn6 (.ref q5)) (u44 : Fld Z h0 o9_1 sn1 "place" "J" (.long y_44)) (u45 : Fld Z h0 o9_1 sn3 "insideAfter" "J" (.long y_45)) (u46 : Fld Z h0 o9_1 sn1 "time" "D" (.double y_46)) (u47 : Fld Z h0 o9_1 sn1 "sequence" "J" (.long y_47)) (ne_q3_o9_1 : q3 ≠ o9_1) (ne_q3_q4 : q3 ≠ q4) (ne_q4_o9_1 : q4 ≠ o9_1) (ge_q3 : n0 ≤ q3) (ge_q4 : n0 ≤ q4) (ge_o9_1 : n0 ≤ o9_1) :
    Does l mn18 prog_18_method_3_code 2 none [] ({ frames := 2, cells := 0, slots := 0, locals := 30 } : Room) Z #[(.ref q3), (.ref o9_1)] h0 (fun v h L => v = none ∧ Fr n0 L ∧ Keep h0 h [q3, q4, o9_1] ∧ Fld Z h q3 sn4 "heap" sn10 (.ref q4) ∧ Fld Z h q3 sn4 "size" "I" (.int (1 : Int32)) ∧ Fld Z h q3 sn4 "floor" "D" (.double y_33) ∧ Sar Z h q4 (.object sn1) [(.ref o9_1), .null, .null, .null, .null, .null, .null, .null, .null, .null, .null, .null, .null, .null, .null, .null, .null] ∧ Fld Z h o9_1 sn3 "this$0" sn6 (.ref q5) ∧ Fld Z h o9_1 sn1 "place" "J" (.long (0 : Int64)) ∧ Fld Z h o9_1 sn3 "insideAfter" "J" (.long y_45) ∧ Fld Z h o9_1 sn1 "time" "D" (.double y_46) ∧ Fld Z h o9_1 sn1 "sequence" "J" (.long y_47)) := by
  refine Does.of (plainFor_of_name pn4) ?_
  intro p e s m below meth c s₁ hx hby hml hret hlk hZ hown hnm X0 e0
  have N0 := Fr.nil n0
  refine Goes.cast (g' := mkF m 0 #[SA q3, SA o9_1] []) (ef_au6_init m q3 o9_1) ?_
  have mi_q3 : q3 ∈ [q3, q4, o9_1] ∨ h0.size ≤ q3 := (Or.inl (List.mem_cons_self ..))
  have mi_q4 : q4 ∈ [q3, q4, o9_1] ∨ h0.size ≤ q4 := (Or.inl (List.mem_cons_of_mem _ (List.mem_cons_self ..)))
  have mi_o9_1 : o9_1 ∈ [q3, q4, o9_1] ∨ h0.size ≤ o9_1 := (Or.inl (List.mem_cons_of_mem _ (List.mem_cons_of_mem _ (List.mem_cons_self ..))))
  have K0 := Keep.refl h0 [q3, q4, o9_1]
  refine gb s₁ (mkF m 2 #[SA q3, SA o9_1] [(.ref q3), (.ref q3)]) (fun _ k => XS.aloadN X0.here hx rfl (hb hby d16_0) rfl rfl (XS.dup X0.here hx rfl (hb hby d16_1) rfl rfl k)) ?_
  refine own_g1 (getF X0 hx hZ hown (host := "") (Or.inl (ww hw 128 rfl)) Via.refl e0 u32 rfl rfl (hb hby d16_2)) fun T500 X500 e500 => ?_
  refine gb T500 (mkF m 6 #[SA q3, SA o9_1] [(.int (1 : Int32)), (.int (0 : Int32)), (.ref q3)]) (fun _ k => XS.iconst X500.here hx rfl (hb hby d16_5)  k) ?_
  refine gb T500 (mkF m 7 #[SA q3, SA o9_1] [(.int (1 : Int32)), (.ref q3)]) (fun _ k => XS.iadd X500.here hx rfl (hb hby d16_6) rfl k) ?_
  refine own_p1 (putF X500 hx hZ hown (host := "") (Or.inl (ww hw 128 rfl)) Via.refl e500 u32 u30 (Or.inl (ww hw 129 rfl)) (ww hw 39 rfl) (ty := .int) (by decide) rfl rfl rfl rfl (hb hby d16_7)) fun T501 h501 X501 e501 W501 => ?_
  have N0 := Fr.snoc X501 N0 ge_q3
  have u30 := u30.wr W501
  have u31 := own_oth u31 W501 (Or.inl (ww hw 48 rfl)) (Or.inl (ww hw 129 rfl)) (by decide)
  have u32 := u32.same W501
  have u33 := own_oth u33 W501 (Or.inl (ww hw 327 rfl)) (Or.inl (ww hw 129 rfl)) (by decide)
  have u34 := u34.wr W501
  have u35 := u35.other W501 (Ne.symm ne_q3_q4)
  have u42 := u42.wr W501
  have u43 := u43.other W501 (Or.inl (Ne.symm ne_q3_o9_1))
  have u44 := u44.other W501 (Or.inl (Ne.symm ne_q3_o9_1))
  have u45 := u45.other W501 (Or.inl (Ne.symm ne_q3_o9_1))
  have u46 := u46.other W501 (Or.inl (Ne.symm ne_q3_o9_1))
  have u47 := u47.other W501 (Or.inl (Ne.symm ne_q3_o9_1))
  have Z0 := own_zw Z0 W501
  have K0 := K0.wr W501 mi_q3
  refine gb T501 (mkF m 11 #[SA q3, SA o9_1] [(.ref q3)]) (fun _ k => XS.aloadN X501.here hx rfl (hb hby d16_10) rfl rfl k) ?_
  refine own_g1 (getF X501 hx hZ hown (host := "") (Or.inl (ww hw 47 rfl)) Via.refl e501 u31 rfl rfl (hb hby d16_11)) fun T502 X502 e502 => ?_
  refine gb T502 (mkF m 17 #[SA q3, SA o9_1] []) (fun _ k => XS.ifnullNo X502.here hx rfl (hb hby d16_14) rfl k) ?_
  refine gb T502 (mkF m 19 #[SA q3, SA o9_1] [(.ref q3), (.ref q3)]) (fun _ k => XS.aloadN X502.here hx rfl (hb hby d16_17) rfl rfl (XS.aloadN X502.here hx rfl (hb hby d16_18) rfl rfl k)) ?_
  refine own_g1 (getF X502 hx hZ hown (host := "") (Or.inl (ww hw 128 rfl)) Via.refl e502 u32 rfl rfl (hb hby d16_19)) fun T503 X503 e503 => ?_
  refine gb T503 (mkF m 23 #[SA q3, SA o9_1] [(.int (1 : Int32)), (.int (1 : Int32)), (.ref q3)]) (fun _ k => XS.iconst X503.here hx rfl (hb hby d16_22)  k) ?_
  refine gb T503 (mkF m 24 #[SA q3, SA o9_1] [(.int (0 : Int32)), (.ref q3)]) (fun _ k => XS.isub X503.here hx rfl (hb hby d16_23) rfl k) ?_
  refine gb T503 (mkF m 25 #[SA q3, SA o9_1] [(.ref o9_1), (.int (0 : Int32)), (.ref q3)]) (fun _ k => XS.aloadN X503.here hx rfl (hb hby d16_24) rfl rfl k) ?_
  refine own_c1 (callP X503 hx hZ (y := mn17) hown (ww hw 130 rfl) (ww hw 131 rfl) (ww hw 132 rfl) (ww hw 133 rfl) (ww hw 40 rfl) (ww hw 39 rfl) (by decide) e503 u30 (argsL := [(.int (0 : Int32)), (.ref o9_1)]) (rest := []) (W := 0) (au14_siftUp l Z a0 hw q3 o9_1 q4 q5 y_44 y_45 y_47 y_46 h501 n0 Z0 u30 u31 u34 u35 u42 u43 u44 u45 u46 u47 ne_q4_o9_1 ge_q4 ge_o9_1) rfl (by decide) (by decide) (by decide) (by decide) rfl (by rw [hml]; rfl) (lenOf pd11 rfl) rfl (by show 2 * 0 + _ ≤ _; exact Nat.le_of_eq rfl) (hb hby d16_25)) fun v510 T510 L510 X510 hQ510 => ?_
  obtain ⟨rfl, NL510, K510, f504, f505, f506, f507, f508, f509⟩ := hQ510
  have N0 := Fr.app N0 NL510
  have e510 : T510.heap = T510.heap := rfl
  have nin_q3 := (ninS ne_q3_q4 (ninS ne_q3_o9_1 nin0))
  have u31 := u31.keep K510 nin_q3
  have u32 := u32.keep K510 nin_q3
  have u33 := u33.keep K510 nin_q3
  have Z0 := Nat.le_trans Z0 K510.1
  have K0 := K0.trans K510 (allS mi_q4 (allS mi_o9_1 all0))
  refine gb T510 (mkF m 29 #[SA q3, SA o9_1] [(.ref q3)]) (fun _ k => XS.aloadN X510.here hx rfl (hb hby d16_28) rfl rfl k) ?_
  refine own_g1 (getF X510 hx hZ hown (host := "") (Or.inl (ww hw 128 rfl)) Via.refl e510 u32 rfl rfl (hb hby d16_29)) fun T511 X511 e511 => ?_
  refine gb T511 (mkF m 34 #[SA q3, SA o9_1] [(.int (16 : Int32)), (.int (1 : Int32))]) (fun _ k => XS.bipush X511.here hx rfl (hb hby d16_32)  k) ?_
  refine gb T511 (mkF m 43 #[SA q3, SA o9_1] []) (fun _ k => XS.icmpYes X511.here hx rfl (pc0 := 34) (pc' := 43) rfl (hb hby d16_34) rfl (by decide) (by decide) (by decide) k) ?_
  exact outV X511 hx hlk hret (hb hby d16_43) (by rw [e511]; exact ⟨rfl, N0, K0, u31, u32, u33, f504, f505, f506, f507, f508, f509⟩) (by decide) (by decide)
theorem d14_0 : decode prog_19_method_11_code 0 = .ok (.aload_n 3, 1) := by decide +kernel
theorem d14_1 : decode prog_19_method_11_code 1 = .ok (.invokevirtual 60, 3) := by decide +kernel
theorem d14_4 : decode prog_19_method_11_code 4 = .ok (.ifCond .eq 13, 3) := by decide +kernel
theorem d14_17 : decode prog_19_method_11_code 17 = .ok (.aload_n 3, 1) := by decide +kernel
theorem d14_18 : decode prog_19_method_11_code 18 = .ok (.dload_n 1, 1) := by decide +kernel
theorem d14_19 : decode prog_19_method_11_code 19 = .ok (.putfield 92, 3) := by decide +kernel
theorem d14_22 : decode prog_19_method_11_code 22 = .ok (.aload_n 3, 1) := by decide +kernel
theorem d14_23 : decode prog_19_method_11_code 23 = .ok (.aload_n 0, 1) := by decide +kernel
theorem d14_24 : decode prog_19_method_11_code 24 = .ok (.dup, 1) := by decide +kernel
theorem d14_25 : decode prog_19_method_11_code 25 = .ok (.getfield 106, 3) := by decide +kernel
theorem d14_28 : decode prog_19_method_11_code 28 = .ok (.dup2_x1, 1) := by decide +kernel
theorem d14_29 : decode prog_19_method_11_code 29 = .ok (.lconst 1, 1) := by decide +kernel
theorem d14_30 : decode prog_19_method_11_code 30 = .ok (.ladd, 1) := by decide +kernel
theorem d14_31 : decode prog_19_method_11_code 31 = .ok (.putfield 106, 3) := by decide +kernel
theorem d14_34 : decode prog_19_method_11_code 34 = .ok (.putfield 110, 3) := by decide +kernel
theorem d14_37 : decode prog_19_method_11_code 37 = .ok (.aload_n 0, 1) := by decide +kernel
theorem d14_38 : decode prog_19_method_11_code 38 = .ok (.getfield 21, 3) := by decide +kernel
theorem d14_41 : decode prog_19_method_11_code 41 = .ok (.aload_n 3, 1) := by decide +kernel
theorem d14_42 : decode prog_19_method_11_code 42 = .ok (.invokevirtual 113, 3) := by decide +kernel
theorem d14_45 : decode prog_19_method_11_code 45 = .ok (.return_, 1) := by decide +kernel
theorem ef_au16_add (m : MethodId) (x0 : Addr) (x1 : UInt64) (x2 : Addr) : entryFrame m #[(.ref x0), (.double x1), (.ref x2)] 4 = mkF m 0 #[SA x0, SD x1, S2, SA x2] [] := by first | (simp [entryFrame, mkF, argsToLocals, Value.category, maxLocals]; done) | rfl
set_option maxRecDepth 65536 in
set_option maxHeartbeats 40000000 in
theorem au16_add (l : Launch) (Z : State) (a0 : Array Value) (hw : ∀ d ∈ tables_1, d.before a0 Z = true) (q2 o9_1 q1 q3 q4 q5 : Addr) (y_29 y_45 y_47 : Int64) (y_a1 y_28 y_33 y_46 : UInt64) (h0 : Heap) (n0 : Nat) (Z0 : n0 ≤ h0.size) (u25 : Exa Z h0 q2 sn2) (u26 : Fld Z h0 q2 sn2 "budget" sn16 (.ref q1)) (u27 : Fld Z h0 q2 sn2 "pending" sn21 (.ref q3)) (u28 : Fld Z h0 q2 sn2 "now" "D" (.double y_28)) (u29 : Fld Z h0 q2 sn2 "scheduled" "J" (.long y_29)) (u30 : Exa Z h0 q3 sn4) (u31 : Fld Z h0 q3 sn4 "heap" sn10 (.ref q4)) (u32 : Fld Z h0 q3 sn4 "size" "I" (.int (0 : Int32))) (u33 : Fld Z h0 q3 sn4 "floor" "D" (.double y_33)) (u34 : OvS Z h0 q4 sn1) (u35 : Sar Z h0 q4 (.object sn1) [.null, .null, .null, .null, .null, .null, .null, .null, .null, .null, .null, .null, .null, .null, .null, .null, .null]) (u42 : Exa Z h0 o9_1 sn3) (u43 : Fld Z h0 o9_1 sn3 "this$0" sn6 (.ref q5)) (u44 : Fld Z h0 o9_1 sn1 "place" "J" (.long (-1 : Int64))) (u45 : Fld Z h0 o9_1 sn3 "insideAfter" "J" (.long y_45)) (u46 : Fld Z h0 o9_1 sn1 "time" "D" (.double y_46)) (u47 : Fld Z h0 o9_1 sn1 "sequence" "J" (.long y_47)) (ne_q2_o9_1 : q2 ≠ o9_1) (ne_q2_q3 : q2 ≠ q3) (ne_q2_q4 : q2 ≠ q4) (ne_q3_o9_1 : q3 ≠ o9_1) (ne_q3_q4 : q3 ≠ q4) (ne_q4_o9_1 : q4 ≠ o9_1) (ge_q2 : n0 ≤ q2) (ge_q3 : n0 ≤ q3) (ge_q4 : n0 ≤ q4) (ge_o9_1 : n0 ≤ o9_1) :
    Does l mn19 prog_19_method_11_code 4 none [] ({ frames := 3, cells := 0, slots := 0, locals := 43 } : Room) Z #[(.ref q2), (.double y_a1), (.ref o9_1)] h0 (fun v h L => v = none ∧ Fr n0 L ∧ Keep h0 h [q2, q3, q4, o9_1] ∧ Fld Z h q2 sn2 "budget" sn16 (.ref q1) ∧ Fld Z h q2 sn2 "pending" sn21 (.ref q3) ∧ Fld Z h q2 sn2 "now" "D" (.double y_28) ∧ Fld Z h q2 sn2 "scheduled" "J" (.long (y_29 + (1 : Int64))) ∧ Fld Z h q3 sn4 "heap" sn10 (.ref q4) ∧ Fld Z h q3 sn4 "size" "I" (.int (1 : Int32)) ∧ Fld Z h q3 sn4 "floor" "D" (.double y_33) ∧ Sar Z h q4 (.object sn1) [(.ref o9_1), .null, .null, .null, .null, .null, .null, .null, .null, .null, .null, .null, .null, .null, .null, .null, .null] ∧ Fld Z h o9_1 sn3 "this$0" sn6 (.ref q5) ∧ Fld Z h o9_1 sn1 "place" "J" (.long (0 : Int64)) ∧ Fld Z h o9_1 sn3 "insideAfter" "J" (.long y_45) ∧ Fld Z h o9_1 sn1 "time" "D" (.double y_a1) ∧ Fld Z h o9_1 sn1 "sequence" "J" (.long y_29)) := by
  refine Does.of (plainFor_of_name pn1) ?_
  intro p e s m below meth c s₁ hx hby hml hret hlk hZ hown hnm X0 e0
  have N0 := Fr.nil n0
  refine Goes.cast (g' := mkF m 0 #[SA q2, SD y_a1, S2, SA o9_1] []) (ef_au16_add m q2 y_a1 o9_1) ?_
  have mi_q2 : q2 ∈ [q2, q3, q4, o9_1] ∨ h0.size ≤ q2 := (Or.inl (List.mem_cons_self ..))
  have mi_q3 : q3 ∈ [q2, q3, q4, o9_1] ∨ h0.size ≤ q3 := (Or.inl (List.mem_cons_of_mem _ (List.mem_cons_self ..)))
  have mi_q4 : q4 ∈ [q2, q3, q4, o9_1] ∨ h0.size ≤ q4 := (Or.inl (List.mem_cons_of_mem _ (List.mem_cons_of_mem _ (List.mem_cons_self ..))))
  have mi_o9_1 : o9_1 ∈ [q2, q3, q4, o9_1] ∨ h0.size ≤ o9_1 := (Or.inl (List.mem_cons_of_mem _ (List.mem_cons_of_mem _ (List.mem_cons_of_mem _ (List.mem_cons_self ..)))))
  have K0 := Keep.refl h0 [q2, q3, q4, o9_1]
  refine gb s₁ (mkF m 1 #[SA q2, SD y_a1, S2, SA o9_1] [(.ref o9_1)]) (fun _ k => XS.aloadN X0.here hx rfl (hb hby d14_0) rfl rfl k) ?_
  refine own_c1 (callV X0 hx hZ (y := mn14) hown (ww hw 112 rfl) (ww hw 113 rfl) (ww hw 115 rfl) (ww hw 114 rfl) (ww hw 116 rfl) (ww hw 92 rfl) (by decide) e0 u42 (argsL := []) (rest := []) (W := 0) (au12_pending l Z a0 hw o9_1 h0 n0 Z0 u44) rfl (by decide) (by decide) (by decide) (by decide) rfl (by rw [hml]; rfl) (lenOf pd0 rfl) rfl (by show 2 * 0 + _ ≤ _; exact Nat.le_of_eq rfl) (hb hby d14_1)) fun v560 T560 L560 X560 hQ560 => ?_
  obtain ⟨rfl, NL560, hk560⟩ := hQ560
  have N0 := Fr.app N0 NL560
  refine gb T560 (mkF m 17 #[SA q2, SD y_a1, S2, SA o9_1] []) (fun _ k => XS.ifYes X560.here hx rfl (pc0 := 4) (pc' := 17) rfl (hb hby d14_4) rfl (by decide) (by decide) (by decide) k) ?_
  refine gb T560 (mkF m 19 #[SA q2, SD y_a1, S2, SA o9_1] [(.double y_a1), (.ref o9_1)]) (fun _ k => XS.aloadN X560.here hx rfl (hb hby d14_17) rfl rfl (XS.dloadN X560.here hx rfl (hb hby d14_18) rfl k)) ?_
  refine own_p1 (putF X560 hx hZ hown (host := "") (Or.inl (ww hw 117 rfl)) Via.refl hk560 u46 u42 (Or.inl (ww hw 118 rfl)) (ww hw 82 rfl) (ty := .double) (by decide) rfl rfl rfl rfl (hb hby d14_19)) fun T561 h561 X561 e561 W561 => ?_
  have N0 := Fr.snoc X561 N0 ge_o9_1
  have u25 := u25.wr W561
  have u26 := u26.other W561 (Or.inl ne_q2_o9_1)
  have u27 := u27.other W561 (Or.inl ne_q2_o9_1)
  have u28 := u28.other W561 (Or.inl ne_q2_o9_1)
  have u29 := u29.other W561 (Or.inl ne_q2_o9_1)
  have u30 := u30.wr W561
  have u31 := u31.other W561 (Or.inl ne_q3_o9_1)
  have u32 := u32.other W561 (Or.inl ne_q3_o9_1)
  have u33 := u33.other W561 (Or.inl ne_q3_o9_1)
  have u34 := u34.wr W561
  have u35 := u35.other W561 ne_q4_o9_1
  have u42 := u42.wr W561
  have u43 := own_oth u43 W561 (Or.inr (ww hw 88 rfl)) (Or.inl (ww hw 118 rfl)) (by decide)
  have u44 := own_oth u44 W561 (Or.inl (ww hw 97 rfl)) (Or.inl (ww hw 118 rfl)) (by decide)
  have u45 := own_oth u45 W561 (Or.inr (ww hw 99 rfl)) (Or.inl (ww hw 118 rfl)) (by decide)
  have u46 := u46.same W561
  have u47 := own_oth u47 W561 (Or.inl (ww hw 122 rfl)) (Or.inl (ww hw 118 rfl)) (by decide)
  have Z0 := own_zw Z0 W561
  have K0 := K0.wr W561 mi_o9_1
  refine gb T561 (mkF m 25 #[SA q2, SD y_a1, S2, SA o9_1] [(.ref q2), (.ref q2), (.ref o9_1)]) (fun _ k => XS.aloadN X561.here hx rfl (hb hby d14_22) rfl rfl (XS.aloadN X561.here hx rfl (hb hby d14_23) rfl rfl (XS.dup X561.here hx rfl (hb hby d14_24) rfl rfl k))) ?_
  refine own_g1 (getF X561 hx hZ hown (host := "") (Or.inl (ww hw 119 rfl)) Via.refl e561 u29 rfl rfl (hb hby d14_25)) fun T562 X562 e562 => ?_
  refine gb T562 (mkF m 30 #[SA q2, SD y_a1, S2, SA o9_1] [(.long (1 : Int64)), (.long y_29), (.ref q2), (.long y_29), (.ref o9_1)]) (fun _ k => XS.dup2X1W X562.here hx rfl (hb hby d14_28) rfl rfl rfl (XS.lconst X562.here hx rfl (hb hby d14_29)  k)) ?_
  refine gb T562 (mkF m 31 #[SA q2, SD y_a1, S2, SA o9_1] [(.long (y_29 + (1 : Int64))), (.ref q2), (.long y_29), (.ref o9_1)]) (fun _ k => XS.ladd X562.here hx rfl (hb hby d14_30) rfl k) ?_
  refine own_p1 (putF X562 hx hZ hown (host := "") (Or.inl (ww hw 119 rfl)) Via.refl e562 u29 u25 (Or.inl (ww hw 120 rfl)) (ww hw 27 rfl) (ty := .long) (by decide) rfl rfl rfl rfl (hb hby d14_31)) fun T563 h563 X563 e563 W563 => ?_
  have N0 := Fr.snoc X563 N0 ge_q2
  have u26 := own_oth u26 W563 (Or.inr (ww hw 37 rfl)) (Or.inl (ww hw 120 rfl)) (by decide)
  have u27 := own_oth u27 W563 (Or.inr (ww hw 52 rfl)) (Or.inl (ww hw 120 rfl)) (by decide)
  have u28 := own_oth u28 W563 (Or.inl (ww hw 106 rfl)) (Or.inl (ww hw 120 rfl)) (by decide)
  have u29 := u29.same W563
  have u30 := u30.wr W563
  have u31 := u31.other W563 (Or.inl (Ne.symm ne_q2_q3))
  have u32 := u32.other W563 (Or.inl (Ne.symm ne_q2_q3))
  have u33 := u33.other W563 (Or.inl (Ne.symm ne_q2_q3))
  have u34 := u34.wr W563
  have u35 := u35.other W563 (Ne.symm ne_q2_q4)
  have u42 := u42.wr W563
  have u43 := u43.other W563 (Or.inl (Ne.symm ne_q2_o9_1))
  have u44 := u44.other W563 (Or.inl (Ne.symm ne_q2_o9_1))
  have u45 := u45.other W563 (Or.inl (Ne.symm ne_q2_o9_1))
  have u46 := u46.other W563 (Or.inl (Ne.symm ne_q2_o9_1))
  have u47 := u47.other W563 (Or.inl (Ne.symm ne_q2_o9_1))
  have Z0 := own_zw Z0 W563
  have K0 := K0.wr W563 mi_q2
  refine own_p1 (putF X563 hx hZ hown (host := "") (Or.inl (ww hw 121 rfl)) Via.refl e563 u47 u42 (Or.inl (ww hw 122 rfl)) (ww hw 82 rfl) (ty := .long) (by decide) rfl rfl rfl rfl (hb hby d14_34)) fun T564 h564 X564 e564 W564 => ?_
  have N0 := Fr.snoc X564 N0 ge_o9_1
  have u26 := u26.other W564 (Or.inl ne_q2_o9_1)
  have u27 := u27.other W564 (Or.inl ne_q2_o9_1)
  have u28 := u28.other W564 (Or.inl ne_q2_o9_1)
  have u29 := u29.other W564 (Or.inl ne_q2_o9_1)
  have u30 := u30.wr W564
  have u31 := u31.other W564 (Or.inl ne_q3_o9_1)
  have u32 := u32.other W564 (Or.inl ne_q3_o9_1)
  have u33 := u33.other W564 (Or.inl ne_q3_o9_1)
  have u34 := u34.wr W564
  have u35 := u35.other W564 ne_q4_o9_1
  have u42 := u42.wr W564
  have u43 := own_oth u43 W564 (Or.inr (ww hw 88 rfl)) (Or.inl (ww hw 122 rfl)) (by decide)
  have u44 := own_oth u44 W564 (Or.inl (ww hw 97 rfl)) (Or.inl (ww hw 122 rfl)) (by decide)
  have u45 := own_oth u45 W564 (Or.inr (ww hw 99 rfl)) (Or.inl (ww hw 122 rfl)) (by decide)
  have u46 := own_oth u46 W564 (Or.inl (ww hw 118 rfl)) (Or.inl (ww hw 122 rfl)) (by decide)
  have u47 := u47.same W564
  have Z0 := own_zw Z0 W564
  have K0 := K0.wr W564 mi_o9_1
  refine gb T564 (mkF m 38 #[SA q2, SD y_a1, S2, SA o9_1] [(.ref q2)]) (fun _ k => XS.aloadN X564.here hx rfl (hb hby d14_37) rfl rfl k) ?_
  refine own_g1 (getF X564 hx hZ hown (host := "") (Or.inl (ww hw 51 rfl)) Via.refl e564 u27 rfl rfl (hb hby d14_38)) fun T565 X565 e565 => ?_
  refine gb T565 (mkF m 42 #[SA q2, SD y_a1, S2, SA o9_1] [(.ref o9_1), (.ref q3)]) (fun _ k => XS.aloadN X565.here hx rfl (hb hby d14_41) rfl rfl k) ?_
  refine own_c1 (callV X565 hx hZ (y := mn18) hown (ww hw 123 rfl) (ww hw 124 rfl) (ww hw 126 rfl) (ww hw 125 rfl) (ww hw 127 rfl) (ww hw 40 rfl) (by decide) e565 u30 (argsL := [(.ref o9_1)]) (rest := []) (W := 0) (au15_add l Z a0 hw q3 o9_1 q4 q5 (-1 : Int64) y_45 y_29 y_33 y_a1 h564 n0 Z0 u30 u31 u32 u33 u34 u35 u42 u43 u44 u45 u46 u47 ne_q3_o9_1 ne_q3_q4 ne_q4_o9_1 ge_q3 ge_q4 ge_o9_1) rfl (by decide) (by decide) (by decide) (by decide) rfl (by rw [hml]; rfl) (lenOf pd12 rfl) rfl (by show 2 * 0 + _ ≤ _; exact Nat.le_of_eq rfl) (hb hby d14_42)) fun v576 T576 L576 X576 hQ576 => ?_
  obtain ⟨rfl, NL576, K576, f566, f567, f568, f569, f570, f571, f572, f573, f574⟩ := hQ576
  have N0 := Fr.app N0 NL576
  have e576 : T576.heap = T576.heap := rfl
  have nin_q2 := (ninS ne_q2_q3 (ninS ne_q2_q4 (ninS ne_q2_o9_1 nin0)))
  have u26 := u26.keep K576 nin_q2
  have u27 := u27.keep K576 nin_q2
  have u28 := u28.keep K576 nin_q2
  have u29 := u29.keep K576 nin_q2
  have Z0 := Nat.le_trans Z0 K576.1
  have K0 := K0.trans K576 (allS mi_q3 (allS mi_q4 (allS mi_o9_1 all0)))
  exact outV X576 hx hlk hret (hb hby d14_45) (by rw [e576]; exact ⟨rfl, N0, K0, u26, u27, u28, u29, f566, f567, f568, f569, f570, f571, f572, f573, f574⟩) (by decide) (by decide)
theorem d13_0 : decode prog_19_method_7_code 0 = .ok (.dload_n 1, 1) := by decide +kernel
theorem d13_1 : decode prog_19_method_7_code 1 = .ok (.aload_n 0, 1) := by decide +kernel
theorem d13_2 : decode prog_19_method_7_code 2 = .ok (.getfield 25, 3) := by decide +kernel
theorem d13_5 : decode prog_19_method_7_code 5 = .ok (.dcmp .l, 1) := by decide +kernel
theorem d13_6 : decode prog_19_method_7_code 6 = .ok (.ifCond .lt 11, 3) := by decide +kernel
theorem d13_9 : decode prog_19_method_7_code 9 = .ok (.dload_n 1, 1) := by decide +kernel
theorem d13_10 : decode prog_19_method_7_code 10 = .ok (.ldc2_w 40, 3) := by decide +kernel
theorem d13_13 : decode prog_19_method_7_code 13 = .ok (.dcmp .g, 1) := by decide +kernel
theorem d13_14 : decode prog_19_method_7_code 14 = .ok (.ifCond .lt 21, 3) := by decide +kernel
theorem d13_35 : decode prog_19_method_7_code 35 = .ok (.aload_n 0, 1) := by decide +kernel
theorem d13_36 : decode prog_19_method_7_code 36 = .ok (.dload_n 1, 1) := by decide +kernel
theorem d13_37 : decode prog_19_method_7_code 37 = .ok (.aload_n 3, 1) := by decide +kernel
theorem d13_38 : decode prog_19_method_7_code 38 = .ok (.invokevirtual 51, 3) := by decide +kernel
theorem d13_41 : decode prog_19_method_7_code 41 = .ok (.return_, 1) := by decide +kernel
set_option maxRecDepth 65536 in
set_option maxHeartbeats 40000000 in
theorem au17_scheduleAt (l : Launch) (Z : State) (a0 : Array Value) (hw : ∀ d ∈ tables_1, d.before a0 Z = true) (q2 o9_1 q1 q3 q4 q5 : Addr) (y_29 y_45 y_47 : Int64) (y_33 y_46 : UInt64) (h0 : Heap) (n0 : Nat) (Z0 : n0 ≤ h0.size) (u25 : Exa Z h0 q2 sn2) (u26 : Fld Z h0 q2 sn2 "budget" sn16 (.ref q1)) (u27 : Fld Z h0 q2 sn2 "pending" sn21 (.ref q3)) (u28 : Fld Z h0 q2 sn2 "now" "D" (.double (0 : UInt64))) (u29 : Fld Z h0 q2 sn2 "scheduled" "J" (.long y_29)) (u30 : Exa Z h0 q3 sn4) (u31 : Fld Z h0 q3 sn4 "heap" sn10 (.ref q4)) (u32 : Fld Z h0 q3 sn4 "size" "I" (.int (0 : Int32))) (u33 : Fld Z h0 q3 sn4 "floor" "D" (.double y_33)) (u34 : OvS Z h0 q4 sn1) (u35 : Sar Z h0 q4 (.object sn1) [.null, .null, .null, .null, .null, .null, .null, .null, .null, .null, .null, .null, .null, .null, .null, .null, .null]) (u42 : Exa Z h0 o9_1 sn3) (u43 : Fld Z h0 o9_1 sn3 "this$0" sn6 (.ref q5)) (u44 : Fld Z h0 o9_1 sn1 "place" "J" (.long (-1 : Int64))) (u45 : Fld Z h0 o9_1 sn3 "insideAfter" "J" (.long y_45)) (u46 : Fld Z h0 o9_1 sn1 "time" "D" (.double y_46)) (u47 : Fld Z h0 o9_1 sn1 "sequence" "J" (.long y_47)) (ne_q2_o9_1 : q2 ≠ o9_1) (ne_q2_q3 : q2 ≠ q3) (ne_q2_q4 : q2 ≠ q4) (ne_q3_o9_1 : q3 ≠ o9_1) (ne_q3_q4 : q3 ≠ q4) (ne_q4_o9_1 : q4 ≠ o9_1) (ge_q2 : n0 ≤ q2) (ge_q3 : n0 ≤ q3) (ge_q4 : n0 ≤ q4) (ge_o9_1 : n0 ≤ o9_1) :
    Does l mn20 prog_19_method_7_code 4 none [] ({ frames := 4, cells := 0, slots := 0, locals := 58 } : Room) Z #[(.ref q2), (.double (0 : UInt64)), (.ref o9_1)] h0 (fun v h L => v = none ∧ Fr n0 L ∧ Keep h0 h [q2, q3, q4, o9_1] ∧ Fld Z h q2 sn2 "budget" sn16 (.ref q1) ∧ Fld Z h q2 sn2 "pending" sn21 (.ref q3) ∧ Fld Z h q2 sn2 "now" "D" (.double (0 : UInt64)) ∧ Fld Z h q2 sn2 "scheduled" "J" (.long (y_29 + (1 : Int64))) ∧ Fld Z h q3 sn4 "heap" sn10 (.ref q4) ∧ Fld Z h q3 sn4 "size" "I" (.int (1 : Int32)) ∧ Fld Z h q3 sn4 "floor" "D" (.double y_33) ∧ Sar Z h q4 (.object sn1) [(.ref o9_1), .null, .null, .null, .null, .null, .null, .null, .null, .null, .null, .null, .null, .null, .null, .null, .null] ∧ Fld Z h o9_1 sn3 "this$0" sn6 (.ref q5) ∧ Fld Z h o9_1 sn1 "place" "J" (.long (0 : Int64)) ∧ Fld Z h o9_1 sn3 "insideAfter" "J" (.long y_45) ∧ Fld Z h o9_1 sn1 "time" "D" (.double (0 : UInt64)) ∧ Fld Z h o9_1 sn1 "sequence" "J" (.long y_29)) := by
  refine Does.of (plainFor_of_name pn1) ?_
  intro p e s m below meth c s₁ hx hby hml hret hlk hZ hown hnm X0 e0
  have N0 := Fr.nil n0
  refine Goes.cast (g' := mkF m 0 #[SA q2, SD 0, S2, SA o9_1] []) (ef_au16_add m q2 (0 : UInt64) o9_1) ?_
  have mi_q2 : q2 ∈ [q2, q3, q4, o9_1] ∨ h0.size ≤ q2 := (Or.inl (List.mem_cons_self ..))
  have mi_q3 : q3 ∈ [q2, q3, q4, o9_1] ∨ h0.size ≤ q3 := (Or.inl (List.mem_cons_of_mem _ (List.mem_cons_self ..)))
  have mi_q4 : q4 ∈ [q2, q3, q4, o9_1] ∨ h0.size ≤ q4 := (Or.inl (List.mem_cons_of_mem _ (List.mem_cons_of_mem _ (List.mem_cons_self ..))))
  have mi_o9_1 : o9_1 ∈ [q2, q3, q4, o9_1] ∨ h0.size ≤ o9_1 := (Or.inl (List.mem_cons_of_mem _ (List.mem_cons_of_mem _ (List.mem_cons_of_mem _ (List.mem_cons_self ..)))))
  have K0 := Keep.refl h0 [q2, q3, q4, o9_1]
  refine gb s₁ (mkF m 2 #[SA q2, SD 0, S2, SA o9_1] [(.ref q2), (.double (0 : UInt64))]) (fun _ k => XS.dloadN X0.here hx rfl (hb hby d13_0) rfl (XS.aloadN X0.here hx rfl (hb hby d13_1) rfl rfl k)) ?_
  refine own_g1 (getF X0 hx hZ hown (host := "") (Or.inl (ww hw 105 rfl)) Via.refl e0 u28 rfl rfl (hb hby d13_2)) fun T621 X621 e621 => ?_
  refine gb T621 (mkF m 6 #[SA q2, SD 0, S2, SA o9_1] [(.int (0 : Int32))]) (fun _ k => XS.dcmpS X621.here hx rfl (hb hby d13_5) rfl (by decide +kernel) k) ?_
  refine gb T621 (mkF m 9 #[SA q2, SD 0, S2, SA o9_1] []) (fun _ k => XS.ifNo X621.here hx rfl (hb hby d13_6) rfl (by decide) k) ?_
  refine gb T621 (mkF m 10 #[SA q2, SD 0, S2, SA o9_1] [(.double (0 : UInt64))]) (fun _ k => XS.dloadN X621.here hx rfl (hb hby d13_9) rfl k) ?_
  refine gb T621 (mkF m 13 #[SA q2, SD 0, S2, SA o9_1] [(.double (9218868437227405312 : UInt64)), (.double (0 : UInt64))]) (X621.ldc2DoubleC hx hown (mvT hZ (ww hw 107 rfl)) (g := (mkF m 10 #[SA q2, SD 0, S2, SA o9_1] [(.double (0 : UInt64))])) rfl (hb hby d13_10)) ?_
  refine gb T621 (mkF m 14 #[SA q2, SD 0, S2, SA o9_1] [(.int (-1 : Int32))]) (fun _ k => XS.dcmpS X621.here hx rfl (hb hby d13_13) rfl (by decide +kernel) k) ?_
  refine gb T621 (mkF m 35 #[SA q2, SD 0, S2, SA o9_1] []) (fun _ k => XS.ifYes X621.here hx rfl (pc0 := 14) (pc' := 35) rfl (hb hby d13_14) rfl (by decide) (by decide) (by decide) k) ?_
  refine gb T621 (mkF m 38 #[SA q2, SD 0, S2, SA o9_1] [(.ref o9_1), (.double (0 : UInt64)), (.ref q2)]) (fun _ k => XS.aloadN X621.here hx rfl (hb hby d13_35) rfl rfl (XS.dloadN X621.here hx rfl (hb hby d13_36) rfl (XS.aloadN X621.here hx rfl (hb hby d13_37) rfl rfl k))) ?_
  refine own_c1 (callP X621 hx hZ (y := mn19) hown (ww hw 108 rfl) (ww hw 109 rfl) (ww hw 110 rfl) (ww hw 111 rfl) (ww hw 28 rfl) (ww hw 27 rfl) (by decide) e621 u25 (argsL := [(.double (0 : UInt64)), (.ref o9_1)]) (rest := []) (W := 0) (au16_add l Z a0 hw q2 o9_1 q1 q3 q4 q5 y_29 y_45 y_47 (0 : UInt64) (0 : UInt64) y_33 y_46 h0 n0 Z0 u25 u26 u27 u28 u29 u30 u31 u32 u33 u34 u35 u42 u43 u44 u45 u46 u47 ne_q2_o9_1 ne_q2_q3 ne_q2_q4 ne_q3_o9_1 ne_q3_q4 ne_q4_o9_1 ge_q2 ge_q3 ge_q4 ge_o9_1) rfl (by decide) (by decide) (by decide) (by decide) rfl (by rw [hml]; rfl) (lenOf pd13 rfl) rfl (by show 2 * 0 + _ ≤ _; exact Nat.le_of_eq rfl) (hb hby d13_38)) fun v635 T635 L635 X635 hQ635 => ?_
  obtain ⟨rfl, NL635, K635, f622, f623, f624, f625, f626, f627, f628, f629, f630, f631, f632, f633, f634⟩ := hQ635
  have N0 := Fr.app N0 NL635
  have e635 : T635.heap = T635.heap := rfl
  have Z0 := Nat.le_trans Z0 K635.1
  have K0 := K0.trans K635 (allS mi_q2 (allS mi_q3 (allS mi_q4 (allS mi_o9_1 all0))))
  exact outV X635 hx hlk hret (hb hby d13_41) (by rw [e635]; exact ⟨rfl, N0, K0, f622, f623, f624, f625, f626, f627, f628, f629, f630, f631, f632, f633, f634⟩) (by decide) (by decide)
theorem d20_0 : decode jdk_29_method_95_code 0 = .ok (.dload_n 0, 1) := by decide +kernel
theorem d20_1 : decode jdk_29_method_95_code 1 = .ok (.ldc2_w 327, 3) := by decide +kernel
theorem d20_4 : decode jdk_29_method_95_code 4 = .ok (.dcmp .g, 1) := by decide +kernel
theorem d20_5 : decode jdk_29_method_95_code 5 = .ok (.ifCond .ge 29, 3) := by decide +kernel
theorem d20_8 : decode jdk_29_method_95_code 8 = .ok (.dload_n 0, 1) := by decide +kernel
theorem d20_9 : decode jdk_29_method_95_code 9 = .ok (.dconst 0, 1) := by decide +kernel
theorem d20_10 : decode jdk_29_method_95_code 10 = .ok (.dadd, 1) := by decide +kernel
theorem d20_11 : decode jdk_29_method_95_code 11 = .ok (.invokestatic 79, 3) := by decide +kernel
theorem d20_14 : decode jdk_29_method_95_code 14 = .ok (.lstore_n 2, 1) := by decide +kernel
theorem d20_15 : decode jdk_29_method_95_code 15 = .ok (.lload_n 2, 1) := by decide +kernel
theorem d20_16 : decode jdk_29_method_95_code 16 = .ok (.lload_n 2, 1) := by decide +kernel
theorem d20_17 : decode jdk_29_method_95_code 17 = .ok (.lconst 0, 1) := by decide +kernel
theorem d20_18 : decode jdk_29_method_95_code 18 = .ok (.lcmp, 1) := by decide +kernel
theorem d20_19 : decode jdk_29_method_95_code 19 = .ok (.ifCond .lt 7, 3) := by decide +kernel
theorem d20_22 : decode jdk_29_method_95_code 22 = .ok (.lconst 1, 1) := by decide +kernel
theorem d20_23 : decode jdk_29_method_95_code 23 = .ok (.goto 6, 3) := by decide +kernel
theorem d20_29 : decode jdk_29_method_95_code 29 = .ok (.ladd, 1) := by decide +kernel
theorem d20_30 : decode jdk_29_method_95_code 30 = .ok (.invokestatic 166, 3) := by decide +kernel
theorem d20_33 : decode jdk_29_method_95_code 33 = .ok (.dreturn, 1) := by decide +kernel
theorem ef_au18_nextUp (m : MethodId) (x0 : UInt64) : entryFrame m #[(.double x0)] 4 = mkF m 0 #[SD x0, S2, SU, SU] [] := by first | (simp [entryFrame, mkF, argsToLocals, Value.category, maxLocals]; done) | rfl
set_option maxRecDepth 65536 in
set_option maxHeartbeats 40000000 in
theorem au18_nextUp (l : Launch) (Z : State) (a0 : Array Value) (hw : ∀ d ∈ tables_1, d.before a0 Z = true)  (h0 : Heap) (n0 : Nat) (Z0 : n0 ≤ h0.size)  :
    Does l (⟨"java/lang/Math", "nextUp", "(D)D"⟩ : MethodName) jdk_29_method_95_code 4 (some .double) [] ({ frames := 1, cells := 0, slots := 0, locals := 15 } : Room) Z #[(.double (4607182418800017408 : UInt64))] h0 (fun v h L => v = some (.double (4607182418800017409 : UInt64)) ∧ Fr n0 L ∧ h = h0) := by
  refine Does.of (by decide +kernel) ?_
  intro p e s m below meth c s₁ hx hby hml hret hlk hZ hown hnm X0 e0
  have N0 := Fr.nil n0
  refine Goes.cast (g' := mkF m 0 #[SD 4607182418800017408, S2, SU, SU] []) (ef_au18_nextUp m (4607182418800017408 : UInt64)) ?_
  have K0 := Keep.refl h0 []
  refine gb s₁ (mkF m 1 #[SD 4607182418800017408, S2, SU, SU] [(.double (4607182418800017408 : UInt64))]) (fun _ k => XS.dloadN X0.here hx rfl (hb hby d20_0) rfl k) ?_
  refine gb s₁ (mkF m 4 #[SD 4607182418800017408, S2, SU, SU] [(.double (9218868437227405312 : UInt64)), (.double (4607182418800017408 : UInt64))]) (X0.ldc2DoubleC hx hown (mvT hZ (ww hw 149 rfl)) (g := (mkF m 1 #[SD 4607182418800017408, S2, SU, SU] [(.double (4607182418800017408 : UInt64))])) rfl (hb hby d20_1)) ?_
  refine gb s₁ (mkF m 5 #[SD 4607182418800017408, S2, SU, SU] [(.int (-1 : Int32))]) (fun _ k => XS.dcmpS X0.here hx rfl (hb hby d20_4) rfl (by decide +kernel) k) ?_
  refine gb s₁ (mkF m 8 #[SD 4607182418800017408, S2, SU, SU] []) (fun _ k => XS.ifNo X0.here hx rfl (hb hby d20_5) rfl (by decide) k) ?_
  refine gb s₁ (mkF m 10 #[SD 4607182418800017408, S2, SU, SU] [(.double (0 : UInt64)), (.double (4607182418800017408 : UInt64))]) (fun _ k => XS.dloadN X0.here hx rfl (hb hby d20_8) rfl (XS.dconst0 X0.here hx rfl (hb hby d20_9) rfl k)) ?_
  refine gb s₁ (mkF m 11 #[SD 4607182418800017408, S2, SU, SU] [(.double (4607182418800017408 : UInt64))]) (fun _ k => XS.daddS X0.here hx rfl (hb hby d20_10) rfl (by decide +kernel) (by decide +kernel : FP.dadd (4607182418800017408 : UInt64) (0 : UInt64) = (4607182418800017408 : UInt64)) k) ?_
  obtain ⟨vm691, X691, st691⟩ := X0.doubleToRawLongBits hx hown (mvT hZ (ww hw 150 rfl)) (mvT hZ (ww hw 153 rfl)) (mvT hZ (ww hw 151 rfl)) (mvT hZ (ww hw 152 rfl)) (g := (mkF m 11 #[SD 4607182418800017408, S2, SU, SU] [(.double (4607182418800017408 : UInt64))])) rfl (by rw [hml]; rfl) rfl (hb hby d20_11) (by decide) (by show 2 * 0 + 0 + (nativeFrameWords "java/lang/Double" "doubleToRawLongBits" 2 + 11) ≤ _; decide +kernel)
  have e691 : (s₁.setVm vm691).heap = h0 := e0
  refine gb (s₁.setVm vm691) (mkF m 14 #[SD 4607182418800017408, S2, SU, SU] [(.long (4607182418800017408 : Int64))]) st691 ?_
  refine gb (s₁.setVm vm691) (mkF m 18 #[SD 4607182418800017408, S2, SJ 4607182418800017408, S2] [(.long (0 : Int64)), (.long (4607182418800017408 : Int64)), (.long (4607182418800017408 : Int64))]) (fun _ k => XS.lstoreN X691.here hx rfl (hb hby d20_14) rfl (l' := #[SD 4607182418800017408, S2, SJ 4607182418800017408, S2]) rfl (XS.lloadN X691.here hx rfl (hb hby d20_15) rfl (XS.lloadN X691.here hx rfl (hb hby d20_16) rfl (XS.lconst X691.here hx rfl (hb hby d20_17)  k)))) ?_
  refine gb (s₁.setVm vm691) (mkF m 19 #[SD 4607182418800017408, S2, SJ 4607182418800017408, S2] [(.int (1 : Int32)), (.long (4607182418800017408 : Int64))]) (fun _ k => XS.lcmpS X691.here hx rfl (hb hby d20_18) rfl (by decide) k) ?_
  refine gb (s₁.setVm vm691) (mkF m 22 #[SD 4607182418800017408, S2, SJ 4607182418800017408, S2] [(.long (4607182418800017408 : Int64))]) (fun _ k => XS.ifNo X691.here hx rfl (hb hby d20_19) rfl (by decide) k) ?_
  refine gb (s₁.setVm vm691) (mkF m 23 #[SD 4607182418800017408, S2, SJ 4607182418800017408, S2] [(.long (1 : Int64)), (.long (4607182418800017408 : Int64))]) (fun _ k => XS.lconst X691.here hx rfl (hb hby d20_22)  k) ?_
  refine gb (s₁.setVm vm691) (mkF m 29 #[SD 4607182418800017408, S2, SJ 4607182418800017408, S2] [(.long (1 : Int64)), (.long (4607182418800017408 : Int64))]) (fun _ k => XS.goto X691.here hx rfl (pc0 := 23) (pc' := 29) rfl (hb hby d20_23) (by decide) (by decide) k) ?_
  refine gb (s₁.setVm vm691) (mkF m 30 #[SD 4607182418800017408, S2, SJ 4607182418800017408, S2] [(.long (4607182418800017409 : Int64))]) (fun _ k => XS.ladd X691.here hx rfl (hb hby d20_29) rfl k) ?_
  obtain ⟨vm692, X692, st692⟩ := X691.longBitsToDouble hx hown (mvT hZ (ww hw 154 rfl)) (mvT hZ (ww hw 156 rfl)) (mvT hZ (ww hw 155 rfl)) (mvT hZ (ww hw 152 rfl)) (g := (mkF m 30 #[SD 4607182418800017408, S2, SJ 4607182418800017408, S2] [(.long (4607182418800017409 : Int64))])) rfl (by rw [hml]; rfl) (by decide +kernel) rfl (hb hby d20_30) (by decide) (by show 2 * 0 + 0 + (nativeFrameWords "java/lang/Double" "longBitsToDouble" 2 + 11) ≤ _; decide +kernel)
  have e692 : ((s₁.setVm vm691).setVm vm692).heap = h0 := e691
  refine gb ((s₁.setVm vm691).setVm vm692) (mkF m 33 #[SD 4607182418800017408, S2, SJ 4607182418800017408, S2] [(.double (4607182418800017409 : UInt64))]) st692 ?_
  exact outD X692 hx hlk hret (hb hby d20_33) (by rw [e692]; exact ⟨rfl, N0, rfl⟩) (by decide) (by decide)
theorem d21_0 : decode prog_18_method_17_code 0 = .ok (.aload_n 0, 1) := by decide +kernel
theorem d21_1 : decode prog_18_method_17_code 1 = .ok (.getfield 58, 3) := by decide +kernel
theorem d21_4 : decode prog_18_method_17_code 4 = .ok (.aload_n 1, 1) := by decide +kernel
theorem d21_5 : decode prog_18_method_17_code 5 = .ok (.getfield 58, 3) := by decide +kernel
theorem d21_8 : decode prog_18_method_17_code 8 = .ok (.dcmp .g, 1) := by decide +kernel
theorem d21_9 : decode prog_18_method_17_code 9 = .ok (.ifCond .lt 27, 3) := by decide +kernel
theorem d21_12 : decode prog_18_method_17_code 12 = .ok (.aload_n 0, 1) := by decide +kernel
theorem d21_13 : decode prog_18_method_17_code 13 = .ok (.getfield 58, 3) := by decide +kernel
theorem d21_16 : decode prog_18_method_17_code 16 = .ok (.aload_n 1, 1) := by decide +kernel
theorem d21_17 : decode prog_18_method_17_code 17 = .ok (.getfield 58, 3) := by decide +kernel
theorem d21_20 : decode prog_18_method_17_code 20 = .ok (.dcmp .l, 1) := by decide +kernel
theorem d21_21 : decode prog_18_method_17_code 21 = .ok (.ifCond .ne 19, 3) := by decide +kernel
theorem d21_40 : decode prog_18_method_17_code 40 = .ok (.iconst 0, 1) := by decide +kernel
theorem d21_41 : decode prog_18_method_17_code 41 = .ok (.ireturn, 1) := by decide +kernel
set_option maxRecDepth 65536 in
set_option maxHeartbeats 40000000 in
theorem au19_before (l : Launch) (Z : State) (a0 : Array Value) (hw : ∀ d ∈ tables_1, d.before a0 Z = true) (o9_2 o9_1 : Addr) (h0 : Heap) (n0 : Nat) (Z0 : n0 ≤ h0.size) (u46 : Fld Z h0 o9_1 sn1 "time" "D" (.double (0 : UInt64))) (u52 : Fld Z h0 o9_2 sn1 "time" "D" (.double (4607182418800017409 : UInt64))) :
    Does l mn40 prog_18_method_17_code 2 (some .boolean) [] ({ frames := 0, cells := 0, slots := 0, locals := 0 } : Room) Z #[(.ref o9_2), (.ref o9_1)] h0 (fun v h L => v = some (.int (0 : Int32)) ∧ Fr n0 L ∧ h = h0) := by
  refine Does.of (plainFor_of_name pn4) ?_
  intro p e s m below meth c s₁ hx hby hml hret hlk hZ hown hnm X0 e0
  have N0 := Fr.nil n0
  refine Goes.cast (g' := mkF m 0 #[SA o9_2, SA o9_1] []) (ef_au6_init m o9_2 o9_1) ?_
  have K0 := Keep.refl h0 []
  refine gb s₁ (mkF m 1 #[SA o9_2, SA o9_1] [(.ref o9_2)]) (fun _ k => XS.aloadN X0.here hx rfl (hb hby d21_0) rfl rfl k) ?_
  refine own_g1 (getF X0 hx hZ hown (host := "") (Or.inl (ww hw 160 rfl)) Via.refl e0 u52 rfl rfl (hb hby d21_1)) fun T874 X874 e874 => ?_
  refine gb T874 (mkF m 5 #[SA o9_2, SA o9_1] [(.ref o9_1), (.double (4607182418800017409 : UInt64))]) (fun _ k => XS.aloadN X874.here hx rfl (hb hby d21_4) rfl rfl k) ?_
  refine own_g1 (getF X874 hx hZ hown (host := "") (Or.inl (ww hw 160 rfl)) Via.refl e874 u46 rfl rfl (hb hby d21_5)) fun T875 X875 e875 => ?_
  refine gb T875 (mkF m 9 #[SA o9_2, SA o9_1] [(.int (1 : Int32))]) (fun _ k => XS.dcmpS X875.here hx rfl (hb hby d21_8) rfl (by decide +kernel) k) ?_
  refine gb T875 (mkF m 12 #[SA o9_2, SA o9_1] []) (fun _ k => XS.ifNo X875.here hx rfl (hb hby d21_9) rfl (by decide) k) ?_
  refine gb T875 (mkF m 13 #[SA o9_2, SA o9_1] [(.ref o9_2)]) (fun _ k => XS.aloadN X875.here hx rfl (hb hby d21_12) rfl rfl k) ?_
  refine own_g1 (getF X875 hx hZ hown (host := "") (Or.inl (ww hw 160 rfl)) Via.refl e875 u52 rfl rfl (hb hby d21_13)) fun T876 X876 e876 => ?_
  refine gb T876 (mkF m 17 #[SA o9_2, SA o9_1] [(.ref o9_1), (.double (4607182418800017409 : UInt64))]) (fun _ k => XS.aloadN X876.here hx rfl (hb hby d21_16) rfl rfl k) ?_
  refine own_g1 (getF X876 hx hZ hown (host := "") (Or.inl (ww hw 160 rfl)) Via.refl e876 u46 rfl rfl (hb hby d21_17)) fun T877 X877 e877 => ?_
  refine gb T877 (mkF m 21 #[SA o9_2, SA o9_1] [(.int (1 : Int32))]) (fun _ k => XS.dcmpS X877.here hx rfl (hb hby d21_20) rfl (by decide +kernel) k) ?_
  refine gb T877 (mkF m 40 #[SA o9_2, SA o9_1] []) (fun _ k => XS.ifYes X877.here hx rfl (pc0 := 21) (pc' := 40) rfl (hb hby d21_21) rfl (by decide) (by decide) (by decide) k) ?_
  refine gb T877 (mkF m 41 #[SA o9_2, SA o9_1] [(.int (0 : Int32))]) (fun _ k => XS.iconst X877.here hx rfl (hb hby d21_40)  k) ?_
  exact outZ X877 hx hlk hret (hb hby d21_41) (by rw [e877]; exact ⟨rfl, N0, rfl⟩) (by decide) (by decide)
set_option maxRecDepth 65536 in
set_option maxHeartbeats 40000000 in
theorem au20_place (l : Launch) (Z : State) (a0 : Array Value) (hw : ∀ d ∈ tables_1, d.before a0 Z = true) (q3 o9_2 q4 o9_1 q5 : Addr) (y_50 y_51 y_53 : Int64) (y_52 : UInt64) (h0 : Heap) (n0 : Nat) (Z0 : n0 ≤ h0.size) (u27 : OvS Z h0 q4 sn1) (u39 : Fld Z h0 q3 sn4 "heap" sn10 (.ref q4)) (u42 : Sar Z h0 q4 (.object sn1) [(.ref o9_1), .null, .null, .null, .null, .null, .null, .null, .null, .null, .null, .null, .null, .null, .null, .null, .null]) (u48 : Exa Z h0 o9_2 sn3) (u49 : Fld Z h0 o9_2 sn3 "this$0" sn6 (.ref q5)) (u50 : Fld Z h0 o9_2 sn1 "place" "J" (.long y_50)) (u51 : Fld Z h0 o9_2 sn3 "insideAfter" "J" (.long y_51)) (u52 : Fld Z h0 o9_2 sn1 "time" "D" (.double y_52)) (u53 : Fld Z h0 o9_2 sn1 "sequence" "J" (.long y_53)) (ne_q4_o9_2 : q4 ≠ o9_2) (ge_q4 : n0 ≤ q4) (ge_o9_2 : n0 ≤ o9_2) :
    Does l mn11 prog_18_method_12_code 3 none [] ({ frames := 0, cells := 0, slots := 0, locals := 0 } : Room) Z #[(.ref q3), (.ref o9_2), (.int (1 : Int32))] h0 (fun v h L => v = none ∧ Fr n0 L ∧ Keep h0 h [q4, o9_2] ∧ Sar Z h q4 (.object sn1) [(.ref o9_1), (.ref o9_2), .null, .null, .null, .null, .null, .null, .null, .null, .null, .null, .null, .null, .null, .null, .null] ∧ Fld Z h o9_2 sn3 "this$0" sn6 (.ref q5) ∧ Fld Z h o9_2 sn1 "place" "J" (.long (1 : Int64)) ∧ Fld Z h o9_2 sn3 "insideAfter" "J" (.long y_51) ∧ Fld Z h o9_2 sn1 "time" "D" (.double y_52) ∧ Fld Z h o9_2 sn1 "sequence" "J" (.long y_53)) := by
  refine Does.of (plainFor_of_name pn4) ?_
  intro p e s m below meth c s₁ hx hby hml hret hlk hZ hown hnm X0 e0
  have N0 := Fr.nil n0
  refine Goes.cast (g' := mkF m 0 #[SA q3, SA o9_2, SI 1] []) (ef_au5_init m q3 o9_2 (1 : Int32)) ?_
  have mi_q4 : q4 ∈ [q4, o9_2] ∨ h0.size ≤ q4 := (Or.inl (List.mem_cons_self ..))
  have mi_o9_2 : o9_2 ∈ [q4, o9_2] ∨ h0.size ≤ o9_2 := (Or.inl (List.mem_cons_of_mem _ (List.mem_cons_self ..)))
  have K0 := Keep.refl h0 [q4, o9_2]
  refine gb s₁ (mkF m 1 #[SA q3, SA o9_2, SI 1] [(.ref q3)]) (fun _ k => XS.aloadN X0.here hx rfl (hb hby d18_0) rfl rfl k) ?_
  refine own_g1 (getF X0 hx hZ hown (host := "") (Or.inl (ww hw 47 rfl)) Via.refl e0 u39 rfl rfl (hb hby d18_1)) fun T889 X889 e889 => ?_
  refine gb T889 (mkF m 6 #[SA q3, SA o9_2, SI 1] [(.ref o9_2), (.int (1 : Int32)), (.ref q4)]) (fun _ k => XS.iloadN X889.here hx rfl (hb hby d18_4) rfl (XS.aloadN X889.here hx rfl (hb hby d18_5) rfl rfl k)) ?_
  obtain ⟨T890, h890, X890, e890, W890, V890, st890⟩ := stAS X889 hx hZ e889 u42 rfl (j := (1 : Int32)) 1 (by decide) (by show 1 < 17; decide) (OvS.sto u27 u42 (Ins.of_exa u48 (ww hw 138 rfl))) (g := (mkF m 6 #[SA q3, SA o9_2, SI 1] [(.ref o9_2), (.int (1 : Int32)), (.ref q4)])) rfl rfl (hb hby d18_6)
  have N0 := Fr.snoc X890 N0 ge_q4
  have u48 := u48.wr W890
  have u49 := u49.other W890 (Or.inl (Ne.symm ne_q4_o9_2))
  have u50 := u50.other W890 (Or.inl (Ne.symm ne_q4_o9_2))
  have u51 := u51.other W890 (Or.inl (Ne.symm ne_q4_o9_2))
  have u52 := u52.other W890 (Or.inl (Ne.symm ne_q4_o9_2))
  have u53 := u53.other W890 (Or.inl (Ne.symm ne_q4_o9_2))
  have Z0 := own_zw Z0 W890
  have K0 := K0.wr W890 mi_q4
  have u42 : Sar Z h890 q4 (.object sn1) [(.ref o9_1), (.ref o9_2), .null, .null, .null, .null, .null, .null, .null, .null, .null, .null, .null, .null, .null, .null, .null] := V890
  refine gb T890 (mkF m 7 #[SA q3, SA o9_2, SI 1] []) st890 ?_
  refine gb T890 (mkF m 9 #[SA q3, SA o9_2, SI 1] [(.int (1 : Int32)), (.ref o9_2)]) (fun _ k => XS.aloadN X890.here hx rfl (hb hby d18_7) rfl rfl (XS.iloadN X890.here hx rfl (hb hby d18_8) rfl k)) ?_
  refine gb T890 (mkF m 10 #[SA q3, SA o9_2, SI 1] [(.long (1 : Int64)), (.ref o9_2)]) (fun _ k => XS.i2l X890.here hx rfl (hb hby d18_9) rfl k) ?_
  refine own_p1 (putF X890 hx hZ hown (host := "") (Or.inl (ww hw 139 rfl)) Via.refl e890 u50 u48 (Or.inl (ww hw 97 rfl)) (ww hw 82 rfl) (ty := .long) (by decide) rfl rfl rfl rfl (hb hby d18_10)) fun T891 h891 X891 e891 W891 => ?_
  have N0 := Fr.snoc X891 N0 ge_o9_2
  have u42 := u42.other W891 ne_q4_o9_2
  have u49 := own_oth u49 W891 (Or.inr (ww hw 88 rfl)) (Or.inl (ww hw 97 rfl)) (by decide)
  have u50 := u50.same W891
  have u51 := own_oth u51 W891 (Or.inr (ww hw 99 rfl)) (Or.inl (ww hw 97 rfl)) (by decide)
  have u52 := own_oth u52 W891 (Or.inl (ww hw 118 rfl)) (Or.inl (ww hw 97 rfl)) (by decide)
  have u53 := own_oth u53 W891 (Or.inl (ww hw 122 rfl)) (Or.inl (ww hw 97 rfl)) (by decide)
  have Z0 := own_zw Z0 W891
  have K0 := K0.wr W891 mi_o9_2
  exact outV X891 hx hlk hret (hb hby d18_13) (by rw [e891]; exact ⟨rfl, N0, K0, u42, u49, u50, u51, u52, u53⟩) (by decide) (by decide)
set_option maxRecDepth 65536 in
set_option maxHeartbeats 40000000 in
theorem au21_siftUp (l : Launch) (Z : State) (a0 : Array Value) (hw : ∀ d ∈ tables_1, d.before a0 Z = true) (q3 o9_2 q4 o9_1 q5 : Addr) (y_50 y_51 y_53 : Int64) (h0 : Heap) (n0 : Nat) (Z0 : n0 ≤ h0.size) (u26 : Exa Z h0 q3 sn4) (u27 : OvS Z h0 q4 sn1) (u39 : Fld Z h0 q3 sn4 "heap" sn10 (.ref q4)) (u42 : Sar Z h0 q4 (.object sn1) [(.ref o9_1), .null, .null, .null, .null, .null, .null, .null, .null, .null, .null, .null, .null, .null, .null, .null, .null]) (u46 : Fld Z h0 o9_1 sn1 "time" "D" (.double (0 : UInt64))) (u48 : Exa Z h0 o9_2 sn3) (u49 : Fld Z h0 o9_2 sn3 "this$0" sn6 (.ref q5)) (u50 : Fld Z h0 o9_2 sn1 "place" "J" (.long y_50)) (u51 : Fld Z h0 o9_2 sn3 "insideAfter" "J" (.long y_51)) (u52 : Fld Z h0 o9_2 sn1 "time" "D" (.double (4607182418800017409 : UInt64))) (u53 : Fld Z h0 o9_2 sn1 "sequence" "J" (.long y_53)) (ne_q4_o9_2 : q4 ≠ o9_2) (ge_q4 : n0 ≤ q4) (ge_o9_2 : n0 ≤ o9_2) :
    Does l mn17 prog_18_method_10_code 5 none [] ({ frames := 1, cells := 0, slots := 0, locals := 14 } : Room) Z #[(.ref q3), (.int (1 : Int32)), (.ref o9_2)] h0 (fun v h L => v = none ∧ Fr n0 L ∧ Keep h0 h [q4, o9_2] ∧ Sar Z h q4 (.object sn1) [(.ref o9_1), (.ref o9_2), .null, .null, .null, .null, .null, .null, .null, .null, .null, .null, .null, .null, .null, .null, .null] ∧ Fld Z h o9_2 sn3 "this$0" sn6 (.ref q5) ∧ Fld Z h o9_2 sn1 "place" "J" (.long (1 : Int64)) ∧ Fld Z h o9_2 sn3 "insideAfter" "J" (.long y_51) ∧ Fld Z h o9_2 sn1 "time" "D" (.double (4607182418800017409 : UInt64)) ∧ Fld Z h o9_2 sn1 "sequence" "J" (.long y_53)) := by
  refine Does.of (plainFor_of_name pn4) ?_
  intro p e s m below meth c s₁ hx hby hml hret hlk hZ hown hnm X0 e0
  have N0 := Fr.nil n0
  refine Goes.cast (g' := mkF m 0 #[SA q3, SI 1, SA o9_2, SU, SU] []) (ef_au14_siftUp m q3 (1 : Int32) o9_2) ?_
  have mi_q4 : q4 ∈ [q4, o9_2] ∨ h0.size ≤ q4 := (Or.inl (List.mem_cons_self ..))
  have mi_o9_2 : o9_2 ∈ [q4, o9_2] ∨ h0.size ≤ o9_2 := (Or.inl (List.mem_cons_of_mem _ (List.mem_cons_self ..)))
  have K0 := Keep.refl h0 [q4, o9_2]
  refine gb s₁ (mkF m 1 #[SA q3, SI 1, SA o9_2, SU, SU] [(.int (1 : Int32))]) (fun _ k => XS.iloadN X0.here hx rfl (hb hby d17_0) rfl k) ?_
  refine gb s₁ (mkF m 4 #[SA q3, SI 1, SA o9_2, SU, SU] []) (fun _ k => XS.ifNo X0.here hx rfl (hb hby d17_1) rfl (by decide) k) ?_
  refine gb s₁ (mkF m 6 #[SA q3, SI 1, SA o9_2, SU, SU] [(.int (1 : Int32)), (.int (1 : Int32))]) (fun _ k => XS.iloadN X0.here hx rfl (hb hby d17_4) rfl (XS.iconst X0.here hx rfl (hb hby d17_5)  k)) ?_
  refine gb s₁ (mkF m 7 #[SA q3, SI 1, SA o9_2, SU, SU] [(.int (0 : Int32))]) (fun _ k => XS.isub X0.here hx rfl (hb hby d17_6) rfl k) ?_
  refine gb s₁ (mkF m 8 #[SA q3, SI 1, SA o9_2, SU, SU] [(.int (1 : Int32)), (.int (0 : Int32))]) (fun _ k => XS.iconst X0.here hx rfl (hb hby d17_7)  k) ?_
  refine gb s₁ (mkF m 9 #[SA q3, SI 1, SA o9_2, SU, SU] [(.int (0 : Int32))]) (fun _ k => XS.iushr X0.here hx rfl (hb hby d17_8) rfl k) ?_
  refine gb s₁ (mkF m 11 #[SA q3, SI 1, SA o9_2, SI 0, SU] [(.ref q3)]) (fun _ k => XS.istoreN X0.here hx rfl (hb hby d17_9) rfl (l' := #[SA q3, SI 1, SA o9_2, SI 0, SU]) rfl (XS.aloadN X0.here hx rfl (hb hby d17_10) rfl rfl k)) ?_
  refine own_g1 (getF X0 hx hZ hown (host := "") (Or.inl (ww hw 47 rfl)) Via.refl e0 u39 rfl rfl (hb hby d17_11)) fun T917 X917 e917 => ?_
  refine gb T917 (mkF m 15 #[SA q3, SI 1, SA o9_2, SI 0, SU] [(.int (0 : Int32)), (.ref q4)]) (fun _ k => XS.iloadN X917.here hx rfl (hb hby d17_14) rfl k) ?_
  refine gb T917 (mkF m 16 #[SA q3, SI 1, SA o9_2, SI 0, SU] [(.ref o9_1)]) (ldAS X917 hx hZ e917 u42 rfl (v := (.ref o9_1)) (j := (0 : Int32)) 0 (by decide) rfl (g := (mkF m 15 #[SA q3, SI 1, SA o9_2, SI 0, SU] [(.int (0 : Int32)), (.ref q4)])) rfl rfl (hb hby d17_15)) ?_
  refine gb T917 (mkF m 21 #[SA q3, SI 1, SA o9_2, SI 0, SA o9_1] [(.ref o9_1), (.ref o9_2)]) (fun _ k => XS.astore X917.here hx rfl (hb hby d17_16) rfl rfl (l' := #[SA q3, SI 1, SA o9_2, SI 0, SA o9_1]) rfl (XS.aloadN X917.here hx rfl (hb hby d17_18) rfl rfl (XS.aload X917.here hx rfl (hb hby d17_19) rfl rfl k))) ?_
  refine own_c1 (callC X917 hx hZ (y := mn40) hown (ww hw 157 rfl) (ww hw 158 rfl) (ww hw 159 rfl) (ww hw 40 rfl) (by decide) e917 (argsL := [(.ref o9_2), (.ref o9_1)]) (rest := []) (W := 0) (au19_before l Z a0 hw o9_2 o9_1 h0 n0 Z0 u46 u52) rfl (by decide) (by decide) (by decide) (by decide) rfl (by rw [hml]; rfl) (lenOf pd15 rfl) rfl (by show 2 * 0 + _ ≤ _; exact Nat.le_of_eq rfl) (hb hby d17_21)) fun v918 T918 L918 X918 hQ918 => ?_
  obtain ⟨rfl, NL918, hk918⟩ := hQ918
  have N0 := Fr.app N0 NL918
  refine gb T918 (mkF m 27 #[SA q3, SI 1, SA o9_2, SI 0, SA o9_1] []) (fun _ k => XS.ifNo X918.here hx rfl (hb hby d17_24) rfl (by decide) k) ?_
  refine gb T918 (mkF m 42 #[SA q3, SI 1, SA o9_2, SI 0, SA o9_1] []) (fun _ k => XS.goto X918.here hx rfl (pc0 := 27) (pc' := 42) rfl (hb hby d17_27) (by decide) (by decide) k) ?_
  refine gb T918 (mkF m 45 #[SA q3, SI 1, SA o9_2, SI 0, SA o9_1] [(.int (1 : Int32)), (.ref o9_2), (.ref q3)]) (fun _ k => XS.aloadN X918.here hx rfl (hb hby d17_42) rfl rfl (XS.aloadN X918.here hx rfl (hb hby d17_43) rfl rfl (XS.iloadN X918.here hx rfl (hb hby d17_44) rfl k))) ?_
  refine own_c1 (callP X918 hx hZ (y := mn11) hown (ww hw 134 rfl) (ww hw 135 rfl) (ww hw 136 rfl) (ww hw 137 rfl) (ww hw 40 rfl) (ww hw 39 rfl) (by decide) hk918 u26 (argsL := [(.ref o9_2), (.int (1 : Int32))]) (rest := []) (W := 0) (au20_place l Z a0 hw q3 o9_2 q4 o9_1 q5 y_50 y_51 y_53 (4607182418800017409 : UInt64) h0 n0 Z0 u27 u39 u42 u48 u49 u50 u51 u52 u53 ne_q4_o9_2 ge_q4 ge_o9_2) rfl (by decide) (by decide) (by decide) (by decide) rfl (by rw [hml]; rfl) (lenOf pd10 rfl) rfl (by show 2 * 0 + _ ≤ _; exact Nat.le_of_eq rfl) (hb hby d17_45)) fun v925 T925 L925 X925 hQ925 => ?_
  obtain ⟨rfl, NL925, K925, f919, f920, f921, f922, f923, f924⟩ := hQ925
  have N0 := Fr.app N0 NL925
  have e925 : T925.heap = T925.heap := rfl
  have Z0 := Nat.le_trans Z0 K925.1
  have K0 := K0.trans K925 (allS mi_q4 (allS mi_o9_2 all0))
  exact outV X925 hx hlk hret (hb hby d17_48) (by rw [e925]; exact ⟨rfl, N0, K0, f919, f920, f921, f922, f923, f924⟩) (by decide) (by decide)
set_option maxRecDepth 65536 in
set_option maxHeartbeats 40000000 in
theorem au22_add (l : Launch) (Z : State) (a0 : Array Value) (hw : ∀ d ∈ tables_1, d.before a0 Z = true) (q3 o9_2 q4 o9_1 q5 : Addr) (y_50 y_51 y_53 : Int64) (y_41 : UInt64) (h0 : Heap) (n0 : Nat) (Z0 : n0 ≤ h0.size) (u26 : Exa Z h0 q3 sn4) (u27 : OvS Z h0 q4 sn1) (u39 : Fld Z h0 q3 sn4 "heap" sn10 (.ref q4)) (u40 : Fld Z h0 q3 sn4 "size" "I" (.int (1 : Int32))) (u41 : Fld Z h0 q3 sn4 "floor" "D" (.double y_41)) (u42 : Sar Z h0 q4 (.object sn1) [(.ref o9_1), .null, .null, .null, .null, .null, .null, .null, .null, .null, .null, .null, .null, .null, .null, .null, .null]) (u46 : Fld Z h0 o9_1 sn1 "time" "D" (.double (0 : UInt64))) (u48 : Exa Z h0 o9_2 sn3) (u49 : Fld Z h0 o9_2 sn3 "this$0" sn6 (.ref q5)) (u50 : Fld Z h0 o9_2 sn1 "place" "J" (.long y_50)) (u51 : Fld Z h0 o9_2 sn3 "insideAfter" "J" (.long y_51)) (u52 : Fld Z h0 o9_2 sn1 "time" "D" (.double (4607182418800017409 : UInt64))) (u53 : Fld Z h0 o9_2 sn1 "sequence" "J" (.long y_53)) (ne_q3_o9_1 : q3 ≠ o9_1) (ne_q3_o9_2 : q3 ≠ o9_2) (ne_q3_q4 : q3 ≠ q4) (ne_q4_o9_2 : q4 ≠ o9_2) (ge_q3 : n0 ≤ q3) (ge_q4 : n0 ≤ q4) (ge_o9_2 : n0 ≤ o9_2) :
    Does l mn18 prog_18_method_3_code 2 none [] ({ frames := 2, cells := 0, slots := 0, locals := 30 } : Room) Z #[(.ref q3), (.ref o9_2)] h0 (fun v h L => v = none ∧ Fr n0 L ∧ Keep h0 h [q3, q4, o9_2] ∧ Fld Z h q3 sn4 "heap" sn10 (.ref q4) ∧ Fld Z h q3 sn4 "size" "I" (.int (2 : Int32)) ∧ Fld Z h q3 sn4 "floor" "D" (.double y_41) ∧ Sar Z h q4 (.object sn1) [(.ref o9_1), (.ref o9_2), .null, .null, .null, .null, .null, .null, .null, .null, .null, .null, .null, .null, .null, .null, .null] ∧ Fld Z h o9_2 sn3 "this$0" sn6 (.ref q5) ∧ Fld Z h o9_2 sn1 "place" "J" (.long (1 : Int64)) ∧ Fld Z h o9_2 sn3 "insideAfter" "J" (.long y_51) ∧ Fld Z h o9_2 sn1 "time" "D" (.double (4607182418800017409 : UInt64)) ∧ Fld Z h o9_2 sn1 "sequence" "J" (.long y_53)) := by
  refine Does.of (plainFor_of_name pn4) ?_
  intro p e s m below meth c s₁ hx hby hml hret hlk hZ hown hnm X0 e0
  have N0 := Fr.nil n0
  refine Goes.cast (g' := mkF m 0 #[SA q3, SA o9_2] []) (ef_au6_init m q3 o9_2) ?_
  have mi_q3 : q3 ∈ [q3, q4, o9_2] ∨ h0.size ≤ q3 := (Or.inl (List.mem_cons_self ..))
  have mi_q4 : q4 ∈ [q3, q4, o9_2] ∨ h0.size ≤ q4 := (Or.inl (List.mem_cons_of_mem _ (List.mem_cons_self ..)))
  have mi_o9_2 : o9_2 ∈ [q3, q4, o9_2] ∨ h0.size ≤ o9_2 := (Or.inl (List.mem_cons_of_mem _ (List.mem_cons_of_mem _ (List.mem_cons_self ..))))
  have K0 := Keep.refl h0 [q3, q4, o9_2]
  refine gb s₁ (mkF m 2 #[SA q3, SA o9_2] [(.ref q3), (.ref q3)]) (fun _ k => XS.aloadN X0.here hx rfl (hb hby d16_0) rfl rfl (XS.dup X0.here hx rfl (hb hby d16_1) rfl rfl k)) ?_
  refine own_g1 (getF X0 hx hZ hown (host := "") (Or.inl (ww hw 128 rfl)) Via.refl e0 u40 rfl rfl (hb hby d16_2)) fun T958 X958 e958 => ?_
  refine gb T958 (mkF m 6 #[SA q3, SA o9_2] [(.int (1 : Int32)), (.int (1 : Int32)), (.ref q3)]) (fun _ k => XS.iconst X958.here hx rfl (hb hby d16_5)  k) ?_
  refine gb T958 (mkF m 7 #[SA q3, SA o9_2] [(.int (2 : Int32)), (.ref q3)]) (fun _ k => XS.iadd X958.here hx rfl (hb hby d16_6) rfl k) ?_
  refine own_p1 (putF X958 hx hZ hown (host := "") (Or.inl (ww hw 128 rfl)) Via.refl e958 u40 u26 (Or.inl (ww hw 129 rfl)) (ww hw 39 rfl) (ty := .int) (by decide) rfl rfl rfl rfl (hb hby d16_7)) fun T959 h959 X959 e959 W959 => ?_
  have N0 := Fr.snoc X959 N0 ge_q3
  have u26 := u26.wr W959
  have u27 := u27.wr W959
  have u39 := own_oth u39 W959 (Or.inl (ww hw 48 rfl)) (Or.inl (ww hw 129 rfl)) (by decide)
  have u40 := u40.same W959
  have u41 := own_oth u41 W959 (Or.inl (ww hw 327 rfl)) (Or.inl (ww hw 129 rfl)) (by decide)
  have u42 := u42.other W959 (Ne.symm ne_q3_q4)
  have u46 := u46.other W959 (Or.inl (Ne.symm ne_q3_o9_1))
  have u48 := u48.wr W959
  have u49 := u49.other W959 (Or.inl (Ne.symm ne_q3_o9_2))
  have u50 := u50.other W959 (Or.inl (Ne.symm ne_q3_o9_2))
  have u51 := u51.other W959 (Or.inl (Ne.symm ne_q3_o9_2))
  have u52 := u52.other W959 (Or.inl (Ne.symm ne_q3_o9_2))
  have u53 := u53.other W959 (Or.inl (Ne.symm ne_q3_o9_2))
  have Z0 := own_zw Z0 W959
  have K0 := K0.wr W959 mi_q3
  refine gb T959 (mkF m 11 #[SA q3, SA o9_2] [(.ref q3)]) (fun _ k => XS.aloadN X959.here hx rfl (hb hby d16_10) rfl rfl k) ?_
  refine own_g1 (getF X959 hx hZ hown (host := "") (Or.inl (ww hw 47 rfl)) Via.refl e959 u39 rfl rfl (hb hby d16_11)) fun T960 X960 e960 => ?_
  refine gb T960 (mkF m 17 #[SA q3, SA o9_2] []) (fun _ k => XS.ifnullNo X960.here hx rfl (hb hby d16_14) rfl k) ?_
  refine gb T960 (mkF m 19 #[SA q3, SA o9_2] [(.ref q3), (.ref q3)]) (fun _ k => XS.aloadN X960.here hx rfl (hb hby d16_17) rfl rfl (XS.aloadN X960.here hx rfl (hb hby d16_18) rfl rfl k)) ?_
  refine own_g1 (getF X960 hx hZ hown (host := "") (Or.inl (ww hw 128 rfl)) Via.refl e960 u40 rfl rfl (hb hby d16_19)) fun T961 X961 e961 => ?_
  refine gb T961 (mkF m 23 #[SA q3, SA o9_2] [(.int (1 : Int32)), (.int (2 : Int32)), (.ref q3)]) (fun _ k => XS.iconst X961.here hx rfl (hb hby d16_22)  k) ?_
  refine gb T961 (mkF m 24 #[SA q3, SA o9_2] [(.int (1 : Int32)), (.ref q3)]) (fun _ k => XS.isub X961.here hx rfl (hb hby d16_23) rfl k) ?_
  refine gb T961 (mkF m 25 #[SA q3, SA o9_2] [(.ref o9_2), (.int (1 : Int32)), (.ref q3)]) (fun _ k => XS.aloadN X961.here hx rfl (hb hby d16_24) rfl rfl k) ?_
  refine own_c1 (callP X961 hx hZ (y := mn17) hown (ww hw 130 rfl) (ww hw 131 rfl) (ww hw 132 rfl) (ww hw 133 rfl) (ww hw 40 rfl) (ww hw 39 rfl) (by decide) e961 u26 (argsL := [(.int (1 : Int32)), (.ref o9_2)]) (rest := []) (W := 0) (au21_siftUp l Z a0 hw q3 o9_2 q4 o9_1 q5 y_50 y_51 y_53 h959 n0 Z0 u26 u27 u39 u42 u46 u48 u49 u50 u51 u52 u53 ne_q4_o9_2 ge_q4 ge_o9_2) rfl (by decide) (by decide) (by decide) (by decide) rfl (by rw [hml]; rfl) (lenOf pd11 rfl) rfl (by show 2 * 0 + _ ≤ _; exact Nat.le_of_eq rfl) (hb hby d16_25)) fun v968 T968 L968 X968 hQ968 => ?_
  obtain ⟨rfl, NL968, K968, f962, f963, f964, f965, f966, f967⟩ := hQ968
  have N0 := Fr.app N0 NL968
  have e968 : T968.heap = T968.heap := rfl
  have nin_q3 := (ninS ne_q3_q4 (ninS ne_q3_o9_2 nin0))
  have u39 := u39.keep K968 nin_q3
  have u40 := u40.keep K968 nin_q3
  have u41 := u41.keep K968 nin_q3
  have Z0 := Nat.le_trans Z0 K968.1
  have K0 := K0.trans K968 (allS mi_q4 (allS mi_o9_2 all0))
  refine gb T968 (mkF m 29 #[SA q3, SA o9_2] [(.ref q3)]) (fun _ k => XS.aloadN X968.here hx rfl (hb hby d16_28) rfl rfl k) ?_
  refine own_g1 (getF X968 hx hZ hown (host := "") (Or.inl (ww hw 128 rfl)) Via.refl e968 u40 rfl rfl (hb hby d16_29)) fun T969 X969 e969 => ?_
  refine gb T969 (mkF m 34 #[SA q3, SA o9_2] [(.int (16 : Int32)), (.int (2 : Int32))]) (fun _ k => XS.bipush X969.here hx rfl (hb hby d16_32)  k) ?_
  refine gb T969 (mkF m 43 #[SA q3, SA o9_2] []) (fun _ k => XS.icmpYes X969.here hx rfl (pc0 := 34) (pc' := 43) rfl (hb hby d16_34) rfl (by decide) (by decide) (by decide) k) ?_
  exact outV X969 hx hlk hret (hb hby d16_43) (by rw [e969]; exact ⟨rfl, N0, K0, u39, u40, u41, f962, f963, f964, f965, f966, f967⟩) (by decide) (by decide)
set_option maxRecDepth 65536 in
set_option maxHeartbeats 40000000 in
theorem au23_add (l : Launch) (Z : State) (a0 : Array Value) (hw : ∀ d ∈ tables_1, d.before a0 Z = true) (q2 o9_2 q3 q4 q1 o9_1 q5 : Addr) (y_38 y_51 y_53 : Int64) (y_37 y_41 y_52 : UInt64) (h0 : Heap) (n0 : Nat) (Z0 : n0 ≤ h0.size) (u25 : Exa Z h0 q2 sn2) (u26 : Exa Z h0 q3 sn4) (u27 : OvS Z h0 q4 sn1) (u35 : Fld Z h0 q2 sn2 "budget" sn16 (.ref q1)) (u36 : Fld Z h0 q2 sn2 "pending" sn21 (.ref q3)) (u37 : Fld Z h0 q2 sn2 "now" "D" (.double y_37)) (u38 : Fld Z h0 q2 sn2 "scheduled" "J" (.long y_38)) (u39 : Fld Z h0 q3 sn4 "heap" sn10 (.ref q4)) (u40 : Fld Z h0 q3 sn4 "size" "I" (.int (1 : Int32))) (u41 : Fld Z h0 q3 sn4 "floor" "D" (.double y_41)) (u42 : Sar Z h0 q4 (.object sn1) [(.ref o9_1), .null, .null, .null, .null, .null, .null, .null, .null, .null, .null, .null, .null, .null, .null, .null, .null]) (u46 : Fld Z h0 o9_1 sn1 "time" "D" (.double (0 : UInt64))) (u48 : Exa Z h0 o9_2 sn3) (u49 : Fld Z h0 o9_2 sn3 "this$0" sn6 (.ref q5)) (u50 : Fld Z h0 o9_2 sn1 "place" "J" (.long (-1 : Int64))) (u51 : Fld Z h0 o9_2 sn3 "insideAfter" "J" (.long y_51)) (u52 : Fld Z h0 o9_2 sn1 "time" "D" (.double y_52)) (u53 : Fld Z h0 o9_2 sn1 "sequence" "J" (.long y_53)) (ne_o9_1_o9_2 : o9_1 ≠ o9_2) (ne_q2_o9_1 : q2 ≠ o9_1) (ne_q2_o9_2 : q2 ≠ o9_2) (ne_q2_q3 : q2 ≠ q3) (ne_q2_q4 : q2 ≠ q4) (ne_q3_o9_1 : q3 ≠ o9_1) (ne_q3_o9_2 : q3 ≠ o9_2) (ne_q3_q4 : q3 ≠ q4) (ne_q4_o9_2 : q4 ≠ o9_2) (ge_q2 : n0 ≤ q2) (ge_q3 : n0 ≤ q3) (ge_q4 : n0 ≤ q4) (ge_o9_2 : n0 ≤ o9_2) :
    Does l mn19 prog_19_method_11_code 4 none [] ({ frames := 3, cells := 0, slots := 0, locals := 43 } : Room) Z #[(.ref q2), (.double (4607182418800017409 : UInt64)), (.ref o9_2)] h0 (fun v h L => v = none ∧ Fr n0 L ∧ Keep h0 h [q2, q3, q4, o9_2] ∧ Fld Z h q2 sn2 "budget" sn16 (.ref q1) ∧ Fld Z h q2 sn2 "pending" sn21 (.ref q3) ∧ Fld Z h q2 sn2 "now" "D" (.double y_37) ∧ Fld Z h q2 sn2 "scheduled" "J" (.long (y_38 + (1 : Int64))) ∧ Fld Z h q3 sn4 "heap" sn10 (.ref q4) ∧ Fld Z h q3 sn4 "size" "I" (.int (2 : Int32)) ∧ Fld Z h q3 sn4 "floor" "D" (.double y_41) ∧ Sar Z h q4 (.object sn1) [(.ref o9_1), (.ref o9_2), .null, .null, .null, .null, .null, .null, .null, .null, .null, .null, .null, .null, .null, .null, .null] ∧ Fld Z h o9_2 sn3 "this$0" sn6 (.ref q5) ∧ Fld Z h o9_2 sn1 "place" "J" (.long (1 : Int64)) ∧ Fld Z h o9_2 sn3 "insideAfter" "J" (.long y_51) ∧ Fld Z h o9_2 sn1 "time" "D" (.double (4607182418800017409 : UInt64)) ∧ Fld Z h o9_2 sn1 "sequence" "J" (.long y_38)) := by
  refine Does.of (plainFor_of_name pn1) ?_
  intro p e s m below meth c s₁ hx hby hml hret hlk hZ hown hnm X0 e0
  have N0 := Fr.nil n0
  refine Goes.cast (g' := mkF m 0 #[SA q2, SD 4607182418800017409, S2, SA o9_2] []) (ef_au16_add m q2 (4607182418800017409 : UInt64) o9_2) ?_
  have mi_q2 : q2 ∈ [q2, q3, q4, o9_2] ∨ h0.size ≤ q2 := (Or.inl (List.mem_cons_self ..))
  have mi_q3 : q3 ∈ [q2, q3, q4, o9_2] ∨ h0.size ≤ q3 := (Or.inl (List.mem_cons_of_mem _ (List.mem_cons_self ..)))
  have mi_q4 : q4 ∈ [q2, q3, q4, o9_2] ∨ h0.size ≤ q4 := (Or.inl (List.mem_cons_of_mem _ (List.mem_cons_of_mem _ (List.mem_cons_self ..))))
  have mi_o9_2 : o9_2 ∈ [q2, q3, q4, o9_2] ∨ h0.size ≤ o9_2 := (Or.inl (List.mem_cons_of_mem _ (List.mem_cons_of_mem _ (List.mem_cons_of_mem _ (List.mem_cons_self ..)))))
  have K0 := Keep.refl h0 [q2, q3, q4, o9_2]
  refine gb s₁ (mkF m 1 #[SA q2, SD 4607182418800017409, S2, SA o9_2] [(.ref o9_2)]) (fun _ k => XS.aloadN X0.here hx rfl (hb hby d14_0) rfl rfl k) ?_
  refine own_c1 (callV X0 hx hZ (y := mn14) hown (ww hw 112 rfl) (ww hw 113 rfl) (ww hw 115 rfl) (ww hw 114 rfl) (ww hw 116 rfl) (ww hw 92 rfl) (by decide) e0 u48 (argsL := []) (rest := []) (W := 0) (au12_pending l Z a0 hw o9_2 h0 n0 Z0 u50) rfl (by decide) (by decide) (by decide) (by decide) rfl (by rw [hml]; rfl) (lenOf pd0 rfl) rfl (by show 2 * 0 + _ ≤ _; exact Nat.le_of_eq rfl) (hb hby d14_1)) fun v1018 T1018 L1018 X1018 hQ1018 => ?_
  obtain ⟨rfl, NL1018, hk1018⟩ := hQ1018
  have N0 := Fr.app N0 NL1018
  refine gb T1018 (mkF m 17 #[SA q2, SD 4607182418800017409, S2, SA o9_2] []) (fun _ k => XS.ifYes X1018.here hx rfl (pc0 := 4) (pc' := 17) rfl (hb hby d14_4) rfl (by decide) (by decide) (by decide) k) ?_
  refine gb T1018 (mkF m 19 #[SA q2, SD 4607182418800017409, S2, SA o9_2] [(.double (4607182418800017409 : UInt64)), (.ref o9_2)]) (fun _ k => XS.aloadN X1018.here hx rfl (hb hby d14_17) rfl rfl (XS.dloadN X1018.here hx rfl (hb hby d14_18) rfl k)) ?_
  refine own_p1 (putF X1018 hx hZ hown (host := "") (Or.inl (ww hw 117 rfl)) Via.refl hk1018 u52 u48 (Or.inl (ww hw 118 rfl)) (ww hw 82 rfl) (ty := .double) (by decide) rfl rfl rfl rfl (hb hby d14_19)) fun T1019 h1019 X1019 e1019 W1019 => ?_
  have N0 := Fr.snoc X1019 N0 ge_o9_2
  have u25 := u25.wr W1019
  have u26 := u26.wr W1019
  have u27 := u27.wr W1019
  have u35 := u35.other W1019 (Or.inl ne_q2_o9_2)
  have u36 := u36.other W1019 (Or.inl ne_q2_o9_2)
  have u37 := u37.other W1019 (Or.inl ne_q2_o9_2)
  have u38 := u38.other W1019 (Or.inl ne_q2_o9_2)
  have u39 := u39.other W1019 (Or.inl ne_q3_o9_2)
  have u40 := u40.other W1019 (Or.inl ne_q3_o9_2)
  have u41 := u41.other W1019 (Or.inl ne_q3_o9_2)
  have u42 := u42.other W1019 ne_q4_o9_2
  have u46 := u46.other W1019 (Or.inl ne_o9_1_o9_2)
  have u48 := u48.wr W1019
  have u49 := own_oth u49 W1019 (Or.inr (ww hw 88 rfl)) (Or.inl (ww hw 118 rfl)) (by decide)
  have u50 := own_oth u50 W1019 (Or.inl (ww hw 97 rfl)) (Or.inl (ww hw 118 rfl)) (by decide)
  have u51 := own_oth u51 W1019 (Or.inr (ww hw 99 rfl)) (Or.inl (ww hw 118 rfl)) (by decide)
  have u52 := u52.same W1019
  have u53 := own_oth u53 W1019 (Or.inl (ww hw 122 rfl)) (Or.inl (ww hw 118 rfl)) (by decide)
  have Z0 := own_zw Z0 W1019
  have K0 := K0.wr W1019 mi_o9_2
  refine gb T1019 (mkF m 25 #[SA q2, SD 4607182418800017409, S2, SA o9_2] [(.ref q2), (.ref q2), (.ref o9_2)]) (fun _ k => XS.aloadN X1019.here hx rfl (hb hby d14_22) rfl rfl (XS.aloadN X1019.here hx rfl (hb hby d14_23) rfl rfl (XS.dup X1019.here hx rfl (hb hby d14_24) rfl rfl k))) ?_
  refine own_g1 (getF X1019 hx hZ hown (host := "") (Or.inl (ww hw 119 rfl)) Via.refl e1019 u38 rfl rfl (hb hby d14_25)) fun T1020 X1020 e1020 => ?_
  refine gb T1020 (mkF m 30 #[SA q2, SD 4607182418800017409, S2, SA o9_2] [(.long (1 : Int64)), (.long y_38), (.ref q2), (.long y_38), (.ref o9_2)]) (fun _ k => XS.dup2X1W X1020.here hx rfl (hb hby d14_28) rfl rfl rfl (XS.lconst X1020.here hx rfl (hb hby d14_29)  k)) ?_
  refine gb T1020 (mkF m 31 #[SA q2, SD 4607182418800017409, S2, SA o9_2] [(.long (y_38 + (1 : Int64))), (.ref q2), (.long y_38), (.ref o9_2)]) (fun _ k => XS.ladd X1020.here hx rfl (hb hby d14_30) rfl k) ?_
  refine own_p1 (putF X1020 hx hZ hown (host := "") (Or.inl (ww hw 119 rfl)) Via.refl e1020 u38 u25 (Or.inl (ww hw 120 rfl)) (ww hw 27 rfl) (ty := .long) (by decide) rfl rfl rfl rfl (hb hby d14_31)) fun T1021 h1021 X1021 e1021 W1021 => ?_
  have N0 := Fr.snoc X1021 N0 ge_q2
  have u26 := u26.wr W1021
  have u27 := u27.wr W1021
  have u35 := own_oth u35 W1021 (Or.inr (ww hw 37 rfl)) (Or.inl (ww hw 120 rfl)) (by decide)
  have u36 := own_oth u36 W1021 (Or.inr (ww hw 52 rfl)) (Or.inl (ww hw 120 rfl)) (by decide)
  have u37 := own_oth u37 W1021 (Or.inl (ww hw 106 rfl)) (Or.inl (ww hw 120 rfl)) (by decide)
  have u38 := u38.same W1021
  have u39 := u39.other W1021 (Or.inl (Ne.symm ne_q2_q3))
  have u40 := u40.other W1021 (Or.inl (Ne.symm ne_q2_q3))
  have u41 := u41.other W1021 (Or.inl (Ne.symm ne_q2_q3))
  have u42 := u42.other W1021 (Ne.symm ne_q2_q4)
  have u46 := u46.other W1021 (Or.inl (Ne.symm ne_q2_o9_1))
  have u48 := u48.wr W1021
  have u49 := u49.other W1021 (Or.inl (Ne.symm ne_q2_o9_2))
  have u50 := u50.other W1021 (Or.inl (Ne.symm ne_q2_o9_2))
  have u51 := u51.other W1021 (Or.inl (Ne.symm ne_q2_o9_2))
  have u52 := u52.other W1021 (Or.inl (Ne.symm ne_q2_o9_2))
  have u53 := u53.other W1021 (Or.inl (Ne.symm ne_q2_o9_2))
  have Z0 := own_zw Z0 W1021
  have K0 := K0.wr W1021 mi_q2
  refine own_p1 (putF X1021 hx hZ hown (host := "") (Or.inl (ww hw 121 rfl)) Via.refl e1021 u53 u48 (Or.inl (ww hw 122 rfl)) (ww hw 82 rfl) (ty := .long) (by decide) rfl rfl rfl rfl (hb hby d14_34)) fun T1022 h1022 X1022 e1022 W1022 => ?_
  have N0 := Fr.snoc X1022 N0 ge_o9_2
  have u26 := u26.wr W1022
  have u27 := u27.wr W1022
  have u35 := u35.other W1022 (Or.inl ne_q2_o9_2)
  have u36 := u36.other W1022 (Or.inl ne_q2_o9_2)
  have u37 := u37.other W1022 (Or.inl ne_q2_o9_2)
  have u38 := u38.other W1022 (Or.inl ne_q2_o9_2)
  have u39 := u39.other W1022 (Or.inl ne_q3_o9_2)
  have u40 := u40.other W1022 (Or.inl ne_q3_o9_2)
  have u41 := u41.other W1022 (Or.inl ne_q3_o9_2)
  have u42 := u42.other W1022 ne_q4_o9_2
  have u46 := u46.other W1022 (Or.inl ne_o9_1_o9_2)
  have u48 := u48.wr W1022
  have u49 := own_oth u49 W1022 (Or.inr (ww hw 88 rfl)) (Or.inl (ww hw 122 rfl)) (by decide)
  have u50 := own_oth u50 W1022 (Or.inl (ww hw 97 rfl)) (Or.inl (ww hw 122 rfl)) (by decide)
  have u51 := own_oth u51 W1022 (Or.inr (ww hw 99 rfl)) (Or.inl (ww hw 122 rfl)) (by decide)
  have u52 := own_oth u52 W1022 (Or.inl (ww hw 118 rfl)) (Or.inl (ww hw 122 rfl)) (by decide)
  have u53 := u53.same W1022
  have Z0 := own_zw Z0 W1022
  have K0 := K0.wr W1022 mi_o9_2
  refine gb T1022 (mkF m 38 #[SA q2, SD 4607182418800017409, S2, SA o9_2] [(.ref q2)]) (fun _ k => XS.aloadN X1022.here hx rfl (hb hby d14_37) rfl rfl k) ?_
  refine own_g1 (getF X1022 hx hZ hown (host := "") (Or.inl (ww hw 51 rfl)) Via.refl e1022 u36 rfl rfl (hb hby d14_38)) fun T1023 X1023 e1023 => ?_
  refine gb T1023 (mkF m 42 #[SA q2, SD 4607182418800017409, S2, SA o9_2] [(.ref o9_2), (.ref q3)]) (fun _ k => XS.aloadN X1023.here hx rfl (hb hby d14_41) rfl rfl k) ?_
  refine own_c1 (callV X1023 hx hZ (y := mn18) hown (ww hw 123 rfl) (ww hw 124 rfl) (ww hw 126 rfl) (ww hw 125 rfl) (ww hw 127 rfl) (ww hw 40 rfl) (by decide) e1023 u26 (argsL := [(.ref o9_2)]) (rest := []) (W := 0) (au22_add l Z a0 hw q3 o9_2 q4 o9_1 q5 (-1 : Int64) y_51 y_38 y_41 h1022 n0 Z0 u26 u27 u39 u40 u41 u42 u46 u48 u49 u50 u51 u52 u53 ne_q3_o9_1 ne_q3_o9_2 ne_q3_q4 ne_q4_o9_2 ge_q3 ge_q4 ge_o9_2) rfl (by decide) (by decide) (by decide) (by decide) rfl (by rw [hml]; rfl) (lenOf pd12 rfl) rfl (by show 2 * 0 + _ ≤ _; exact Nat.le_of_eq rfl) (hb hby d14_42)) fun v1034 T1034 L1034 X1034 hQ1034 => ?_
  obtain ⟨rfl, NL1034, K1034, f1024, f1025, f1026, f1027, f1028, f1029, f1030, f1031, f1032⟩ := hQ1034
  have N0 := Fr.app N0 NL1034
  have e1034 : T1034.heap = T1034.heap := rfl
  have nin_q2 := (ninS ne_q2_q3 (ninS ne_q2_q4 (ninS ne_q2_o9_2 nin0)))
  have u35 := u35.keep K1034 nin_q2
  have u36 := u36.keep K1034 nin_q2
  have u37 := u37.keep K1034 nin_q2
  have u38 := u38.keep K1034 nin_q2
  have Z0 := Nat.le_trans Z0 K1034.1
  have K0 := K0.trans K1034 (allS mi_q3 (allS mi_q4 (allS mi_o9_2 all0)))
  exact outV X1034 hx hlk hret (hb hby d14_45) (by rw [e1034]; exact ⟨rfl, N0, K0, u35, u36, u37, u38, f1024, f1025, f1026, f1027, f1028, f1029, f1030, f1031, f1032⟩) (by decide) (by decide)
set_option maxRecDepth 65536 in
set_option maxHeartbeats 40000000 in
theorem au24_scheduleAt (l : Launch) (Z : State) (a0 : Array Value) (hw : ∀ d ∈ tables_1, d.before a0 Z = true) (q2 o9_2 q3 q4 q1 o9_1 q5 : Addr) (y_38 y_51 y_53 : Int64) (y_41 y_52 : UInt64) (h0 : Heap) (n0 : Nat) (Z0 : n0 ≤ h0.size) (u25 : Exa Z h0 q2 sn2) (u26 : Exa Z h0 q3 sn4) (u27 : OvS Z h0 q4 sn1) (u35 : Fld Z h0 q2 sn2 "budget" sn16 (.ref q1)) (u36 : Fld Z h0 q2 sn2 "pending" sn21 (.ref q3)) (u37 : Fld Z h0 q2 sn2 "now" "D" (.double (0 : UInt64))) (u38 : Fld Z h0 q2 sn2 "scheduled" "J" (.long y_38)) (u39 : Fld Z h0 q3 sn4 "heap" sn10 (.ref q4)) (u40 : Fld Z h0 q3 sn4 "size" "I" (.int (1 : Int32))) (u41 : Fld Z h0 q3 sn4 "floor" "D" (.double y_41)) (u42 : Sar Z h0 q4 (.object sn1) [(.ref o9_1), .null, .null, .null, .null, .null, .null, .null, .null, .null, .null, .null, .null, .null, .null, .null, .null]) (u46 : Fld Z h0 o9_1 sn1 "time" "D" (.double (0 : UInt64))) (u48 : Exa Z h0 o9_2 sn3) (u49 : Fld Z h0 o9_2 sn3 "this$0" sn6 (.ref q5)) (u50 : Fld Z h0 o9_2 sn1 "place" "J" (.long (-1 : Int64))) (u51 : Fld Z h0 o9_2 sn3 "insideAfter" "J" (.long y_51)) (u52 : Fld Z h0 o9_2 sn1 "time" "D" (.double y_52)) (u53 : Fld Z h0 o9_2 sn1 "sequence" "J" (.long y_53)) (ne_o9_1_o9_2 : o9_1 ≠ o9_2) (ne_q2_o9_1 : q2 ≠ o9_1) (ne_q2_o9_2 : q2 ≠ o9_2) (ne_q2_q3 : q2 ≠ q3) (ne_q2_q4 : q2 ≠ q4) (ne_q3_o9_1 : q3 ≠ o9_1) (ne_q3_o9_2 : q3 ≠ o9_2) (ne_q3_q4 : q3 ≠ q4) (ne_q4_o9_2 : q4 ≠ o9_2) (ge_q2 : n0 ≤ q2) (ge_q3 : n0 ≤ q3) (ge_q4 : n0 ≤ q4) (ge_o9_2 : n0 ≤ o9_2) :
    Does l mn20 prog_19_method_7_code 4 none [] ({ frames := 4, cells := 0, slots := 0, locals := 58 } : Room) Z #[(.ref q2), (.double (4607182418800017409 : UInt64)), (.ref o9_2)] h0 (fun v h L => v = none ∧ Fr n0 L ∧ Keep h0 h [q2, q3, q4, o9_2] ∧ Fld Z h q2 sn2 "budget" sn16 (.ref q1) ∧ Fld Z h q2 sn2 "pending" sn21 (.ref q3) ∧ Fld Z h q2 sn2 "now" "D" (.double (0 : UInt64)) ∧ Fld Z h q2 sn2 "scheduled" "J" (.long (y_38 + (1 : Int64))) ∧ Fld Z h q3 sn4 "heap" sn10 (.ref q4) ∧ Fld Z h q3 sn4 "size" "I" (.int (2 : Int32)) ∧ Fld Z h q3 sn4 "floor" "D" (.double y_41) ∧ Sar Z h q4 (.object sn1) [(.ref o9_1), (.ref o9_2), .null, .null, .null, .null, .null, .null, .null, .null, .null, .null, .null, .null, .null, .null, .null] ∧ Fld Z h o9_2 sn3 "this$0" sn6 (.ref q5) ∧ Fld Z h o9_2 sn1 "place" "J" (.long (1 : Int64)) ∧ Fld Z h o9_2 sn3 "insideAfter" "J" (.long y_51) ∧ Fld Z h o9_2 sn1 "time" "D" (.double (4607182418800017409 : UInt64)) ∧ Fld Z h o9_2 sn1 "sequence" "J" (.long y_38)) := by
  refine Does.of (plainFor_of_name pn1) ?_
  intro p e s m below meth c s₁ hx hby hml hret hlk hZ hown hnm X0 e0
  have N0 := Fr.nil n0
  refine Goes.cast (g' := mkF m 0 #[SA q2, SD 4607182418800017409, S2, SA o9_2] []) (ef_au16_add m q2 (4607182418800017409 : UInt64) o9_2) ?_
  have mi_q2 : q2 ∈ [q2, q3, q4, o9_2] ∨ h0.size ≤ q2 := (Or.inl (List.mem_cons_self ..))
  have mi_q3 : q3 ∈ [q2, q3, q4, o9_2] ∨ h0.size ≤ q3 := (Or.inl (List.mem_cons_of_mem _ (List.mem_cons_self ..)))
  have mi_q4 : q4 ∈ [q2, q3, q4, o9_2] ∨ h0.size ≤ q4 := (Or.inl (List.mem_cons_of_mem _ (List.mem_cons_of_mem _ (List.mem_cons_self ..))))
  have mi_o9_2 : o9_2 ∈ [q2, q3, q4, o9_2] ∨ h0.size ≤ o9_2 := (Or.inl (List.mem_cons_of_mem _ (List.mem_cons_of_mem _ (List.mem_cons_of_mem _ (List.mem_cons_self ..)))))
  have K0 := Keep.refl h0 [q2, q3, q4, o9_2]
  refine gb s₁ (mkF m 2 #[SA q2, SD 4607182418800017409, S2, SA o9_2] [(.ref q2), (.double (4607182418800017409 : UInt64))]) (fun _ k => XS.dloadN X0.here hx rfl (hb hby d13_0) rfl (XS.aloadN X0.here hx rfl (hb hby d13_1) rfl rfl k)) ?_
  refine own_g1 (getF X0 hx hZ hown (host := "") (Or.inl (ww hw 105 rfl)) Via.refl e0 u37 rfl rfl (hb hby d13_2)) fun T1079 X1079 e1079 => ?_
  refine gb T1079 (mkF m 6 #[SA q2, SD 4607182418800017409, S2, SA o9_2] [(.int (1 : Int32))]) (fun _ k => XS.dcmpS X1079.here hx rfl (hb hby d13_5) rfl (by decide +kernel) k) ?_
  refine gb T1079 (mkF m 9 #[SA q2, SD 4607182418800017409, S2, SA o9_2] []) (fun _ k => XS.ifNo X1079.here hx rfl (hb hby d13_6) rfl (by decide) k) ?_
  refine gb T1079 (mkF m 10 #[SA q2, SD 4607182418800017409, S2, SA o9_2] [(.double (4607182418800017409 : UInt64))]) (fun _ k => XS.dloadN X1079.here hx rfl (hb hby d13_9) rfl k) ?_
  refine gb T1079 (mkF m 13 #[SA q2, SD 4607182418800017409, S2, SA o9_2] [(.double (9218868437227405312 : UInt64)), (.double (4607182418800017409 : UInt64))]) (X1079.ldc2DoubleC hx hown (mvT hZ (ww hw 107 rfl)) (g := (mkF m 10 #[SA q2, SD 4607182418800017409, S2, SA o9_2] [(.double (4607182418800017409 : UInt64))])) rfl (hb hby d13_10)) ?_
  refine gb T1079 (mkF m 14 #[SA q2, SD 4607182418800017409, S2, SA o9_2] [(.int (-1 : Int32))]) (fun _ k => XS.dcmpS X1079.here hx rfl (hb hby d13_13) rfl (by decide +kernel) k) ?_
  refine gb T1079 (mkF m 35 #[SA q2, SD 4607182418800017409, S2, SA o9_2] []) (fun _ k => XS.ifYes X1079.here hx rfl (pc0 := 14) (pc' := 35) rfl (hb hby d13_14) rfl (by decide) (by decide) (by decide) k) ?_
  refine gb T1079 (mkF m 38 #[SA q2, SD 4607182418800017409, S2, SA o9_2] [(.ref o9_2), (.double (4607182418800017409 : UInt64)), (.ref q2)]) (fun _ k => XS.aloadN X1079.here hx rfl (hb hby d13_35) rfl rfl (XS.dloadN X1079.here hx rfl (hb hby d13_36) rfl (XS.aloadN X1079.here hx rfl (hb hby d13_37) rfl rfl k))) ?_
  refine own_c1 (callP X1079 hx hZ (y := mn19) hown (ww hw 108 rfl) (ww hw 109 rfl) (ww hw 110 rfl) (ww hw 111 rfl) (ww hw 28 rfl) (ww hw 27 rfl) (by decide) e1079 u25 (argsL := [(.double (4607182418800017409 : UInt64)), (.ref o9_2)]) (rest := []) (W := 0) (au23_add l Z a0 hw q2 o9_2 q3 q4 q1 o9_1 q5 y_38 y_51 y_53 (0 : UInt64) y_41 y_52 h0 n0 Z0 u25 u26 u27 u35 u36 u37 u38 u39 u40 u41 u42 u46 u48 u49 u50 u51 u52 u53 ne_o9_1_o9_2 ne_q2_o9_1 ne_q2_o9_2 ne_q2_q3 ne_q2_q4 ne_q3_o9_1 ne_q3_o9_2 ne_q3_q4 ne_q4_o9_2 ge_q2 ge_q3 ge_q4 ge_o9_2) rfl (by decide) (by decide) (by decide) (by decide) rfl (by rw [hml]; rfl) (lenOf pd13 rfl) rfl (by show 2 * 0 + _ ≤ _; exact Nat.le_of_eq rfl) (hb hby d13_38)) fun v1093 T1093 L1093 X1093 hQ1093 => ?_
  obtain ⟨rfl, NL1093, K1093, f1080, f1081, f1082, f1083, f1084, f1085, f1086, f1087, f1088, f1089, f1090, f1091, f1092⟩ := hQ1093
  have N0 := Fr.app N0 NL1093
  have e1093 : T1093.heap = T1093.heap := rfl
  have Z0 := Nat.le_trans Z0 K1093.1
  have K0 := K0.trans K1093 (allS mi_q2 (allS mi_q3 (allS mi_q4 (allS mi_o9_2 all0))))
  exact outV X1093 hx hlk hret (hb hby d13_41) (by rw [e1093]; exact ⟨rfl, N0, K0, f1080, f1081, f1082, f1083, f1084, f1085, f1086, f1087, f1088, f1089, f1090, f1091, f1092⟩) (by decide) (by decide)
theorem d9_0 : decode prog_38_method_1_code 0 = .ok (.aload_n 0, 1) := by decide +kernel
theorem d9_1 : decode prog_38_method_1_code 1 = .ok (.invokespecial 1, 3) := by decide +kernel
theorem d9_4 : decode prog_38_method_1_code 4 = .ok (.aload_n 1, 1) := by decide +kernel
theorem d9_5 : decode prog_38_method_1_code 5 = .ok (.aload_n 2, 1) := by decide +kernel
theorem d9_6 : decode prog_38_method_1_code 6 = .ok (.invokevirtual 7, 3) := by decide +kernel
theorem d9_9 : decode prog_38_method_1_code 9 = .ok (.new 13, 3) := by decide +kernel
theorem d9_12 : decode prog_38_method_1_code 12 = .ok (.dup, 1) := by decide +kernel
theorem d9_13 : decode prog_38_method_1_code 13 = .ok (.aload_n 0, 1) := by decide +kernel
theorem d9_14 : decode prog_38_method_1_code 14 = .ok (.lconst 1, 1) := by decide +kernel
theorem d9_15 : decode prog_38_method_1_code 15 = .ok (.invokespecial 15, 3) := by decide +kernel
theorem d9_18 : decode prog_38_method_1_code 18 = .ok (.invokevirtual 18, 3) := by decide +kernel
theorem d9_21 : decode prog_38_method_1_code 21 = .ok (.aload_n 1, 1) := by decide +kernel
theorem d9_22 : decode prog_38_method_1_code 22 = .ok (.aload_n 2, 1) := by decide +kernel
theorem d9_23 : decode prog_38_method_1_code 23 = .ok (.invokevirtual 24, 3) := by decide +kernel
theorem d9_26 : decode prog_38_method_1_code 26 = .ok (.invokestatic 27, 3) := by decide +kernel
theorem d9_29 : decode prog_38_method_1_code 29 = .ok (.new 13, 3) := by decide +kernel
theorem d9_32 : decode prog_38_method_1_code 32 = .ok (.dup, 1) := by decide +kernel
theorem d9_33 : decode prog_38_method_1_code 33 = .ok (.aload_n 0, 1) := by decide +kernel
theorem d9_34 : decode prog_38_method_1_code 34 = .ok (.lconst 0, 1) := by decide +kernel
theorem d9_35 : decode prog_38_method_1_code 35 = .ok (.invokespecial 15, 3) := by decide +kernel
theorem d9_38 : decode prog_38_method_1_code 38 = .ok (.invokevirtual 18, 3) := by decide +kernel
theorem d9_41 : decode prog_38_method_1_code 41 = .ok (.return_, 1) := by decide +kernel
theorem ef_au25_init (m : MethodId) (x0 : Addr) (x1 : Addr) (x2 : Addr) : entryFrame m #[(.ref x0), (.ref x1), (.ref x2)] 3 = mkF m 0 #[SA x0, SA x1, SA x2] [] := by first | (simp [entryFrame, mkF, argsToLocals, Value.category, maxLocals]; done) | rfl
set_option maxRecDepth 65536 in
set_option maxHeartbeats 40000000 in
theorem au25_init (l : Launch) (Z : State) (a0 : Array Value) (hw : ∀ d ∈ tables_1, d.before a0 Z = true) (q5 q2 q6 q1 q3 q4 : Addr) (y_29 : Int64) (y_33 : UInt64) (h0 : Heap) (n0 : Nat) (Z0 : n0 ≤ h0.size) (u25 : Exa Z h0 q2 sn2) (u26 : Fld Z h0 q2 sn2 "budget" sn16 (.ref q1)) (u27 : Fld Z h0 q2 sn2 "pending" sn21 (.ref q3)) (u28 : Fld Z h0 q2 sn2 "now" "D" (.double (0 : UInt64))) (u29 : Fld Z h0 q2 sn2 "scheduled" "J" (.long y_29)) (u30 : Exa Z h0 q3 sn4) (u31 : Fld Z h0 q3 sn4 "heap" sn10 (.ref q4)) (u32 : Fld Z h0 q3 sn4 "size" "I" (.int (0 : Int32))) (u33 : Fld Z h0 q3 sn4 "floor" "D" (.double y_33)) (u34 : OvS Z h0 q4 sn1) (u35 : Sar Z h0 q4 (.object sn1) [.null, .null, .null, .null, .null, .null, .null, .null, .null, .null, .null, .null, .null, .null, .null, .null, .null]) (u39 : Exa Z h0 q6 sn13) (u40 : Fld Z h0 q6 sn13 "start" "D" (.double (0 : UInt64))) (u41 : Fld Z h0 q6 sn13 "end" "D" (.double (4607182418800017408 : UInt64))) (ne_q2_q3 : q2 ≠ q3) (ne_q2_q4 : q2 ≠ q4) (ne_q2_q6 : q2 ≠ q6) (ne_q3_q4 : q3 ≠ q4) (ne_q3_q6 : q3 ≠ q6) (ne_q4_q6 : q4 ≠ q6) (ge_q2 : n0 ≤ q2) (ge_q3 : n0 ≤ q3) (ge_q4 : n0 ≤ q4) :
    Does l mn41 prog_38_method_1_code 3 none [] ({ frames := 5, cells := 2, slots := 14, locals := 73 } : Room) Z #[(.ref q5), (.ref q2), (.ref q6)] h0 (fun v h L => ∃ (o9_1 o9_2 : Addr), v = none ∧ Fr n0 L ∧ Keep h0 h [q2, q3, q4] ∧ h0.size ≤ o9_1 ∧ h0.size ≤ o9_2 ∧ o9_1 ≠ o9_2 ∧ Exa Z h o9_1 sn3 ∧ Fld Z h o9_1 sn3 "this$0" sn6 (.ref q5) ∧ Fld Z h o9_1 sn1 "place" "J" (.long (0 : Int64)) ∧ Fld Z h o9_1 sn3 "insideAfter" "J" (.long (1 : Int64)) ∧ Fld Z h o9_1 sn1 "time" "D" (.double (0 : UInt64)) ∧ Fld Z h o9_1 sn1 "sequence" "J" (.long y_29) ∧ Exa Z h o9_2 sn3 ∧ Fld Z h q2 sn2 "budget" sn16 (.ref q1) ∧ Fld Z h q2 sn2 "pending" sn21 (.ref q3) ∧ Fld Z h q2 sn2 "now" "D" (.double (0 : UInt64)) ∧ Fld Z h q2 sn2 "scheduled" "J" (.long ((y_29 + (1 : Int64)) + (1 : Int64))) ∧ Fld Z h q3 sn4 "heap" sn10 (.ref q4) ∧ Fld Z h q3 sn4 "size" "I" (.int (2 : Int32)) ∧ Fld Z h q3 sn4 "floor" "D" (.double y_33) ∧ Sar Z h q4 (.object sn1) [(.ref o9_1), (.ref o9_2), .null, .null, .null, .null, .null, .null, .null, .null, .null, .null, .null, .null, .null, .null, .null] ∧ Fld Z h o9_2 sn3 "this$0" sn6 (.ref q5) ∧ Fld Z h o9_2 sn1 "place" "J" (.long (1 : Int64)) ∧ Fld Z h o9_2 sn3 "insideAfter" "J" (.long (0 : Int64)) ∧ Fld Z h o9_2 sn1 "time" "D" (.double (4607182418800017409 : UInt64)) ∧ Fld Z h o9_2 sn1 "sequence" "J" (.long (y_29 + (1 : Int64)))) := by
  refine Does.of (plainFor_of_name pn8) ?_
  intro p e s m below meth c s₁ hx hby hml hret hlk hZ hown hnm X0 e0
  have N0 := Fr.nil n0
  refine Goes.cast (g' := mkF m 0 #[SA q5, SA q2, SA q6] []) (ef_au25_init m q5 q2 q6) ?_
  have mi_q2 : q2 ∈ [q2, q3, q4] ∨ h0.size ≤ q2 := (Or.inl (List.mem_cons_self ..))
  have mi_q3 : q3 ∈ [q2, q3, q4] ∨ h0.size ≤ q3 := (Or.inl (List.mem_cons_of_mem _ (List.mem_cons_self ..)))
  have mi_q4 : q4 ∈ [q2, q3, q4] ∨ h0.size ≤ q4 := (Or.inl (List.mem_cons_of_mem _ (List.mem_cons_of_mem _ (List.mem_cons_self ..))))
  have K0 := Keep.refl h0 [q2, q3, q4]
  refine gb s₁ (mkF m 1 #[SA q5, SA q2, SA q6] [(.ref q5)]) (fun _ k => XS.aloadN X0.here hx rfl (hb hby d9_0) rfl rfl k) ?_
  obtain ⟨T1229, X1229, e1229, st1229⟩ := initO X0 hx hZ hown (ww hw 75 rfl) (ww hw 16 rfl) (ww hw 17 rfl) e0 (g := (mkF m 1 #[SA q5, SA q2, SA q6] [(.ref q5)])) rfl (by rw [hml]; rfl) rfl (hb hby d9_1) (by decide) (W := 0) (by show 2 * 0 + _ ≤ _; exact Nat.le_of_eq rfl) (by decide)
  refine gb T1229 (mkF m 4 #[SA q5, SA q2, SA q6] []) st1229 ?_
  refine gb T1229 (mkF m 6 #[SA q5, SA q2, SA q6] [(.ref q6), (.ref q2)]) (fun _ k => XS.aloadN X1229.here hx rfl (hb hby d9_4) rfl rfl (XS.aloadN X1229.here hx rfl (hb hby d9_5) rfl rfl k)) ?_
  refine own_c1 (callV X1229 hx hZ (y := mn38) hown (ww hw 76 rfl) (ww hw 77 rfl) (ww hw 79 rfl) (ww hw 78 rfl) (ww hw 80 rfl) (ww hw 58 rfl) (by decide) e1229 u39 (argsL := []) (rest := [(.ref q2)]) (W := 1) (au9_start l Z a0 hw q6 (0 : UInt64) h0 n0 Z0 u40) rfl (by decide) (by decide) (by decide) (by decide) rfl (by rw [hml]; rfl) (lenOf pd1 rfl) rfl (by show 2 * 0 + _ ≤ _; exact Nat.le_of_eq rfl) (hb hby d9_6)) fun v1231 T1231 L1231 X1231 hQ1231 => ?_
  obtain ⟨rfl, NL1231, hk1231⟩ := hQ1231
  have N0 := Fr.app N0 NL1231
  obtain ⟨T1232, h1232, X1232, e1232, E1232, A1232, D1232, -, st1232⟩ := newO X1231 hx hZ hown (ww hw 81 rfl) (ww hw 82 rfl) (ww hw 83 rfl) hk1231 (g := (mkF m 9 #[SA q5, SA q2, SA q6] [(.double (0 : UInt64)), (.ref q2)])) rfl (hb hby d9_9) (by decide) (by decide)
  obtain ⟨o9_1, g1232⟩ : ∃ z, z = h0.size := ⟨_, rfl⟩
  rw [← g1232] at A1232 D1232 st1232
  have ne_q2_o9_1 : q2 ≠ o9_1 := own_nb u25.lt g1232
  have ne_q3_o9_1 : q3 ≠ o9_1 := own_nb u30.lt g1232
  have ne_q4_o9_1 : q4 ≠ o9_1 := own_nb u34.lt g1232
  have ne_q6_o9_1 : q6 ≠ o9_1 := own_nb u39.lt g1232
  have ge_o9_1 : n0 ≤ o9_1 := Nat.le_trans Z0 (Nat.le_of_eq g1232.symm)
  have sz_o9_1 : h0.size ≤ o9_1 := Nat.le_trans K0.1 (Nat.le_of_eq g1232.symm)
  have u25 := u25.ext E1232
  have u26 := u26.ext E1232
  have u27 := u27.ext E1232
  have u28 := u28.ext E1232
  have u29 := u29.ext E1232
  have u30 := u30.ext E1232
  have u31 := u31.ext E1232
  have u32 := u32.ext E1232
  have u33 := u33.ext E1232
  have u34 := u34.ext E1232
  have u35 := u35.ext E1232
  have u39 := u39.ext E1232
  have u41 := u41.ext E1232
  have Z0 := Nat.le_trans Z0 E1232.1
  have K0 := K0.ext E1232
  have E_o9_1 := A1232
  have f1233 : Fld Z h1232 o9_1 sn3 "this$0" sn6 .null := D1232 (Or.inr (ww hw 88 rfl)) (ty := (.object sn12)) (by decide)
  have f1234 : Fld Z h1232 o9_1 sn1 "place" "J" (.long (0 : Int64)) := D1232 (Or.inl (ww hw 97 rfl)) (ty := .long) (by decide)
  have f1235 : Fld Z h1232 o9_1 sn3 "insideAfter" "J" (.long (0 : Int64)) := D1232 (Or.inr (ww hw 99 rfl)) (ty := .long) (by decide)
  have f1236 : Fld Z h1232 o9_1 sn1 "time" "D" (.double (0 : UInt64)) := D1232 (Or.inl (ww hw 118 rfl)) (ty := .double) (by decide)
  have f1237 : Fld Z h1232 o9_1 sn1 "sequence" "J" (.long (0 : Int64)) := D1232 (Or.inl (ww hw 122 rfl)) (ty := .long) (by decide)
  refine gb T1232 (mkF m 12 #[SA q5, SA q2, SA q6] [(.ref o9_1), (.double (0 : UInt64)), (.ref q2)]) st1232 ?_
  refine gb T1232 (mkF m 15 #[SA q5, SA q2, SA q6] [(.long (1 : Int64)), (.ref q5), (.ref o9_1), (.ref o9_1), (.double (0 : UInt64)), (.ref q2)]) (fun _ k => XS.dup X1232.here hx rfl (hb hby d9_12) rfl rfl (XS.aloadN X1232.here hx rfl (hb hby d9_13) rfl rfl (XS.lconst X1232.here hx rfl (hb hby d9_14)  k))) ?_
  refine own_c1 (callIR X1232 hx hZ (y := mn29) rfl hown (ww hw 84 rfl) (ww hw 85 rfl) (ww hw 86 rfl) (ww hw 83 rfl) (by decide) e1232 (a := o9_1) (argsL := [(.ref q5), (.long (1 : Int64))]) (rest := [(.ref o9_1), (.double (0 : UInt64)), (.ref q2)]) (W := 4) (au11_init l Z a0 hw o9_1 q5 (1 : Int64) (0 : Int64) (0 : Int64) (0 : Int64) (0 : UInt64) h1232 n0 Z0 E_o9_1 f1233 f1234 f1235 f1236 f1237 ge_o9_1) rfl (by decide) (by decide) (by decide) (by decide) rfl (by rw [hml]; rfl) (lenOf pd9 rfl) rfl (by show 2 * 0 + _ ≤ _; exact Nat.le_of_eq rfl) (hb hby d9_15)) fun v1243 T1243 L1243 X1243 hQ1243 => ?_
  obtain ⟨rfl, NL1243, K1243, f1238, f1239, f1240, f1241, f1242⟩ := hQ1243
  have N0 := Fr.app N0 NL1243
  have e1243 : T1243.heap = T1243.heap := rfl
  have u25 := u25.keep K1243
  have u26 := u26.keep K1243 (ninS ne_q2_o9_1 nin0)
  have u27 := u27.keep K1243 (ninS ne_q2_o9_1 nin0)
  have u28 := u28.keep K1243 (ninS ne_q2_o9_1 nin0)
  have u29 := u29.keep K1243 (ninS ne_q2_o9_1 nin0)
  have u30 := u30.keep K1243
  have u31 := u31.keep K1243 (ninS ne_q3_o9_1 nin0)
  have u32 := u32.keep K1243 (ninS ne_q3_o9_1 nin0)
  have u33 := u33.keep K1243 (ninS ne_q3_o9_1 nin0)
  have u34 := u34.keep K1243
  have u35 := u35.keep K1243 (ninS ne_q4_o9_1 nin0)
  have u39 := u39.keep K1243
  have u41 := u41.keep K1243 (ninS ne_q6_o9_1 nin0)
  have E_o9_1 := E_o9_1.keep K1243
  have Z0 := Nat.le_trans Z0 K1243.1
  have K0 := K0.trans K1243 (allS (Or.inr sz_o9_1) all0)
  refine own_c1 (callV X1243 hx hZ (y := mn20) hown (ww hw 100 rfl) (ww hw 101 rfl) (ww hw 103 rfl) (ww hw 102 rfl) (ww hw 104 rfl) (ww hw 28 rfl) (by decide) e1243 u25 (argsL := [(.double (0 : UInt64)), (.ref o9_1)]) (rest := []) (W := 0) (au17_scheduleAt l Z a0 hw q2 o9_1 q1 q3 q4 q5 y_29 (1 : Int64) (0 : Int64) y_33 (0 : UInt64) T1243.heap n0 Z0 u25 u26 u27 u28 u29 u30 u31 u32 u33 u34 u35 E_o9_1 f1238 f1239 f1240 f1241 f1242 ne_q2_o9_1 ne_q2_q3 ne_q2_q4 ne_q3_o9_1 ne_q3_q4 ne_q4_o9_1 ge_q2 ge_q3 ge_q4 ge_o9_1) rfl (by decide) (by decide) (by decide) (by decide) rfl (by rw [hml]; rfl) (lenOf pd13 rfl) rfl (by show 2 * 0 + _ ≤ _; exact Nat.le_of_eq rfl) (hb hby d9_18)) fun v1258 T1258 L1258 X1258 hQ1258 => ?_
  obtain ⟨rfl, NL1258, K1258, f1244, f1245, f1246, f1247, f1248, f1249, f1250, f1251, f1252, f1253, f1254, f1255, f1256⟩ := hQ1258
  have N0 := Fr.app N0 NL1258
  have e1258 : T1258.heap = T1258.heap := rfl
  have u25 := u25.keep K1258
  have u30 := u30.keep K1258
  have u34 := u34.keep K1258
  have u39 := u39.keep K1258
  have nin_q6 := (ninS (Ne.symm ne_q2_q6) (ninS (Ne.symm ne_q3_q6) (ninS (Ne.symm ne_q4_q6) (ninS ne_q6_o9_1 nin0))))
  have u41 := u41.keep K1258 nin_q6
  have E_o9_1 := E_o9_1.keep K1258
  have Z0 := Nat.le_trans Z0 K1258.1
  have K0 := K0.trans K1258 (allS mi_q2 (allS mi_q3 (allS mi_q4 (allS (Or.inr sz_o9_1) all0))))
  refine gb T1258 (mkF m 23 #[SA q5, SA q2, SA q6] [(.ref q6), (.ref q2)]) (fun _ k => XS.aloadN X1258.here hx rfl (hb hby d9_21) rfl rfl (XS.aloadN X1258.here hx rfl (hb hby d9_22) rfl rfl k)) ?_
  refine own_c1 (callV X1258 hx hZ (y := mn10) hown (ww hw 140 rfl) (ww hw 141 rfl) (ww hw 143 rfl) (ww hw 142 rfl) (ww hw 144 rfl) (ww hw 58 rfl) (by decide) e1258 u39 (argsL := []) (rest := [(.ref q2)]) (W := 1) (au1_end l Z a0 hw q6 (4607182418800017408 : UInt64) T1258.heap n0 Z0 u41) rfl (by decide) (by decide) (by decide) (by decide) rfl (by rw [hml]; rfl) (lenOf pd1 rfl) rfl (by show 2 * 0 + _ ≤ _; exact Nat.le_of_eq rfl) (hb hby d9_23)) fun v1260 T1260 L1260 X1260 hQ1260 => ?_
  obtain ⟨rfl, NL1260, hk1260⟩ := hQ1260
  have N0 := Fr.app N0 NL1260
  refine own_c1 (callC X1260 hx hZ (y := (⟨"java/lang/Math", "nextUp", "(D)D"⟩ : MethodName)) hown (ww hw 145 rfl) (ww hw 146 rfl) (ww hw 148 rfl) (ww hw 147 rfl) (by decide) hk1260 (argsL := [(.double (4607182418800017408 : UInt64))]) (rest := [(.ref q2)]) (W := 1) (au18_nextUp l Z a0 hw  T1258.heap n0 Z0 ) rfl (by decide) (by decide) (by decide) (by decide) rfl (by rw [hml]; rfl) (lenOf pd14 rfl) rfl (by show 2 * 0 + _ ≤ _; exact Nat.le_of_eq rfl) (hb hby d9_26)) fun v1261 T1261 L1261 X1261 hQ1261 => ?_
  obtain ⟨rfl, NL1261, hk1261⟩ := hQ1261
  have N0 := Fr.app N0 NL1261
  obtain ⟨T1262, h1262, X1262, e1262, E1262, A1262, D1262, -, st1262⟩ := newO X1261 hx hZ hown (ww hw 81 rfl) (ww hw 82 rfl) (ww hw 83 rfl) hk1261 (g := (mkF m 29 #[SA q5, SA q2, SA q6] [(.double (4607182418800017409 : UInt64)), (.ref q2)])) rfl (hb hby d9_29) (by decide) (by decide)
  obtain ⟨o9_2, g1262⟩ : ∃ z, z = T1258.heap.size := ⟨_, rfl⟩
  rw [← g1262] at A1262 D1262 st1262
  have ne_q2_o9_2 : q2 ≠ o9_2 := own_nb u25.lt g1262
  have ne_q3_o9_2 : q3 ≠ o9_2 := own_nb u30.lt g1262
  have ne_q4_o9_2 : q4 ≠ o9_2 := own_nb u34.lt g1262
  have ne_o9_1_o9_2 : o9_1 ≠ o9_2 := own_nb E_o9_1.lt g1262
  have ge_o9_2 : n0 ≤ o9_2 := Nat.le_trans Z0 (Nat.le_of_eq g1262.symm)
  have sz_o9_2 : h0.size ≤ o9_2 := Nat.le_trans K0.1 (Nat.le_of_eq g1262.symm)
  have u25 := u25.ext E1262
  have u30 := u30.ext E1262
  have u34 := u34.ext E1262
  have E_o9_1 := E_o9_1.ext E1262
  have f1244 := f1244.ext E1262
  have f1245 := f1245.ext E1262
  have f1246 := f1246.ext E1262
  have f1247 := f1247.ext E1262
  have f1248 := f1248.ext E1262
  have f1249 := f1249.ext E1262
  have f1250 := f1250.ext E1262
  have f1251 := f1251.ext E1262
  have f1252 := f1252.ext E1262
  have f1253 := f1253.ext E1262
  have f1254 := f1254.ext E1262
  have f1255 := f1255.ext E1262
  have f1256 := f1256.ext E1262
  have Z0 := Nat.le_trans Z0 E1262.1
  have K0 := K0.ext E1262
  have E_o9_2 := A1262
  have f1263 : Fld Z h1262 o9_2 sn3 "this$0" sn6 .null := D1262 (Or.inr (ww hw 88 rfl)) (ty := (.object sn12)) (by decide)
  have f1264 : Fld Z h1262 o9_2 sn1 "place" "J" (.long (0 : Int64)) := D1262 (Or.inl (ww hw 97 rfl)) (ty := .long) (by decide)
  have f1265 : Fld Z h1262 o9_2 sn3 "insideAfter" "J" (.long (0 : Int64)) := D1262 (Or.inr (ww hw 99 rfl)) (ty := .long) (by decide)
  have f1266 : Fld Z h1262 o9_2 sn1 "time" "D" (.double (0 : UInt64)) := D1262 (Or.inl (ww hw 118 rfl)) (ty := .double) (by decide)
  have f1267 : Fld Z h1262 o9_2 sn1 "sequence" "J" (.long (0 : Int64)) := D1262 (Or.inl (ww hw 122 rfl)) (ty := .long) (by decide)
  refine gb T1262 (mkF m 32 #[SA q5, SA q2, SA q6] [(.ref o9_2), (.double (4607182418800017409 : UInt64)), (.ref q2)]) st1262 ?_
  refine gb T1262 (mkF m 35 #[SA q5, SA q2, SA q6] [(.long (0 : Int64)), (.ref q5), (.ref o9_2), (.ref o9_2), (.double (4607182418800017409 : UInt64)), (.ref q2)]) (fun _ k => XS.dup X1262.here hx rfl (hb hby d9_32) rfl rfl (XS.aloadN X1262.here hx rfl (hb hby d9_33) rfl rfl (XS.lconst X1262.here hx rfl (hb hby d9_34)  k))) ?_
  refine own_c1 (callIR X1262 hx hZ (y := mn29) rfl hown (ww hw 84 rfl) (ww hw 85 rfl) (ww hw 86 rfl) (ww hw 83 rfl) (by decide) e1262 (a := o9_2) (argsL := [(.ref q5), (.long (0 : Int64))]) (rest := [(.ref o9_2), (.double (4607182418800017409 : UInt64)), (.ref q2)]) (W := 4) (au11_init l Z a0 hw o9_2 q5 (0 : Int64) (0 : Int64) (0 : Int64) (0 : Int64) (0 : UInt64) h1262 n0 Z0 E_o9_2 f1263 f1264 f1265 f1266 f1267 ge_o9_2) rfl (by decide) (by decide) (by decide) (by decide) rfl (by rw [hml]; rfl) (lenOf pd9 rfl) rfl (by show 2 * 0 + _ ≤ _; exact Nat.le_of_eq rfl) (hb hby d9_35)) fun v1273 T1273 L1273 X1273 hQ1273 => ?_
  obtain ⟨rfl, NL1273, K1273, f1268, f1269, f1270, f1271, f1272⟩ := hQ1273
  have N0 := Fr.app N0 NL1273
  have e1273 : T1273.heap = T1273.heap := rfl
  have u25 := u25.keep K1273
  have u30 := u30.keep K1273
  have u34 := u34.keep K1273
  have E_o9_1 := E_o9_1.keep K1273
  have f1244 := f1244.keep K1273 (ninS ne_q2_o9_2 nin0)
  have f1245 := f1245.keep K1273 (ninS ne_q2_o9_2 nin0)
  have f1246 := f1246.keep K1273 (ninS ne_q2_o9_2 nin0)
  have f1247 := f1247.keep K1273 (ninS ne_q2_o9_2 nin0)
  have f1248 := f1248.keep K1273 (ninS ne_q3_o9_2 nin0)
  have f1249 := f1249.keep K1273 (ninS ne_q3_o9_2 nin0)
  have f1250 := f1250.keep K1273 (ninS ne_q3_o9_2 nin0)
  have f1251 := f1251.keep K1273 (ninS ne_q4_o9_2 nin0)
  have f1252 := f1252.keep K1273 (ninS ne_o9_1_o9_2 nin0)
  have f1253 := f1253.keep K1273 (ninS ne_o9_1_o9_2 nin0)
  have f1254 := f1254.keep K1273 (ninS ne_o9_1_o9_2 nin0)
  have f1255 := f1255.keep K1273 (ninS ne_o9_1_o9_2 nin0)
  have f1256 := f1256.keep K1273 (ninS ne_o9_1_o9_2 nin0)
  have E_o9_2 := E_o9_2.keep K1273
  have Z0 := Nat.le_trans Z0 K1273.1
  have K0 := K0.trans K1273 (allS (Or.inr sz_o9_2) all0)
  refine own_c1 (callV X1273 hx hZ (y := mn20) hown (ww hw 100 rfl) (ww hw 101 rfl) (ww hw 103 rfl) (ww hw 102 rfl) (ww hw 104 rfl) (ww hw 28 rfl) (by decide) e1273 u25 (argsL := [(.double (4607182418800017409 : UInt64)), (.ref o9_2)]) (rest := []) (W := 0) (au24_scheduleAt l Z a0 hw q2 o9_2 q3 q4 q1 o9_1 q5 (y_29 + (1 : Int64)) (0 : Int64) (0 : Int64) y_33 (0 : UInt64) T1273.heap n0 Z0 u25 u30 u34 f1244 f1245 f1246 f1247 f1248 f1249 f1250 f1251 f1255 E_o9_2 f1268 f1269 f1270 f1271 f1272 ne_o9_1_o9_2 ne_q2_o9_1 ne_q2_o9_2 ne_q2_q3 ne_q2_q4 ne_q3_o9_1 ne_q3_o9_2 ne_q3_q4 ne_q4_o9_2 ge_q2 ge_q3 ge_q4 ge_o9_2) rfl (by decide) (by decide) (by decide) (by decide) rfl (by rw [hml]; rfl) (lenOf pd13 rfl) rfl (by show 2 * 0 + _ ≤ _; exact Nat.le_of_eq rfl) (hb hby d9_38)) fun v1288 T1288 L1288 X1288 hQ1288 => ?_
  obtain ⟨rfl, NL1288, K1288, f1274, f1275, f1276, f1277, f1278, f1279, f1280, f1281, f1282, f1283, f1284, f1285, f1286⟩ := hQ1288
  have N0 := Fr.app N0 NL1288
  have e1288 : T1288.heap = T1288.heap := rfl
  have E_o9_1 := E_o9_1.keep K1288
  have nin_o9_1 := (ninS (Ne.symm ne_q2_o9_1) (ninS (Ne.symm ne_q3_o9_1) (ninS (Ne.symm ne_q4_o9_1) (ninS ne_o9_1_o9_2 nin0))))
  have f1252 := f1252.keep K1288 nin_o9_1
  have f1253 := f1253.keep K1288 nin_o9_1
  have f1254 := f1254.keep K1288 nin_o9_1
  have f1255 := f1255.keep K1288 nin_o9_1
  have f1256 := f1256.keep K1288 nin_o9_1
  have E_o9_2 := E_o9_2.keep K1288
  have Z0 := Nat.le_trans Z0 K1288.1
  have K0 := K0.trans K1288 (allS mi_q2 (allS mi_q3 (allS mi_q4 (allS (Or.inr sz_o9_2) all0))))
  exact outV X1288 hx hlk hret (hb hby d9_41) (by rw [e1288]; exact ⟨o9_1, o9_2, rfl, N0, K0, sz_o9_1, sz_o9_2, ne_o9_1_o9_2, E_o9_1, f1252, f1253, f1254, f1255, f1256, E_o9_2, f1274, f1275, f1276, f1277, f1278, f1279, f1280, f1281, f1282, f1283, f1284, f1285, f1286⟩) (by decide) (by decide)
theorem d23_0 : decode prog_37_method_1_code 0 = .ok (.getstatic 16, 3) := by decide +kernel
theorem d23_3 : decode prog_37_method_1_code 3 = .ok (.invokevirtual 20, 3) := by decide +kernel
theorem d23_6 : decode prog_37_method_1_code 6 = .ok (.checkcast 21, 3) := by decide +kernel
theorem d23_9 : decode prog_37_method_1_code 9 = .ok (.areturn, 1) := by decide +kernel
theorem ef_au26_values (m : MethodId)  : entryFrame m #[] 0 = mkF m 0 #[] [] := by first | (simp [entryFrame, mkF, argsToLocals, Value.category, maxLocals]; done) | rfl
set_option maxRecDepth 65536 in
set_option maxHeartbeats 40000000 in
theorem au26_values (l : Launch) (Z : State) (a0 : Array Value) (hw : ∀ d ∈ tables_1, d.before a0 Z = true) (vals fD fE fL fR : Addr) (Hs : Heap) (h0 : Heap) (n0 : Nat) (Z0 : n0 ≤ h0.size) (u5 : Sta Z Hs sn8 "$VALUES" sn28 (.ref vals)) (u13 : Exa Z Hs vals sn28) (u20 : Sar Z Hs vals (.object sn8) [(.ref fD), (.ref fE), (.ref fL), (.ref fR)]) (qH : Hs.size ≤ n0) (B0 : Ext Hs h0) :
    Does l mn42 prog_37_method_1_code 0 (some (.array (.object sn8))) [] ({ frames := 1, cells := 1, slots := 4, locals := 14 } : Room) Z #[] h0 (fun v h L => ∃ (o23_1 : Addr), v = some (.ref o23_1) ∧ Fr n0 L ∧ Keep h0 h [] ∧ h0.size ≤ o23_1 ∧ Sar Z h o23_1 (.object sn8) [(.ref fD), (.ref fE), (.ref fL), (.ref fR)] ∧ Exa Z h o23_1 sn28) := by
  refine Does.of (plainFor_of_name pn9) ?_
  intro p e s m below meth c s₁ hx hby hml hret hlk hZ hown hnm X0 e0
  have N0 := Fr.nil n0
  refine Goes.cast (g' := mkF m 0 #[] []) (ef_au26_values m ) ?_
  have K0 := Keep.refl h0 []
  refine own_g1 (getS X0 hx hZ (host := "") hown (ww hw 174 rfl) Via.refl e0 (u5.ext B0) rfl (hb hby d23_0)) fun T1341 X1341 e1341 => ?_
  obtain ⟨T1342, h1342, X1342, e1342, E1342, A1342, B1342, st1342⟩ := cloneS X1341 hx hZ hown (ww hw 176 rfl) (ww hw 177 rfl) (ww hw 181 rfl) (ww hw 179 rfl) (ww hw 180 rfl) (ww hw 182 rfl) e1341 (u20.ext B0) (u13.ext B0) (by intro v hv; simp only [List.mem_cons, List.not_mem_nil, or_false] at hv; rcases hv with rfl | rfl | rfl | rfl <;> rfl) (g := (mkF m 3 #[] [(.ref vals)])) rfl (by rw [hml]; rfl) rfl (hb hby d23_3) (by decide) (W := 0) (by show 2 * 0 + _ ≤ _; exact Nat.le_of_eq rfl) (by decide) (by decide) (n := 4) rfl (by decide)
  obtain ⟨o23_1, g1342⟩ : ∃ z, z = h0.size := ⟨_, rfl⟩
  rw [← g1342] at A1342 B1342 st1342
  have ge_o23_1 : n0 ≤ o23_1 := Nat.le_trans Z0 (Nat.le_of_eq g1342.symm)
  have sz_o23_1 : h0.size ≤ o23_1 := Nat.le_trans K0.1 (Nat.le_of_eq g1342.symm)
  have B0 := own_extT B0 E1342
  have Z0 := Nat.le_trans Z0 E1342.1
  have K0 := K0.ext E1342
  have V_o23_1 := A1342
  have E_o23_1 := B1342
  refine gb T1342 (mkF m 6 #[] [(.ref o23_1)]) st1342 ?_
  obtain ⟨T1343, X1343, e1343, st1343⟩ := castY X1342 hx hZ hown (ww hw 187 rfl) e1342 (Ins.of_exa E_o23_1 (ww hw 188 rfl)) (g := (mkF m 6 #[] [(.ref o23_1)])) rfl rfl (hb hby d23_6)
  refine gb T1343 (mkF m 9 #[] [(.ref o23_1)]) st1343 ?_
  exact outA X1343 hx hlk hret rfl rfl rfl (hb hby d23_9) (by rw [e1343]; exact ⟨o23_1, rfl, N0, K0, sz_o23_1, V_o23_1, E_o23_1⟩) (by decide) (by decide)
theorem d24_0 : decode prog_54_method_1_code 0 = .ok (.aload_n 0, 1) := by decide +kernel
theorem d24_1 : decode prog_54_method_1_code 1 = .ok (.invokespecial 3, 3) := by decide +kernel
theorem d24_4 : decode prog_54_method_1_code 4 = .ok (.aload_n 0, 1) := by decide +kernel
theorem d24_5 : decode prog_54_method_1_code 5 = .ok (.sipush 2048, 3) := by decide +kernel
theorem d24_8 : decode prog_54_method_1_code 8 = .ok (.anewarray 9, 3) := by decide +kernel
theorem d24_11 : decode prog_54_method_1_code 11 = .ok (.putfield 11, 3) := by decide +kernel
theorem d24_14 : decode prog_54_method_1_code 14 = .ok (.return_, 1) := by decide +kernel
set_option maxRecDepth 65536 in
set_option maxHeartbeats 40000000 in
theorem au27_init (l : Launch) (Z : State) (a0 : Array Value) (hw : ∀ d ∈ tables_1, d.before a0 Z = true) (o22_3 : Addr) (y_76 y_77 : Int64) (h0 : Heap) (n0 : Nat) (Z0 : n0 ≤ h0.size) (u74 : Exa Z h0 o22_3 sn11) (u75 : Fld Z h0 o22_3 sn11 "binades" "[[J" .null) (u76 : Fld Z h0 o22_3 sn11 "count" "J" (.long y_76)) (u77 : Fld Z h0 o22_3 sn11 "zeros" "J" (.long y_77)) (ge_o22_3 : n0 ≤ o22_3) :
    Does l mn43 prog_54_method_1_code 1 none [] ({ frames := 1, cells := 1, slots := 2048, locals := 12 } : Room) Z #[(.ref o22_3)] h0 (fun v h L => v = none ∧ Fr n0 L ∧ Keep h0 h [o22_3] ∧ Fld Z h o22_3 sn11 "count" "J" (.long y_76) ∧ Fld Z h o22_3 sn11 "zeros" "J" (.long y_77)) := by
  refine Does.of (plainFor_of_name pn10) ?_
  intro p e s m below meth c s₁ hx hby hml hret hlk hZ hown hnm X0 e0
  have N0 := Fr.nil n0
  refine Goes.cast (g' := mkF m 0 #[SA o22_3] []) (ef_au0_now m o22_3) ?_
  have mi_o22_3 : o22_3 ∈ [o22_3] ∨ h0.size ≤ o22_3 := (Or.inl (List.mem_cons_self ..))
  have K0 := Keep.refl h0 [o22_3]
  refine gb s₁ (mkF m 1 #[SA o22_3] [(.ref o22_3)]) (fun _ k => XS.aloadN X0.here hx rfl (hb hby d24_0) rfl rfl k) ?_
  obtain ⟨T1362, X1362, e1362, st1362⟩ := initO X0 hx hZ hown (ww hw 198 rfl) (ww hw 16 rfl) (ww hw 17 rfl) e0 (g := (mkF m 1 #[SA o22_3] [(.ref o22_3)])) rfl (by rw [hml]; rfl) rfl (hb hby d24_1) (by decide) (W := 0) (by show 2 * 0 + _ ≤ _; exact Nat.le_of_eq rfl) (by decide)
  refine gb T1362 (mkF m 4 #[SA o22_3] []) st1362 ?_
  refine gb T1362 (mkF m 8 #[SA o22_3] [(.int (2048 : Int32)), (.ref o22_3)]) (fun _ k => XS.aloadN X1362.here hx rfl (hb hby d24_4) rfl rfl (XS.sipush X1362.here hx rfl (hb hby d24_5)  k)) ?_
  obtain ⟨T1363, h1363, k1363, X1363, e1363, E1363, A1363, -, -, st1363⟩ := newRA X1362 hx hZ hown (ty := .long) rfl (ww hw 199 rfl) (ww hw 200 rfl) e1362 (g := (mkF m 8 #[SA o22_3] [(.int (2048 : Int32)), (.ref o22_3)])) rfl (hb hby d24_8) rfl (by decide) (cap := 2048) (by decide) (by decide) (by decide) (by decide) (ad := "[[J") rfl
  obtain ⟨o24_1, g1363⟩ : ∃ z, z = h0.size := ⟨_, rfl⟩
  rw [← g1363] at A1363 st1363
  have ge_o24_1 : n0 ≤ o24_1 := Nat.le_trans Z0 (Nat.le_of_eq g1363.symm)
  have sz_o24_1 : h0.size ≤ o24_1 := Nat.le_trans K0.1 (Nat.le_of_eq g1363.symm)
  have u74 := u74.ext E1363
  have u75 := u75.ext E1363
  have u76 := u76.ext E1363
  have u77 := u77.ext E1363
  have Z0 := Nat.le_trans Z0 E1363.1
  have K0 := K0.ext E1363
  refine gb T1363 (mkF m 11 #[SA o22_3] [(.ref o24_1), (.ref o22_3)]) st1363 ?_
  refine own_p1 (putF X1363 hx hZ hown (host := "") (Or.inl (ww hw 201 rfl)) Via.refl e1363 u75 u74 (Or.inr ⟨(ww hw 202 rfl), rfl, hnm⟩) (ww hw 193 rfl) (ty := (.array (.array .long))) (by decide) rfl rfl rfl rfl (hb hby d24_11)) fun T1364 h1364 X1364 e1364 W1364 => ?_
  have N0 := Fr.snoc X1364 N0 ge_o22_3
  have u76 := own_oth u76 W1364 (Or.inl (ww hw 451 rfl)) (Or.inr (ww hw 202 rfl)) (by decide)
  have u77 := own_oth u77 W1364 (Or.inl (ww hw 453 rfl)) (Or.inr (ww hw 202 rfl)) (by decide)
  have Z0 := own_zw Z0 W1364
  have K0 := K0.wr W1364 mi_o22_3
  exact outV X1364 hx hlk hret (hb hby d24_14) (by rw [e1364]; exact ⟨rfl, N0, K0, u76, u77⟩) (by decide) (by decide)
theorem d27_0 : decode jdk_22_method_1_code 0 = .ok (.aload_n 0, 1) := by decide +kernel
theorem d27_1 : decode jdk_22_method_1_code 1 = .ok (.invokespecial 1, 3) := by decide +kernel
theorem d27_4 : decode jdk_22_method_1_code 4 = .ok (.return_, 1) := by decide +kernel
set_option maxRecDepth 65536 in
set_option maxHeartbeats 40000000 in
theorem au28_init (l : Launch) (Z : State) (a0 : Array Value) (hw : ∀ d ∈ tables_1, d.before a0 Z = true) (o22_4 : Addr) (h0 : Heap) (n0 : Nat) (Z0 : n0 ≤ h0.size)  :
    Does l (⟨"java/util/AbstractCollection", "<init>", "()V"⟩ : MethodName) jdk_22_method_1_code 1 none [] ({ frames := 1, cells := 0, slots := 0, locals := 12 } : Room) Z #[(.ref o22_4)] h0 (fun v h L => v = none ∧ Fr n0 L ∧ h = h0) := by
  refine Does.of (plainFor_of_name pn11) ?_
  intro p e s m below meth c s₁ hx hby hml hret hlk hZ hown hnm X0 e0
  have N0 := Fr.nil n0
  refine Goes.cast (g' := mkF m 0 #[SA o22_4] []) (ef_au0_now m o22_4) ?_
  have K0 := Keep.refl h0 []
  refine gb s₁ (mkF m 1 #[SA o22_4] [(.ref o22_4)]) (fun _ k => XS.aloadN X0.here hx rfl (hb hby d27_0) rfl rfl k) ?_
  obtain ⟨T1376, X1376, e1376, st1376⟩ := initO X0 hx hZ hown (ww hw 223 rfl) (ww hw 16 rfl) (ww hw 17 rfl) e0 (g := (mkF m 1 #[SA o22_4] [(.ref o22_4)])) rfl (by rw [hml]; rfl) rfl (hb hby d27_1) (by decide) (W := 0) (by show 2 * 0 + _ ≤ _; exact Nat.le_of_eq rfl) (by decide)
  refine gb T1376 (mkF m 4 #[SA o22_4] []) st1376 ?_
  exact outV X1376 hx hlk hret (hb hby d27_4) (by rw [e1376]; exact ⟨rfl, N0, rfl⟩) (by decide) (by decide)
theorem d26_0 : decode jdk_39_method_1_code 0 = .ok (.aload_n 0, 1) := by decide +kernel
theorem d26_1 : decode jdk_39_method_1_code 1 = .ok (.invokespecial 1, 3) := by decide +kernel
theorem d26_4 : decode jdk_39_method_1_code 4 = .ok (.aload_n 0, 1) := by decide +kernel
theorem d26_5 : decode jdk_39_method_1_code 5 = .ok (.iconst 0, 1) := by decide +kernel
theorem d26_6 : decode jdk_39_method_1_code 6 = .ok (.putfield 7, 3) := by decide +kernel
theorem d26_9 : decode jdk_39_method_1_code 9 = .ok (.return_, 1) := by decide +kernel
set_option maxRecDepth 65536 in
set_option maxHeartbeats 40000000 in
theorem au29_init (l : Launch) (Z : State) (a0 : Array Value) (hw : ∀ d ∈ tables_1, d.before a0 Z = true) (o22_4 : Addr) (y_78 y_80 : Int32) (h0 : Heap) (n0 : Nat) (Z0 : n0 ≤ h0.size) (u77 : Exa Z h0 o22_4 sn9) (u78 : Fld Z h0 o22_4 sn23 "modCount" "I" (.int y_78)) (u79 : Fld Z h0 o22_4 sn9 "elementData" sn26 .null) (u80 : Fld Z h0 o22_4 sn9 "size" "I" (.int y_80)) (ge_o22_4 : n0 ≤ o22_4) :
    Does l (⟨sn23, "<init>", "()V"⟩ : MethodName) jdk_39_method_1_code 1 none [] ({ frames := 2, cells := 0, slots := 0, locals := 24 } : Room) Z #[(.ref o22_4)] h0 (fun v h L => v = none ∧ Fr n0 L ∧ Keep h0 h [o22_4] ∧ Fld Z h o22_4 sn23 "modCount" "I" (.int (0 : Int32)) ∧ Fld Z h o22_4 sn9 "elementData" sn26 .null ∧ Fld Z h o22_4 sn9 "size" "I" (.int y_80)) := by
  refine Does.of (plainFor_of_name pn12) ?_
  intro p e s m below meth c s₁ hx hby hml hret hlk hZ hown hnm X0 e0
  have N0 := Fr.nil n0
  refine Goes.cast (g' := mkF m 0 #[SA o22_4] []) (ef_au0_now m o22_4) ?_
  have mi_o22_4 : o22_4 ∈ [o22_4] ∨ h0.size ≤ o22_4 := (Or.inl (List.mem_cons_self ..))
  have K0 := Keep.refl h0 [o22_4]
  refine gb s₁ (mkF m 1 #[SA o22_4] [(.ref o22_4)]) (fun _ k => XS.aloadN X0.here hx rfl (hb hby d26_0) rfl rfl k) ?_
  refine own_c1 (callI X0 hx hZ (y := (⟨"java/util/AbstractCollection", "<init>", "()V"⟩ : MethodName)) rfl hown (ww hw 217 rfl) (ww hw 218 rfl) (ww hw 222 rfl) (ww hw 221 rfl) (by decide) e0 (a := o22_4) (argsL := []) (rest := []) (W := 0) (au28_init l Z a0 hw o22_4 h0 n0 Z0 ) rfl (by decide) (by decide) (by decide) (by decide) rfl (by rw [hml]; rfl) (lenOf pd7 rfl) rfl (by show 2 * 0 + _ ≤ _; exact Nat.le_of_eq rfl) (hb hby d26_1)) fun v1383 T1383 L1383 X1383 hQ1383 => ?_
  obtain ⟨rfl, NL1383, hk1383⟩ := hQ1383
  have N0 := Fr.app N0 NL1383
  refine gb T1383 (mkF m 6 #[SA o22_4] [(.int (0 : Int32)), (.ref o22_4)]) (fun _ k => XS.aloadN X1383.here hx rfl (hb hby d26_4) rfl rfl (XS.iconst X1383.here hx rfl (hb hby d26_5)  k)) ?_
  refine own_p1 (putF X1383 hx hZ hown (host := "") (Or.inl (ww hw 224 rfl)) Via.refl hk1383 u78 u77 (Or.inl (ww hw 225 rfl)) (ww hw 206 rfl) (ty := .int) (by decide) rfl rfl rfl rfl (hb hby d26_6)) fun T1384 h1384 X1384 e1384 W1384 => ?_
  have N0 := Fr.snoc X1384 N0 ge_o22_4
  have u78 := u78.same W1384
  have u79 := own_oth u79 W1384 (Or.inl (ww hw 228 rfl)) (Or.inl (ww hw 225 rfl)) (by decide)
  have u80 := own_oth u80 W1384 (Or.inl (ww hw 367 rfl)) (Or.inl (ww hw 225 rfl)) (by decide)
  have Z0 := own_zw Z0 W1384
  have K0 := K0.wr W1384 mi_o22_4
  exact outV X1384 hx hlk hret (hb hby d26_9) (by rw [e1384]; exact ⟨rfl, N0, K0, u78, u79, u80⟩) (by decide) (by decide)
theorem d25_0 : decode jdk_38_method_2_code 0 = .ok (.aload_n 0, 1) := by decide +kernel
theorem d25_1 : decode jdk_38_method_2_code 1 = .ok (.invokespecial 1, 3) := by decide +kernel
theorem d25_4 : decode jdk_38_method_2_code 4 = .ok (.aload_n 0, 1) := by decide +kernel
theorem d25_5 : decode jdk_38_method_2_code 5 = .ok (.getstatic 39, 3) := by decide +kernel
theorem d25_8 : decode jdk_38_method_2_code 8 = .ok (.putfield 9, 3) := by decide +kernel
theorem d25_11 : decode jdk_38_method_2_code 11 = .ok (.return_, 1) := by decide +kernel
set_option maxRecDepth 65536 in
set_option maxHeartbeats 40000000 in
theorem au30_init (l : Launch) (Z : State) (a0 : Array Value) (hw : ∀ d ∈ tables_1, d.before a0 Z = true) (o22_4 dc : Addr) (y_78 y_80 : Int32) (Hs : Heap) (h0 : Heap) (n0 : Nat) (Z0 : n0 ≤ h0.size) (u6 : Sta Z Hs sn9 "DEFAULTCAPACITY_EMPTY_ELEMENTDATA" sn26 (.ref dc)) (u77 : Exa Z h0 o22_4 sn9) (u78 : Fld Z h0 o22_4 sn23 "modCount" "I" (.int y_78)) (u79 : Fld Z h0 o22_4 sn9 "elementData" sn26 .null) (u80 : Fld Z h0 o22_4 sn9 "size" "I" (.int y_80)) (ge_o22_4 : n0 ≤ o22_4) (qH : Hs.size ≤ n0) (B0 : Ext Hs h0) :
    Does l (⟨sn9, "<init>", "()V"⟩ : MethodName) jdk_38_method_2_code 1 none [] ({ frames := 3, cells := 0, slots := 0, locals := 36 } : Room) Z #[(.ref o22_4)] h0 (fun v h L => v = none ∧ Fr n0 L ∧ Keep h0 h [o22_4] ∧ Fld Z h o22_4 sn23 "modCount" "I" (.int (0 : Int32)) ∧ Fld Z h o22_4 sn9 "size" "I" (.int y_80)) := by
  refine Does.of (plainFor_of_name pn13) ?_
  intro p e s m below meth c s₁ hx hby hml hret hlk hZ hown hnm X0 e0
  have N0 := Fr.nil n0
  refine Goes.cast (g' := mkF m 0 #[SA o22_4] []) (ef_au0_now m o22_4) ?_
  have mi_o22_4 : o22_4 ∈ [o22_4] ∨ h0.size ≤ o22_4 := (Or.inl (List.mem_cons_self ..))
  have K0 := Keep.refl h0 [o22_4]
  refine gb s₁ (mkF m 1 #[SA o22_4] [(.ref o22_4)]) (fun _ k => XS.aloadN X0.here hx rfl (hb hby d25_0) rfl rfl k) ?_
  refine own_c1 (callI X0 hx hZ (y := (⟨sn23, "<init>", "()V"⟩ : MethodName)) rfl hown (ww hw 211 rfl) (ww hw 212 rfl) (ww hw 216 rfl) (ww hw 215 rfl) (by decide) e0 (a := o22_4) (argsL := []) (rest := []) (W := 0) (au29_init l Z a0 hw o22_4 y_78 y_80 h0 n0 Z0 u77 u78 u79 u80 ge_o22_4) rfl (by decide) (by decide) (by decide) (by decide) rfl (by rw [hml]; rfl) (lenOf pd7 rfl) rfl (by show 2 * 0 + _ ≤ _; exact Nat.le_of_eq rfl) (hb hby d25_1)) fun v1406 T1406 L1406 X1406 hQ1406 => ?_
  obtain ⟨rfl, NL1406, K1406, f1403, f1404, f1405⟩ := hQ1406
  have N0 := Fr.app N0 NL1406
  have e1406 : T1406.heap = T1406.heap := rfl
  have B0 := own_extK B0 K1406 (allS (Nat.le_trans qH ge_o22_4) all0)
  have u77 := u77.keep K1406
  have Z0 := Nat.le_trans Z0 K1406.1
  have K0 := K0.trans K1406 (allS mi_o22_4 all0)
  refine gb T1406 (mkF m 5 #[SA o22_4] [(.ref o22_4)]) (fun _ k => XS.aloadN X1406.here hx rfl (hb hby d25_4) rfl rfl k) ?_
  refine own_g1 (getS X1406 hx hZ (host := "") hown (ww hw 226 rfl) Via.refl e1406 (u6.ext B0) rfl (hb hby d25_5)) fun T1407 X1407 e1407 => ?_
  refine own_p1 (putF X1407 hx hZ hown (host := "") (Or.inl (ww hw 227 rfl)) Via.refl e1407 f1404 u77 (Or.inl (ww hw 228 rfl)) (ww hw 206 rfl) (ty := (.array (.object "java/lang/Object"))) (by decide) rfl rfl rfl rfl (hb hby d25_8)) fun T1408 h1408 X1408 e1408 W1408 => ?_
  have N0 := Fr.snoc X1408 N0 ge_o22_4
  have B0 := own_extW B0 W1408 (Nat.le_trans qH ge_o22_4)
  have f1403 := own_oth f1403 W1408 (Or.inl (ww hw 225 rfl)) (Or.inl (ww hw 228 rfl)) (by decide)
  have f1405 := own_oth f1405 W1408 (Or.inl (ww hw 367 rfl)) (Or.inl (ww hw 228 rfl)) (by decide)
  have Z0 := own_zw Z0 W1408
  have K0 := K0.wr W1408 mi_o22_4
  exact outV X1408 hx hlk hret (hb hby d25_11) (by rw [e1408]; exact ⟨rfl, N0, K0, f1403, f1405⟩) (by decide) (by decide)
theorem d28_0 : decode prog_33_method_5_code 0 = .ok (.aload_n 0, 1) := by decide +kernel
theorem d28_1 : decode prog_33_method_5_code 1 = .ok (.getfield 62, 3) := by decide +kernel
theorem d28_4 : decode prog_33_method_5_code 4 = .ok (.areturn, 1) := by decide +kernel
set_option maxRecDepth 65536 in
set_option maxHeartbeats 40000000 in
theorem au31_within (l : Launch) (Z : State) (a0 : Array Value) (hw : ∀ d ∈ tables_1, d.before a0 Z = true) (nn li : Addr) (Hs : Heap) (h0 : Heap) (n0 : Nat) (Z0 : n0 ≤ h0.size) (u18 : Fld Z Hs nn sn27 "within" sn17 (.ref li)) (qH : Hs.size ≤ n0) (B0 : Ext Hs h0) :
    Does l mn44 prog_33_method_5_code 1 (some (.object "java/util/List")) [] ({ frames := 0, cells := 0, slots := 0, locals := 0 } : Room) Z #[(.ref nn)] h0 (fun v h L => v = some (.ref li) ∧ Fr n0 L ∧ h = h0) := by
  refine Does.of (plainFor_of_name pn14) ?_
  intro p e s m below meth c s₁ hx hby hml hret hlk hZ hown hnm X0 e0
  have N0 := Fr.nil n0
  refine Goes.cast (g' := mkF m 0 #[SA nn] []) (ef_au0_now m nn) ?_
  have K0 := Keep.refl h0 []
  refine gb s₁ (mkF m 1 #[SA nn] [(.ref nn)]) (fun _ k => XS.aloadN X0.here hx rfl (hb hby d28_0) rfl rfl k) ?_
  refine own_g1 (getF X0 hx hZ hown (host := "") (Or.inl (ww hw 244 rfl)) Via.refl e0 (u18.ext B0) rfl rfl (hb hby d28_1)) fun T1420 X1420 e1420 => ?_
  exact outA X1420 hx hlk hret rfl rfl rfl (hb hby d28_4) (by rw [e1420]; exact ⟨rfl, N0, rfl⟩) (by decide) (by decide)
theorem d29_0 : decode jdk_45_method_3_code 0 = .ok (.aload_n 0, 1) := by decide +kernel
theorem d29_1 : decode jdk_45_method_3_code 1 = .ok (.getfield 7, 3) := by decide +kernel
theorem d29_4 : decode jdk_45_method_3_code 4 = .ok (.arraylength, 1) := by decide +kernel
theorem d29_5 : decode jdk_45_method_3_code 5 = .ok (.ireturn, 1) := by decide +kernel
set_option maxRecDepth 65536 in
set_option maxHeartbeats 40000000 in
theorem au32_size (l : Launch) (Z : State) (a0 : Array Value) (hw : ∀ d ∈ tables_1, d.before a0 Z = true) (li els : Addr) (Hs : Heap) (h0 : Heap) (n0 : Nat) (Z0 : n0 ≤ h0.size) (u19 : Fld Z Hs li sn29 "elements" sn26 (.ref els)) (u21 : Sar Z Hs els (.object "java/lang/Object") []) (qH : Hs.size ≤ n0) (B0 : Ext Hs h0) :
    Does l (⟨sn29, "size", "()I"⟩ : MethodName) jdk_45_method_3_code 1 (some .int) [] ({ frames := 0, cells := 0, slots := 0, locals := 0 } : Room) Z #[(.ref li)] h0 (fun v h L => v = some (.int (0 : Int32)) ∧ Fr n0 L ∧ h = h0) := by
  refine Does.of (plainFor_of_name pn15) ?_
  intro p e s m below meth c s₁ hx hby hml hret hlk hZ hown hnm X0 e0
  have N0 := Fr.nil n0
  refine Goes.cast (g' := mkF m 0 #[SA li] []) (ef_au0_now m li) ?_
  have K0 := Keep.refl h0 []
  refine gb s₁ (mkF m 1 #[SA li] [(.ref li)]) (fun _ k => XS.aloadN X0.here hx rfl (hb hby d29_0) rfl rfl k) ?_
  refine own_g1 (getF X0 hx hZ hown (host := "") (Or.inl (ww hw 256 rfl)) Via.refl e0 (u19.ext B0) rfl rfl (hb hby d29_1)) fun T1426 X1426 e1426 => ?_
  refine gb T1426 (mkF m 5 #[SA li] [(.int (0 : Int32))]) (lenS X1426 hx hZ e1426 (u21.ext B0) (n := (0 : Int32)) rfl (g := (mkF m 4 #[SA li] [(.ref els)])) rfl rfl (hb hby d29_4)) ?_
  exact outI X1426 hx hlk hret (hb hby d29_5) (by rw [e1426]; exact ⟨rfl, N0, rfl⟩) (by decide) (by decide)
theorem d22_0 : decode prog_35_method_1_code 0 = .ok (.aload_n 0, 1) := by decide +kernel
theorem d22_1 : decode prog_35_method_1_code 1 = .ok (.invokespecial 1, 3) := by decide +kernel
theorem d22_4 : decode prog_35_method_1_code 4 = .ok (.aload_n 0, 1) := by decide +kernel
theorem d22_5 : decode prog_35_method_1_code 5 = .ok (.invokestatic 7, 3) := by decide +kernel
theorem d22_8 : decode prog_35_method_1_code 8 = .ok (.arraylength, 1) := by decide +kernel
theorem d22_9 : decode prog_35_method_1_code 9 = .ok (.newarray .long, 2) := by decide +kernel
theorem d22_11 : decode prog_35_method_1_code 11 = .ok (.putfield 13, 3) := by decide +kernel
theorem d22_14 : decode prog_35_method_1_code 14 = .ok (.aload_n 0, 1) := by decide +kernel
theorem d22_15 : decode prog_35_method_1_code 15 = .ok (.new 19, 3) := by decide +kernel
theorem d22_18 : decode prog_35_method_1_code 18 = .ok (.dup, 1) := by decide +kernel
theorem d22_19 : decode prog_35_method_1_code 19 = .ok (.invokespecial 21, 3) := by decide +kernel
theorem d22_22 : decode prog_35_method_1_code 22 = .ok (.putfield 22, 3) := by decide +kernel
theorem d22_25 : decode prog_35_method_1_code 25 = .ok (.aload_n 0, 1) := by decide +kernel
theorem d22_26 : decode prog_35_method_1_code 26 = .ok (.new 26, 3) := by decide +kernel
theorem d22_29 : decode prog_35_method_1_code 29 = .ok (.dup, 1) := by decide +kernel
theorem d22_30 : decode prog_35_method_1_code 30 = .ok (.invokespecial 28, 3) := by decide +kernel
theorem d22_33 : decode prog_35_method_1_code 33 = .ok (.putfield 29, 3) := by decide +kernel
theorem d22_36 : decode prog_35_method_1_code 36 = .ok (.aload_n 0, 1) := by decide +kernel
theorem d22_37 : decode prog_35_method_1_code 37 = .ok (.aload_n 1, 1) := by decide +kernel
theorem d22_38 : decode prog_35_method_1_code 38 = .ok (.putfield 33, 3) := by decide +kernel
theorem d22_41 : decode prog_35_method_1_code 41 = .ok (.aload_n 0, 1) := by decide +kernel
theorem d22_42 : decode prog_35_method_1_code 42 = .ok (.aload_n 2, 1) := by decide +kernel
theorem d22_43 : decode prog_35_method_1_code 43 = .ok (.putfield 37, 3) := by decide +kernel
theorem d22_46 : decode prog_35_method_1_code 46 = .ok (.aload_n 0, 1) := by decide +kernel
theorem d22_47 : decode prog_35_method_1_code 47 = .ok (.aload_n 3, 1) := by decide +kernel
theorem d22_48 : decode prog_35_method_1_code 48 = .ok (.putfield 41, 3) := by decide +kernel
theorem d22_51 : decode prog_35_method_1_code 51 = .ok (.aload_n 0, 1) := by decide +kernel
theorem d22_52 : decode prog_35_method_1_code 52 = .ok (.aload 4, 2) := by decide +kernel
theorem d22_54 : decode prog_35_method_1_code 54 = .ok (.putfield 45, 3) := by decide +kernel
theorem d22_57 : decode prog_35_method_1_code 57 = .ok (.aload 4, 2) := by decide +kernel
theorem d22_59 : decode prog_35_method_1_code 59 = .ok (.invokevirtual 49, 3) := by decide +kernel
theorem d22_62 : decode prog_35_method_1_code 62 = .ok (.astore 5, 2) := by decide +kernel
theorem d22_64 : decode prog_35_method_1_code 64 = .ok (.aload_n 0, 1) := by decide +kernel
theorem d22_65 : decode prog_35_method_1_code 65 = .ok (.aload 5, 2) := by decide +kernel
theorem d22_67 : decode prog_35_method_1_code 67 = .ok (.invokeinterface 55 1, 5) := by decide +kernel
theorem d22_72 : decode prog_35_method_1_code 72 = .ok (.newarray .double, 2) := by decide +kernel
theorem d22_74 : decode prog_35_method_1_code 74 = .ok (.putfield 61, 3) := by decide +kernel
theorem d22_77 : decode prog_35_method_1_code 77 = .ok (.iconst 0, 1) := by decide +kernel
theorem d22_78 : decode prog_35_method_1_code 78 = .ok (.istore 6, 2) := by decide +kernel
theorem d22_80 : decode prog_35_method_1_code 80 = .ok (.iload 6, 2) := by decide +kernel
theorem d22_82 : decode prog_35_method_1_code 82 = .ok (.aload_n 0, 1) := by decide +kernel
theorem d22_83 : decode prog_35_method_1_code 83 = .ok (.getfield 61, 3) := by decide +kernel
theorem d22_86 : decode prog_35_method_1_code 86 = .ok (.arraylength, 1) := by decide +kernel
theorem d22_87 : decode prog_35_method_1_code 87 = .ok (.if_icmp .ge 31, 3) := by decide +kernel
theorem d22_118 : decode prog_35_method_1_code 118 = .ok (.aload_n 0, 1) := by decide +kernel
theorem d22_119 : decode prog_35_method_1_code 119 = .ok (.aload_n 0, 1) := by decide +kernel
theorem d22_120 : decode prog_35_method_1_code 120 = .ok (.getfield 61, 3) := by decide +kernel
theorem d22_123 : decode prog_35_method_1_code 123 = .ok (.arraylength, 1) := by decide +kernel
theorem d22_124 : decode prog_35_method_1_code 124 = .ok (.iconst 1, 1) := by decide +kernel
theorem d22_125 : decode prog_35_method_1_code 125 = .ok (.iadd, 1) := by decide +kernel
theorem d22_126 : decode prog_35_method_1_code 126 = .ok (.newarray .long, 2) := by decide +kernel
theorem d22_128 : decode prog_35_method_1_code 128 = .ok (.putfield 74, 3) := by decide +kernel
theorem d22_131 : decode prog_35_method_1_code 131 = .ok (.return_, 1) := by decide +kernel
theorem ef_au33_init (m : MethodId) (x0 : Addr) (x1 : Addr) (x2 : Addr) (x3 : Addr) (x4 : Addr) : entryFrame m #[(.ref x0), (.ref x1), (.ref x2), (.ref x3), (.ref x4)] 7 = mkF m 0 #[SA x0, SA x1, SA x2, SA x3, SA x4, SU, SU] [] := by first | (simp [entryFrame, mkF, argsToLocals, Value.category, maxLocals]; done) | rfl
set_option maxRecDepth 65536 in
set_option maxHeartbeats 40000000 in
theorem au33_init (l : Launch) (Z : State) (a0 : Array Value) (hw : ∀ d ∈ tables_1, d.before a0 Z = true) (q9 q2 q10 q5 nn vals dc li els fD fE fL fR : Addr) (y_64 y_65 y_66 : Int64) (y_67 : UInt64) (Hs : Heap) (h0 : Heap) (n0 : Nat) (Z0 : n0 ≤ h0.size) (u5 : Sta Z Hs sn8 "$VALUES" sn28 (.ref vals)) (u6 : Sta Z Hs sn9 "DEFAULTCAPACITY_EMPTY_ELEMENTDATA" sn26 (.ref dc)) (u11 : Exa Z Hs nn sn27) (u12 : Exa Z Hs li sn29) (u13 : Exa Z Hs vals sn28) (u18 : Fld Z Hs nn sn27 "within" sn17 (.ref li)) (u19 : Fld Z Hs li sn29 "elements" sn26 (.ref els)) (u20 : Sar Z Hs vals (.object sn8) [(.ref fD), (.ref fE), (.ref fL), (.ref fR)]) (u21 : Sar Z Hs els (.object "java/lang/Object") []) (u54 : Exa Z h0 q9 sn0) (u55 : Fld Z h0 q9 sn0 "left" "[J" .null) (u56 : Fld Z h0 q9 sn0 "responseTimes" sn19 .null) (u57 : Fld Z h0 q9 sn0 "watchers" sn17 .null) (u58 : Fld Z h0 q9 sn0 "simulation" sn14 .null) (u59 : Fld Z h0 q9 sn0 "window" sn15 .null) (u60 : Fld Z h0 q9 sn0 "measurement" sn6 .null) (u61 : Fld Z h0 q9 sn0 "deliveryTimeMetrics" sn34 .null) (u62 : Fld Z h0 q9 sn0 "within" "[D" .null) (u63 : Fld Z h0 q9 sn0 "deliveredBy" "[J" .null) (u64 : Fld Z h0 q9 sn0 "inNetwork" "J" (.long y_64)) (u65 : Fld Z h0 q9 sn0 "produced" "J" (.long y_65)) (u66 : Fld Z h0 q9 sn0 sn18 "J" (.long y_66)) (u67 : Fld Z h0 q9 sn0 sn20 "D" (.double y_67)) (ge_q9 : n0 ≤ q9) (qH : Hs.size ≤ n0) (B0 : Ext Hs h0) :
    Does l mn45 prog_35_method_1_code 7 none [] ({ frames := 4, cells := 7, slots := 2063, locals := 50 } : Room) Z #[(.ref q9), (.ref q2), (.ref q10), (.ref q5), (.ref nn)] h0 (fun v h L => ∃ (o22_2 o22_3 o22_4 o22_5 o22_6 : Addr), v = none ∧ Fr n0 L ∧ Keep h0 h [q9] ∧ h0.size ≤ o22_2 ∧ h0.size ≤ o22_3 ∧ h0.size ≤ o22_4 ∧ h0.size ≤ o22_5 ∧ h0.size ≤ o22_6 ∧ o22_2 ≠ o22_3 ∧ o22_2 ≠ o22_4 ∧ o22_2 ≠ o22_5 ∧ o22_2 ≠ o22_6 ∧ o22_3 ≠ o22_4 ∧ o22_3 ≠ o22_5 ∧ o22_3 ≠ o22_6 ∧ o22_4 ≠ o22_5 ∧ o22_4 ≠ o22_6 ∧ o22_5 ≠ o22_6 ∧ Fld Z h q9 sn0 "left" "[J" (.ref o22_2) ∧ Fld Z h q9 sn0 "responseTimes" sn19 (.ref o22_3) ∧ Fld Z h q9 sn0 "watchers" sn17 (.ref o22_4) ∧ Fld Z h q9 sn0 "simulation" sn14 (.ref q2) ∧ Fld Z h q9 sn0 "window" sn15 (.ref q10) ∧ Fld Z h q9 sn0 "measurement" sn6 (.ref q5) ∧ Fld Z h q9 sn0 "within" "[D" (.ref o22_5) ∧ Fld Z h q9 sn0 "deliveredBy" "[J" (.ref o22_6) ∧ Fld Z h q9 sn0 "inNetwork" "J" (.long y_64) ∧ Fld Z h q9 sn0 "produced" "J" (.long y_65) ∧ Fld Z h q9 sn0 sn18 "J" (.long y_66) ∧ Fld Z h q9 sn0 sn20 "D" (.double y_67) ∧ Sar Z h o22_2 .long [(.long (0 : Int64)), (.long (0 : Int64)), (.long (0 : Int64)), (.long (0 : Int64))] ∧ Exa Z h o22_3 sn11 ∧ Fld Z h o22_3 sn11 "count" "J" (.long (0 : Int64)) ∧ Fld Z h o22_3 sn11 "zeros" "J" (.long (0 : Int64)) ∧ Exa Z h o22_4 sn9 ∧ Fld Z h o22_4 sn23 "modCount" "I" (.int (0 : Int32)) ∧ Fld Z h o22_4 sn9 "size" "I" (.int (0 : Int32)) ∧ Sar Z h o22_5 .double [] ∧ Sar Z h o22_6 .long [(.long (0 : Int64))]) := by
  refine Does.of (plainFor_of_name pn0) ?_
  intro p e s m below meth c s₁ hx hby hml hret hlk hZ hown hnm X0 e0
  have N0 := Fr.nil n0
  refine Goes.cast (g' := mkF m 0 #[SA q9, SA q2, SA q10, SA q5, SA nn, SU, SU] []) (ef_au33_init m q9 q2 q10 q5 nn) ?_
  have mi_q9 : q9 ∈ [q9] ∨ h0.size ≤ q9 := (Or.inl (List.mem_cons_self ..))
  have K0 := Keep.refl h0 [q9]
  refine gb s₁ (mkF m 1 #[SA q9, SA q2, SA q10, SA q5, SA nn, SU, SU] [(.ref q9)]) (fun _ k => XS.aloadN X0.here hx rfl (hb hby d22_0) rfl rfl k) ?_
  obtain ⟨T1504, X1504, e1504, st1504⟩ := initO X0 hx hZ hown (ww hw 170 rfl) (ww hw 16 rfl) (ww hw 17 rfl) e0 (g := (mkF m 1 #[SA q9, SA q2, SA q10, SA q5, SA nn, SU, SU] [(.ref q9)])) rfl (by rw [hml]; rfl) rfl (hb hby d22_1) (by decide) (W := 0) (by show 2 * 0 + _ ≤ _; exact Nat.le_of_eq rfl) (by decide)
  refine gb T1504 (mkF m 4 #[SA q9, SA q2, SA q10, SA q5, SA nn, SU, SU] []) st1504 ?_
  refine gb T1504 (mkF m 5 #[SA q9, SA q2, SA q10, SA q5, SA nn, SU, SU] [(.ref q9)]) (fun _ k => XS.aloadN X1504.here hx rfl (hb hby d22_4) rfl rfl k) ?_
  refine own_c1 (callC X1504 hx hZ (y := mn42) hown (ww hw 171 rfl) (ww hw 172 rfl) (ww hw 173 rfl) (ww hw 2 rfl) (by decide) e1504 (argsL := []) (rest := [(.ref q9)]) (W := 1) (au26_values l Z a0 hw vals fD fE fL fR Hs h0 n0 Z0 u5 u13 u20 qH B0) rfl (by decide) (by decide) (by decide) (by decide) rfl (by rw [hml]; rfl) (lenOf pd17 rfl) rfl (by show 2 * 0 + _ ≤ _; exact Nat.le_of_eq rfl) (hb hby d22_5)) fun v1507 T1507 L1507 X1507 hQ1507 => ?_
  obtain ⟨o22_1, rfl, NL1507, K1507, sz1507_o22_1, f1505, f1506⟩ := hQ1507
  have N0 := Fr.app N0 NL1507
  have ge_o22_1 : n0 ≤ o22_1 := Nat.le_trans Z0 sz1507_o22_1
  have sz_o22_1 : h0.size ≤ o22_1 := Nat.le_trans K0.1 sz1507_o22_1
  have e1507 : T1507.heap = T1507.heap := rfl
  have B0 := own_extK B0 K1507 all0
  have u54 := u54.keep K1507
  have u55 := u55.keep K1507 nin0
  have u56 := u56.keep K1507 nin0
  have u57 := u57.keep K1507 nin0
  have u58 := u58.keep K1507 nin0
  have u59 := u59.keep K1507 nin0
  have u60 := u60.keep K1507 nin0
  have u61 := u61.keep K1507 nin0
  have u62 := u62.keep K1507 nin0
  have u63 := u63.keep K1507 nin0
  have u64 := u64.keep K1507 nin0
  have u65 := u65.keep K1507 nin0
  have u66 := u66.keep K1507 nin0
  have u67 := u67.keep K1507 nin0
  have Z0 := Nat.le_trans Z0 K1507.1
  have K0 := K0.trans K1507 all0
  refine gb T1507 (mkF m 9 #[SA q9, SA q2, SA q10, SA q5, SA nn, SU, SU] [(.int (4 : Int32)), (.ref q9)]) (lenS X1507 hx hZ e1507 f1505 (n := (4 : Int32)) rfl (g := (mkF m 8 #[SA q9, SA q2, SA q10, SA q5, SA nn, SU, SU] [(.ref o22_1), (.ref q9)])) rfl rfl (hb hby d22_8)) ?_
  obtain ⟨T1508, h1508, k1508, X1508, e1508, E1508, A1508, st1508⟩ := newP X1507 hx hZ (ww hw 189 rfl) e1507 (g := (mkF m 9 #[SA q9, SA q2, SA q10, SA q5, SA nn, SU, SU] [(.int (4 : Int32)), (.ref q9)])) rfl (hb hby d22_9) rfl (by decide) (cap := 4) (by decide) (by decide) (by decide) (by decide)
  obtain ⟨o22_2, g1508⟩ : ∃ z, z = T1507.heap.size := ⟨_, rfl⟩
  rw [← g1508] at A1508 st1508
  have ne_q9_o22_2 : q9 ≠ o22_2 := own_nb u54.lt g1508
  have ge_o22_2 : n0 ≤ o22_2 := Nat.le_trans Z0 (Nat.le_of_eq g1508.symm)
  have sz_o22_2 : h0.size ≤ o22_2 := Nat.le_trans K0.1 (Nat.le_of_eq g1508.symm)
  have u54 := u54.ext E1508
  have u55 := u55.ext E1508
  have u56 := u56.ext E1508
  have u57 := u57.ext E1508
  have u58 := u58.ext E1508
  have u59 := u59.ext E1508
  have u60 := u60.ext E1508
  have u61 := u61.ext E1508
  have u62 := u62.ext E1508
  have u63 := u63.ext E1508
  have u64 := u64.ext E1508
  have u65 := u65.ext E1508
  have u66 := u66.ext E1508
  have u67 := u67.ext E1508
  have B0 := own_extT B0 E1508
  have Z0 := Nat.le_trans Z0 E1508.1
  have K0 := K0.ext E1508
  have V_o22_2 : Sar Z h1508 o22_2 .long [(.long (0 : Int64)), (.long (0 : Int64)), (.long (0 : Int64)), (.long (0 : Int64))] := Sar.new (n := 4) A1508 (by decide)
  refine gb T1508 (mkF m 11 #[SA q9, SA q2, SA q10, SA q5, SA nn, SU, SU] [(.ref o22_2), (.ref q9)]) st1508 ?_
  refine own_p1 (putF X1508 hx hZ hown (host := "") (Or.inl (ww hw 190 rfl)) Via.refl e1508 u55 u54 (Or.inr ⟨(ww hw 191 rfl), rfl, hnm⟩) (ww hw 162 rfl) (ty := (.array .long)) (by decide) rfl rfl rfl rfl (hb hby d22_11)) fun T1509 h1509 X1509 e1509 W1509 => ?_
  have N0 := Fr.snoc X1509 N0 ge_q9
  have B0 := own_extW B0 W1509 (Nat.le_trans qH ge_q9)
  have u54 := u54.wr W1509
  have u55 := u55.same W1509
  have u56 := own_oth u56 W1509 (Or.inr (ww hw 204 rfl)) (Or.inr (ww hw 191 rfl)) (by decide)
  have u57 := own_oth u57 W1509 (Or.inr (ww hw 230 rfl)) (Or.inr (ww hw 191 rfl)) (by decide)
  have u58 := own_oth u58 W1509 (Or.inr (ww hw 232 rfl)) (Or.inr (ww hw 191 rfl)) (by decide)
  have u59 := own_oth u59 W1509 (Or.inr (ww hw 234 rfl)) (Or.inr (ww hw 191 rfl)) (by decide)
  have u60 := own_oth u60 W1509 (Or.inr (ww hw 236 rfl)) (Or.inr (ww hw 191 rfl)) (by decide)
  have u61 := own_oth u61 W1509 (Or.inr (ww hw 238 rfl)) (Or.inr (ww hw 191 rfl)) (by decide)
  have u62 := own_oth u62 W1509 (Or.inr (ww hw 260 rfl)) (Or.inr (ww hw 191 rfl)) (by decide)
  have u63 := own_oth u63 W1509 (Or.inr (ww hw 262 rfl)) (Or.inr (ww hw 191 rfl)) (by decide)
  have u64 := own_oth u64 W1509 (Or.inl (ww hw 281 rfl)) (Or.inr (ww hw 191 rfl)) (by decide)
  have u65 := own_oth u65 W1509 (Or.inl (ww hw 283 rfl)) (Or.inr (ww hw 191 rfl)) (by decide)
  have u66 := own_oth u66 W1509 (Or.inl (ww hw 348 rfl)) (Or.inr (ww hw 191 rfl)) (by decide)
  have u67 := own_oth u67 W1509 (Or.inl (ww hw 443 rfl)) (Or.inr (ww hw 191 rfl)) (by decide)
  have V_o22_2 := V_o22_2.other W1509 (Ne.symm ne_q9_o22_2)
  have Z0 := own_zw Z0 W1509
  have K0 := K0.wr W1509 mi_q9
  refine gb T1509 (mkF m 15 #[SA q9, SA q2, SA q10, SA q5, SA nn, SU, SU] [(.ref q9)]) (fun _ k => XS.aloadN X1509.here hx rfl (hb hby d22_14) rfl rfl k) ?_
  obtain ⟨T1510, h1510, X1510, e1510, E1510, A1510, D1510, -, st1510⟩ := newO X1509 hx hZ hown (ww hw 192 rfl) (ww hw 193 rfl) (ww hw 194 rfl) e1509 (g := (mkF m 15 #[SA q9, SA q2, SA q10, SA q5, SA nn, SU, SU] [(.ref q9)])) rfl (hb hby d22_15) (by decide) (by decide)
  obtain ⟨o22_3, g1510⟩ : ∃ z, z = h1509.size := ⟨_, rfl⟩
  rw [← g1510] at A1510 D1510 st1510
  have ne_q9_o22_3 : q9 ≠ o22_3 := own_nb u54.lt g1510
  have ne_o22_2_o22_3 : o22_2 ≠ o22_3 := own_nb V_o22_2.lt g1510
  have ge_o22_3 : n0 ≤ o22_3 := Nat.le_trans Z0 (Nat.le_of_eq g1510.symm)
  have sz_o22_3 : h0.size ≤ o22_3 := Nat.le_trans K0.1 (Nat.le_of_eq g1510.symm)
  have u54 := u54.ext E1510
  have u55 := u55.ext E1510
  have u56 := u56.ext E1510
  have u57 := u57.ext E1510
  have u58 := u58.ext E1510
  have u59 := u59.ext E1510
  have u60 := u60.ext E1510
  have u61 := u61.ext E1510
  have u62 := u62.ext E1510
  have u63 := u63.ext E1510
  have u64 := u64.ext E1510
  have u65 := u65.ext E1510
  have u66 := u66.ext E1510
  have u67 := u67.ext E1510
  have V_o22_2 := V_o22_2.ext E1510
  have B0 := own_extT B0 E1510
  have Z0 := Nat.le_trans Z0 E1510.1
  have K0 := K0.ext E1510
  have E_o22_3 := A1510
  have f1511 : Fld Z h1510 o22_3 sn11 "binades" "[[J" .null := D1510 (Or.inr (ww hw 202 rfl)) (ty := (.array (.array .long))) (by decide)
  have f1512 : Fld Z h1510 o22_3 sn11 "count" "J" (.long (0 : Int64)) := D1510 (Or.inl (ww hw 451 rfl)) (ty := .long) (by decide)
  have f1513 : Fld Z h1510 o22_3 sn11 "zeros" "J" (.long (0 : Int64)) := D1510 (Or.inl (ww hw 453 rfl)) (ty := .long) (by decide)
  refine gb T1510 (mkF m 18 #[SA q9, SA q2, SA q10, SA q5, SA nn, SU, SU] [(.ref o22_3), (.ref q9)]) st1510 ?_
  refine gb T1510 (mkF m 19 #[SA q9, SA q2, SA q10, SA q5, SA nn, SU, SU] [(.ref o22_3), (.ref o22_3), (.ref q9)]) (fun _ k => XS.dup X1510.here hx rfl (hb hby d22_18) rfl rfl k) ?_
  refine own_c1 (callI X1510 hx hZ (y := mn43) rfl hown (ww hw 195 rfl) (ww hw 196 rfl) (ww hw 197 rfl) (ww hw 194 rfl) (by decide) e1510 (a := o22_3) (argsL := []) (rest := [(.ref o22_3), (.ref q9)]) (W := 2) (au27_init l Z a0 hw o22_3 (0 : Int64) (0 : Int64) h1510 n0 Z0 E_o22_3 f1511 f1512 f1513 ge_o22_3) rfl (by decide) (by decide) (by decide) (by decide) rfl (by rw [hml]; rfl) (lenOf pd7 rfl) rfl (by show 2 * 0 + _ ≤ _; exact Nat.le_of_eq rfl) (hb hby d22_19)) fun v1516 T1516 L1516 X1516 hQ1516 => ?_
  obtain ⟨rfl, NL1516, K1516, f1514, f1515⟩ := hQ1516
  have N0 := Fr.app N0 NL1516
  have e1516 : T1516.heap = T1516.heap := rfl
  have B0 := own_extK B0 K1516 (allS (Nat.le_trans qH ge_o22_3) all0)
  have u54 := u54.keep K1516
  have u55 := u55.keep K1516 (ninS ne_q9_o22_3 nin0)
  have u56 := u56.keep K1516 (ninS ne_q9_o22_3 nin0)
  have u57 := u57.keep K1516 (ninS ne_q9_o22_3 nin0)
  have u58 := u58.keep K1516 (ninS ne_q9_o22_3 nin0)
  have u59 := u59.keep K1516 (ninS ne_q9_o22_3 nin0)
  have u60 := u60.keep K1516 (ninS ne_q9_o22_3 nin0)
  have u61 := u61.keep K1516 (ninS ne_q9_o22_3 nin0)
  have u62 := u62.keep K1516 (ninS ne_q9_o22_3 nin0)
  have u63 := u63.keep K1516 (ninS ne_q9_o22_3 nin0)
  have u64 := u64.keep K1516 (ninS ne_q9_o22_3 nin0)
  have u65 := u65.keep K1516 (ninS ne_q9_o22_3 nin0)
  have u66 := u66.keep K1516 (ninS ne_q9_o22_3 nin0)
  have u67 := u67.keep K1516 (ninS ne_q9_o22_3 nin0)
  have V_o22_2 := V_o22_2.keep K1516 (ninS ne_o22_2_o22_3 nin0)
  have E_o22_3 := E_o22_3.keep K1516
  have Z0 := Nat.le_trans Z0 K1516.1
  have K0 := K0.trans K1516 (allS (Or.inr sz_o22_3) all0)
  refine own_p1 (putF X1516 hx hZ hown (host := "") (Or.inl (ww hw 203 rfl)) Via.refl e1516 u56 u54 (Or.inr ⟨(ww hw 204 rfl), rfl, hnm⟩) (ww hw 162 rfl) (ty := (.object sn11)) (by decide) rfl rfl rfl rfl (hb hby d22_22)) fun T1517 h1517 X1517 e1517 W1517 => ?_
  have N0 := Fr.snoc X1517 N0 ge_q9
  have B0 := own_extW B0 W1517 (Nat.le_trans qH ge_q9)
  have u54 := u54.wr W1517
  have u55 := own_oth u55 W1517 (Or.inr (ww hw 191 rfl)) (Or.inr (ww hw 204 rfl)) (by decide)
  have u56 := u56.same W1517
  have u57 := own_oth u57 W1517 (Or.inr (ww hw 230 rfl)) (Or.inr (ww hw 204 rfl)) (by decide)
  have u58 := own_oth u58 W1517 (Or.inr (ww hw 232 rfl)) (Or.inr (ww hw 204 rfl)) (by decide)
  have u59 := own_oth u59 W1517 (Or.inr (ww hw 234 rfl)) (Or.inr (ww hw 204 rfl)) (by decide)
  have u60 := own_oth u60 W1517 (Or.inr (ww hw 236 rfl)) (Or.inr (ww hw 204 rfl)) (by decide)
  have u61 := own_oth u61 W1517 (Or.inr (ww hw 238 rfl)) (Or.inr (ww hw 204 rfl)) (by decide)
  have u62 := own_oth u62 W1517 (Or.inr (ww hw 260 rfl)) (Or.inr (ww hw 204 rfl)) (by decide)
  have u63 := own_oth u63 W1517 (Or.inr (ww hw 262 rfl)) (Or.inr (ww hw 204 rfl)) (by decide)
  have u64 := own_oth u64 W1517 (Or.inl (ww hw 281 rfl)) (Or.inr (ww hw 204 rfl)) (by decide)
  have u65 := own_oth u65 W1517 (Or.inl (ww hw 283 rfl)) (Or.inr (ww hw 204 rfl)) (by decide)
  have u66 := own_oth u66 W1517 (Or.inl (ww hw 348 rfl)) (Or.inr (ww hw 204 rfl)) (by decide)
  have u67 := own_oth u67 W1517 (Or.inl (ww hw 443 rfl)) (Or.inr (ww hw 204 rfl)) (by decide)
  have V_o22_2 := V_o22_2.other W1517 (Ne.symm ne_q9_o22_2)
  have E_o22_3 := E_o22_3.wr W1517
  have f1514 := f1514.other W1517 (Or.inl (Ne.symm ne_q9_o22_3))
  have f1515 := f1515.other W1517 (Or.inl (Ne.symm ne_q9_o22_3))
  have Z0 := own_zw Z0 W1517
  have K0 := K0.wr W1517 mi_q9
  refine gb T1517 (mkF m 26 #[SA q9, SA q2, SA q10, SA q5, SA nn, SU, SU] [(.ref q9)]) (fun _ k => XS.aloadN X1517.here hx rfl (hb hby d22_25) rfl rfl k) ?_
  obtain ⟨T1518, h1518, X1518, e1518, E1518, A1518, D1518, -, st1518⟩ := newO X1517 hx hZ hown (ww hw 205 rfl) (ww hw 206 rfl) (ww hw 207 rfl) e1517 (g := (mkF m 26 #[SA q9, SA q2, SA q10, SA q5, SA nn, SU, SU] [(.ref q9)])) rfl (hb hby d22_26) (by decide) (by decide)
  obtain ⟨o22_4, g1518⟩ : ∃ z, z = h1517.size := ⟨_, rfl⟩
  rw [← g1518] at A1518 D1518 st1518
  have ne_q9_o22_4 : q9 ≠ o22_4 := own_nb u54.lt g1518
  have ne_o22_2_o22_4 : o22_2 ≠ o22_4 := own_nb V_o22_2.lt g1518
  have ne_o22_3_o22_4 : o22_3 ≠ o22_4 := own_nb E_o22_3.lt g1518
  have ge_o22_4 : n0 ≤ o22_4 := Nat.le_trans Z0 (Nat.le_of_eq g1518.symm)
  have sz_o22_4 : h0.size ≤ o22_4 := Nat.le_trans K0.1 (Nat.le_of_eq g1518.symm)
  have u54 := u54.ext E1518
  have u55 := u55.ext E1518
  have u56 := u56.ext E1518
  have u57 := u57.ext E1518
  have u58 := u58.ext E1518
  have u59 := u59.ext E1518
  have u60 := u60.ext E1518
  have u61 := u61.ext E1518
  have u62 := u62.ext E1518
  have u63 := u63.ext E1518
  have u64 := u64.ext E1518
  have u65 := u65.ext E1518
  have u66 := u66.ext E1518
  have u67 := u67.ext E1518
  have V_o22_2 := V_o22_2.ext E1518
  have E_o22_3 := E_o22_3.ext E1518
  have f1514 := f1514.ext E1518
  have f1515 := f1515.ext E1518
  have B0 := own_extT B0 E1518
  have Z0 := Nat.le_trans Z0 E1518.1
  have K0 := K0.ext E1518
  have E_o22_4 := A1518
  have f1519 : Fld Z h1518 o22_4 sn23 "modCount" "I" (.int (0 : Int32)) := D1518 (Or.inl (ww hw 225 rfl)) (ty := .int) (by decide)
  have f1520 : Fld Z h1518 o22_4 sn9 "elementData" sn26 .null := D1518 (Or.inl (ww hw 228 rfl)) (ty := (.array (.object "java/lang/Object"))) (by decide)
  have f1521 : Fld Z h1518 o22_4 sn9 "size" "I" (.int (0 : Int32)) := D1518 (Or.inl (ww hw 367 rfl)) (ty := .int) (by decide)
  refine gb T1518 (mkF m 29 #[SA q9, SA q2, SA q10, SA q5, SA nn, SU, SU] [(.ref o22_4), (.ref q9)]) st1518 ?_
  refine gb T1518 (mkF m 30 #[SA q9, SA q2, SA q10, SA q5, SA nn, SU, SU] [(.ref o22_4), (.ref o22_4), (.ref q9)]) (fun _ k => XS.dup X1518.here hx rfl (hb hby d22_29) rfl rfl k) ?_
  refine own_c1 (callI X1518 hx hZ (y := (⟨sn9, "<init>", "()V"⟩ : MethodName)) rfl hown (ww hw 208 rfl) (ww hw 209 rfl) (ww hw 210 rfl) (ww hw 207 rfl) (by decide) e1518 (a := o22_4) (argsL := []) (rest := [(.ref o22_4), (.ref q9)]) (W := 2) (au30_init l Z a0 hw o22_4 dc (0 : Int32) (0 : Int32) Hs h1518 n0 Z0 u6 E_o22_4 f1519 f1520 f1521 ge_o22_4 qH B0) rfl (by decide) (by decide) (by decide) (by decide) rfl (by rw [hml]; rfl) (lenOf pd7 rfl) rfl (by show 2 * 0 + _ ≤ _; exact Nat.le_of_eq rfl) (hb hby d22_30)) fun v1524 T1524 L1524 X1524 hQ1524 => ?_
  obtain ⟨rfl, NL1524, K1524, f1522, f1523⟩ := hQ1524
  have N0 := Fr.app N0 NL1524
  have e1524 : T1524.heap = T1524.heap := rfl
  have B0 := own_extK B0 K1524 (allS (Nat.le_trans qH ge_o22_4) all0)
  have u54 := u54.keep K1524
  have u55 := u55.keep K1524 (ninS ne_q9_o22_4 nin0)
  have u56 := u56.keep K1524 (ninS ne_q9_o22_4 nin0)
  have u57 := u57.keep K1524 (ninS ne_q9_o22_4 nin0)
  have u58 := u58.keep K1524 (ninS ne_q9_o22_4 nin0)
  have u59 := u59.keep K1524 (ninS ne_q9_o22_4 nin0)
  have u60 := u60.keep K1524 (ninS ne_q9_o22_4 nin0)
  have u61 := u61.keep K1524 (ninS ne_q9_o22_4 nin0)
  have u62 := u62.keep K1524 (ninS ne_q9_o22_4 nin0)
  have u63 := u63.keep K1524 (ninS ne_q9_o22_4 nin0)
  have u64 := u64.keep K1524 (ninS ne_q9_o22_4 nin0)
  have u65 := u65.keep K1524 (ninS ne_q9_o22_4 nin0)
  have u66 := u66.keep K1524 (ninS ne_q9_o22_4 nin0)
  have u67 := u67.keep K1524 (ninS ne_q9_o22_4 nin0)
  have V_o22_2 := V_o22_2.keep K1524 (ninS ne_o22_2_o22_4 nin0)
  have E_o22_3 := E_o22_3.keep K1524
  have f1514 := f1514.keep K1524 (ninS ne_o22_3_o22_4 nin0)
  have f1515 := f1515.keep K1524 (ninS ne_o22_3_o22_4 nin0)
  have E_o22_4 := E_o22_4.keep K1524
  have Z0 := Nat.le_trans Z0 K1524.1
  have K0 := K0.trans K1524 (allS (Or.inr sz_o22_4) all0)
  refine own_p1 (putF X1524 hx hZ hown (host := "") (Or.inl (ww hw 229 rfl)) Via.refl e1524 u57 u54 (Or.inr ⟨(ww hw 230 rfl), rfl, hnm⟩) (ww hw 162 rfl) (ty := (.object "java/util/List")) (by decide) rfl rfl rfl rfl (hb hby d22_33)) fun T1525 h1525 X1525 e1525 W1525 => ?_
  have N0 := Fr.snoc X1525 N0 ge_q9
  have B0 := own_extW B0 W1525 (Nat.le_trans qH ge_q9)
  have u54 := u54.wr W1525
  have u55 := own_oth u55 W1525 (Or.inr (ww hw 191 rfl)) (Or.inr (ww hw 230 rfl)) (by decide)
  have u56 := own_oth u56 W1525 (Or.inr (ww hw 204 rfl)) (Or.inr (ww hw 230 rfl)) (by decide)
  have u57 := u57.same W1525
  have u58 := own_oth u58 W1525 (Or.inr (ww hw 232 rfl)) (Or.inr (ww hw 230 rfl)) (by decide)
  have u59 := own_oth u59 W1525 (Or.inr (ww hw 234 rfl)) (Or.inr (ww hw 230 rfl)) (by decide)
  have u60 := own_oth u60 W1525 (Or.inr (ww hw 236 rfl)) (Or.inr (ww hw 230 rfl)) (by decide)
  have u61 := own_oth u61 W1525 (Or.inr (ww hw 238 rfl)) (Or.inr (ww hw 230 rfl)) (by decide)
  have u62 := own_oth u62 W1525 (Or.inr (ww hw 260 rfl)) (Or.inr (ww hw 230 rfl)) (by decide)
  have u63 := own_oth u63 W1525 (Or.inr (ww hw 262 rfl)) (Or.inr (ww hw 230 rfl)) (by decide)
  have u64 := own_oth u64 W1525 (Or.inl (ww hw 281 rfl)) (Or.inr (ww hw 230 rfl)) (by decide)
  have u65 := own_oth u65 W1525 (Or.inl (ww hw 283 rfl)) (Or.inr (ww hw 230 rfl)) (by decide)
  have u66 := own_oth u66 W1525 (Or.inl (ww hw 348 rfl)) (Or.inr (ww hw 230 rfl)) (by decide)
  have u67 := own_oth u67 W1525 (Or.inl (ww hw 443 rfl)) (Or.inr (ww hw 230 rfl)) (by decide)
  have V_o22_2 := V_o22_2.other W1525 (Ne.symm ne_q9_o22_2)
  have E_o22_3 := E_o22_3.wr W1525
  have f1514 := f1514.other W1525 (Or.inl (Ne.symm ne_q9_o22_3))
  have f1515 := f1515.other W1525 (Or.inl (Ne.symm ne_q9_o22_3))
  have E_o22_4 := E_o22_4.wr W1525
  have f1522 := f1522.other W1525 (Or.inl (Ne.symm ne_q9_o22_4))
  have f1523 := f1523.other W1525 (Or.inl (Ne.symm ne_q9_o22_4))
  have Z0 := own_zw Z0 W1525
  have K0 := K0.wr W1525 mi_q9
  refine gb T1525 (mkF m 38 #[SA q9, SA q2, SA q10, SA q5, SA nn, SU, SU] [(.ref q2), (.ref q9)]) (fun _ k => XS.aloadN X1525.here hx rfl (hb hby d22_36) rfl rfl (XS.aloadN X1525.here hx rfl (hb hby d22_37) rfl rfl k)) ?_
  refine own_p1 (putF X1525 hx hZ hown (host := "") (Or.inl (ww hw 231 rfl)) Via.refl e1525 u58 u54 (Or.inr ⟨(ww hw 232 rfl), rfl, hnm⟩) (ww hw 162 rfl) (ty := (.object sn2)) (by decide) rfl rfl rfl rfl (hb hby d22_38)) fun T1526 h1526 X1526 e1526 W1526 => ?_
  have N0 := Fr.snoc X1526 N0 ge_q9
  have B0 := own_extW B0 W1526 (Nat.le_trans qH ge_q9)
  have u54 := u54.wr W1526
  have u55 := own_oth u55 W1526 (Or.inr (ww hw 191 rfl)) (Or.inr (ww hw 232 rfl)) (by decide)
  have u56 := own_oth u56 W1526 (Or.inr (ww hw 204 rfl)) (Or.inr (ww hw 232 rfl)) (by decide)
  have u57 := own_oth u57 W1526 (Or.inr (ww hw 230 rfl)) (Or.inr (ww hw 232 rfl)) (by decide)
  have u58 := u58.same W1526
  have u59 := own_oth u59 W1526 (Or.inr (ww hw 234 rfl)) (Or.inr (ww hw 232 rfl)) (by decide)
  have u60 := own_oth u60 W1526 (Or.inr (ww hw 236 rfl)) (Or.inr (ww hw 232 rfl)) (by decide)
  have u61 := own_oth u61 W1526 (Or.inr (ww hw 238 rfl)) (Or.inr (ww hw 232 rfl)) (by decide)
  have u62 := own_oth u62 W1526 (Or.inr (ww hw 260 rfl)) (Or.inr (ww hw 232 rfl)) (by decide)
  have u63 := own_oth u63 W1526 (Or.inr (ww hw 262 rfl)) (Or.inr (ww hw 232 rfl)) (by decide)
  have u64 := own_oth u64 W1526 (Or.inl (ww hw 281 rfl)) (Or.inr (ww hw 232 rfl)) (by decide)
  have u65 := own_oth u65 W1526 (Or.inl (ww hw 283 rfl)) (Or.inr (ww hw 232 rfl)) (by decide)
  have u66 := own_oth u66 W1526 (Or.inl (ww hw 348 rfl)) (Or.inr (ww hw 232 rfl)) (by decide)
  have u67 := own_oth u67 W1526 (Or.inl (ww hw 443 rfl)) (Or.inr (ww hw 232 rfl)) (by decide)
  have V_o22_2 := V_o22_2.other W1526 (Ne.symm ne_q9_o22_2)
  have E_o22_3 := E_o22_3.wr W1526
  have f1514 := f1514.other W1526 (Or.inl (Ne.symm ne_q9_o22_3))
  have f1515 := f1515.other W1526 (Or.inl (Ne.symm ne_q9_o22_3))
  have E_o22_4 := E_o22_4.wr W1526
  have f1522 := f1522.other W1526 (Or.inl (Ne.symm ne_q9_o22_4))
  have f1523 := f1523.other W1526 (Or.inl (Ne.symm ne_q9_o22_4))
  have Z0 := own_zw Z0 W1526
  have K0 := K0.wr W1526 mi_q9
  refine gb T1526 (mkF m 43 #[SA q9, SA q2, SA q10, SA q5, SA nn, SU, SU] [(.ref q10), (.ref q9)]) (fun _ k => XS.aloadN X1526.here hx rfl (hb hby d22_41) rfl rfl (XS.aloadN X1526.here hx rfl (hb hby d22_42) rfl rfl k)) ?_
  refine own_p1 (putF X1526 hx hZ hown (host := "") (Or.inl (ww hw 233 rfl)) Via.refl e1526 u59 u54 (Or.inr ⟨(ww hw 234 rfl), rfl, hnm⟩) (ww hw 162 rfl) (ty := (.object sn13)) (by decide) rfl rfl rfl rfl (hb hby d22_43)) fun T1527 h1527 X1527 e1527 W1527 => ?_
  have N0 := Fr.snoc X1527 N0 ge_q9
  have B0 := own_extW B0 W1527 (Nat.le_trans qH ge_q9)
  have u54 := u54.wr W1527
  have u55 := own_oth u55 W1527 (Or.inr (ww hw 191 rfl)) (Or.inr (ww hw 234 rfl)) (by decide)
  have u56 := own_oth u56 W1527 (Or.inr (ww hw 204 rfl)) (Or.inr (ww hw 234 rfl)) (by decide)
  have u57 := own_oth u57 W1527 (Or.inr (ww hw 230 rfl)) (Or.inr (ww hw 234 rfl)) (by decide)
  have u58 := own_oth u58 W1527 (Or.inr (ww hw 232 rfl)) (Or.inr (ww hw 234 rfl)) (by decide)
  have u59 := u59.same W1527
  have u60 := own_oth u60 W1527 (Or.inr (ww hw 236 rfl)) (Or.inr (ww hw 234 rfl)) (by decide)
  have u61 := own_oth u61 W1527 (Or.inr (ww hw 238 rfl)) (Or.inr (ww hw 234 rfl)) (by decide)
  have u62 := own_oth u62 W1527 (Or.inr (ww hw 260 rfl)) (Or.inr (ww hw 234 rfl)) (by decide)
  have u63 := own_oth u63 W1527 (Or.inr (ww hw 262 rfl)) (Or.inr (ww hw 234 rfl)) (by decide)
  have u64 := own_oth u64 W1527 (Or.inl (ww hw 281 rfl)) (Or.inr (ww hw 234 rfl)) (by decide)
  have u65 := own_oth u65 W1527 (Or.inl (ww hw 283 rfl)) (Or.inr (ww hw 234 rfl)) (by decide)
  have u66 := own_oth u66 W1527 (Or.inl (ww hw 348 rfl)) (Or.inr (ww hw 234 rfl)) (by decide)
  have u67 := own_oth u67 W1527 (Or.inl (ww hw 443 rfl)) (Or.inr (ww hw 234 rfl)) (by decide)
  have V_o22_2 := V_o22_2.other W1527 (Ne.symm ne_q9_o22_2)
  have E_o22_3 := E_o22_3.wr W1527
  have f1514 := f1514.other W1527 (Or.inl (Ne.symm ne_q9_o22_3))
  have f1515 := f1515.other W1527 (Or.inl (Ne.symm ne_q9_o22_3))
  have E_o22_4 := E_o22_4.wr W1527
  have f1522 := f1522.other W1527 (Or.inl (Ne.symm ne_q9_o22_4))
  have f1523 := f1523.other W1527 (Or.inl (Ne.symm ne_q9_o22_4))
  have Z0 := own_zw Z0 W1527
  have K0 := K0.wr W1527 mi_q9
  refine gb T1527 (mkF m 48 #[SA q9, SA q2, SA q10, SA q5, SA nn, SU, SU] [(.ref q5), (.ref q9)]) (fun _ k => XS.aloadN X1527.here hx rfl (hb hby d22_46) rfl rfl (XS.aloadN X1527.here hx rfl (hb hby d22_47) rfl rfl k)) ?_
  refine own_p1 (putF X1527 hx hZ hown (host := "") (Or.inl (ww hw 235 rfl)) Via.refl e1527 u60 u54 (Or.inr ⟨(ww hw 236 rfl), rfl, hnm⟩) (ww hw 162 rfl) (ty := (.object sn12)) (by decide) rfl rfl rfl rfl (hb hby d22_48)) fun T1528 h1528 X1528 e1528 W1528 => ?_
  have N0 := Fr.snoc X1528 N0 ge_q9
  have B0 := own_extW B0 W1528 (Nat.le_trans qH ge_q9)
  have u54 := u54.wr W1528
  have u55 := own_oth u55 W1528 (Or.inr (ww hw 191 rfl)) (Or.inr (ww hw 236 rfl)) (by decide)
  have u56 := own_oth u56 W1528 (Or.inr (ww hw 204 rfl)) (Or.inr (ww hw 236 rfl)) (by decide)
  have u57 := own_oth u57 W1528 (Or.inr (ww hw 230 rfl)) (Or.inr (ww hw 236 rfl)) (by decide)
  have u58 := own_oth u58 W1528 (Or.inr (ww hw 232 rfl)) (Or.inr (ww hw 236 rfl)) (by decide)
  have u59 := own_oth u59 W1528 (Or.inr (ww hw 234 rfl)) (Or.inr (ww hw 236 rfl)) (by decide)
  have u60 := u60.same W1528
  have u61 := own_oth u61 W1528 (Or.inr (ww hw 238 rfl)) (Or.inr (ww hw 236 rfl)) (by decide)
  have u62 := own_oth u62 W1528 (Or.inr (ww hw 260 rfl)) (Or.inr (ww hw 236 rfl)) (by decide)
  have u63 := own_oth u63 W1528 (Or.inr (ww hw 262 rfl)) (Or.inr (ww hw 236 rfl)) (by decide)
  have u64 := own_oth u64 W1528 (Or.inl (ww hw 281 rfl)) (Or.inr (ww hw 236 rfl)) (by decide)
  have u65 := own_oth u65 W1528 (Or.inl (ww hw 283 rfl)) (Or.inr (ww hw 236 rfl)) (by decide)
  have u66 := own_oth u66 W1528 (Or.inl (ww hw 348 rfl)) (Or.inr (ww hw 236 rfl)) (by decide)
  have u67 := own_oth u67 W1528 (Or.inl (ww hw 443 rfl)) (Or.inr (ww hw 236 rfl)) (by decide)
  have V_o22_2 := V_o22_2.other W1528 (Ne.symm ne_q9_o22_2)
  have E_o22_3 := E_o22_3.wr W1528
  have f1514 := f1514.other W1528 (Or.inl (Ne.symm ne_q9_o22_3))
  have f1515 := f1515.other W1528 (Or.inl (Ne.symm ne_q9_o22_3))
  have E_o22_4 := E_o22_4.wr W1528
  have f1522 := f1522.other W1528 (Or.inl (Ne.symm ne_q9_o22_4))
  have f1523 := f1523.other W1528 (Or.inl (Ne.symm ne_q9_o22_4))
  have Z0 := own_zw Z0 W1528
  have K0 := K0.wr W1528 mi_q9
  refine gb T1528 (mkF m 54 #[SA q9, SA q2, SA q10, SA q5, SA nn, SU, SU] [(.ref nn), (.ref q9)]) (fun _ k => XS.aloadN X1528.here hx rfl (hb hby d22_51) rfl rfl (XS.aload X1528.here hx rfl (hb hby d22_52) rfl rfl k)) ?_
  refine own_p1 (putF X1528 hx hZ hown (host := "") (Or.inl (ww hw 237 rfl)) Via.refl e1528 u61 u54 (Or.inr ⟨(ww hw 238 rfl), rfl, hnm⟩) (ww hw 162 rfl) (ty := (.object sn27)) (by decide) rfl rfl rfl rfl (hb hby d22_54)) fun T1529 h1529 X1529 e1529 W1529 => ?_
  have N0 := Fr.snoc X1529 N0 ge_q9
  have B0 := own_extW B0 W1529 (Nat.le_trans qH ge_q9)
  have u54 := u54.wr W1529
  have u55 := own_oth u55 W1529 (Or.inr (ww hw 191 rfl)) (Or.inr (ww hw 238 rfl)) (by decide)
  have u56 := own_oth u56 W1529 (Or.inr (ww hw 204 rfl)) (Or.inr (ww hw 238 rfl)) (by decide)
  have u57 := own_oth u57 W1529 (Or.inr (ww hw 230 rfl)) (Or.inr (ww hw 238 rfl)) (by decide)
  have u58 := own_oth u58 W1529 (Or.inr (ww hw 232 rfl)) (Or.inr (ww hw 238 rfl)) (by decide)
  have u59 := own_oth u59 W1529 (Or.inr (ww hw 234 rfl)) (Or.inr (ww hw 238 rfl)) (by decide)
  have u60 := own_oth u60 W1529 (Or.inr (ww hw 236 rfl)) (Or.inr (ww hw 238 rfl)) (by decide)
  have u62 := own_oth u62 W1529 (Or.inr (ww hw 260 rfl)) (Or.inr (ww hw 238 rfl)) (by decide)
  have u63 := own_oth u63 W1529 (Or.inr (ww hw 262 rfl)) (Or.inr (ww hw 238 rfl)) (by decide)
  have u64 := own_oth u64 W1529 (Or.inl (ww hw 281 rfl)) (Or.inr (ww hw 238 rfl)) (by decide)
  have u65 := own_oth u65 W1529 (Or.inl (ww hw 283 rfl)) (Or.inr (ww hw 238 rfl)) (by decide)
  have u66 := own_oth u66 W1529 (Or.inl (ww hw 348 rfl)) (Or.inr (ww hw 238 rfl)) (by decide)
  have u67 := own_oth u67 W1529 (Or.inl (ww hw 443 rfl)) (Or.inr (ww hw 238 rfl)) (by decide)
  have V_o22_2 := V_o22_2.other W1529 (Ne.symm ne_q9_o22_2)
  have E_o22_3 := E_o22_3.wr W1529
  have f1514 := f1514.other W1529 (Or.inl (Ne.symm ne_q9_o22_3))
  have f1515 := f1515.other W1529 (Or.inl (Ne.symm ne_q9_o22_3))
  have E_o22_4 := E_o22_4.wr W1529
  have f1522 := f1522.other W1529 (Or.inl (Ne.symm ne_q9_o22_4))
  have f1523 := f1523.other W1529 (Or.inl (Ne.symm ne_q9_o22_4))
  have Z0 := own_zw Z0 W1529
  have K0 := K0.wr W1529 mi_q9
  refine gb T1529 (mkF m 59 #[SA q9, SA q2, SA q10, SA q5, SA nn, SU, SU] [(.ref nn)]) (fun _ k => XS.aload X1529.here hx rfl (hb hby d22_57) rfl rfl k) ?_
  refine own_c1 (callV X1529 hx hZ (y := mn44) hown (ww hw 239 rfl) (ww hw 240 rfl) (ww hw 242 rfl) (ww hw 241 rfl) (ww hw 243 rfl) (ww hw 165 rfl) (by decide) e1529 (u11.ext B0) (argsL := []) (rest := []) (W := 0) (au31_within l Z a0 hw nn li Hs h1529 n0 Z0 u18 qH B0) rfl (by decide) (by decide) (by decide) (by decide) rfl (by rw [hml]; rfl) (lenOf pd18 rfl) rfl (by show 2 * 0 + _ ≤ _; exact Nat.le_of_eq rfl) (hb hby d22_59)) fun v1531 T1531 L1531 X1531 hQ1531 => ?_
  obtain ⟨rfl, NL1531, hk1531⟩ := hQ1531
  have N0 := Fr.app N0 NL1531
  refine gb T1531 (mkF m 67 #[SA q9, SA q2, SA q10, SA q5, SA nn, SA li, SU] [(.ref li), (.ref q9)]) (fun _ k => XS.astore X1531.here hx rfl (hb hby d22_62) rfl rfl (l' := #[SA q9, SA q2, SA q10, SA q5, SA nn, SA li, SU]) rfl (XS.aloadN X1531.here hx rfl (hb hby d22_64) rfl rfl (XS.aload X1531.here hx rfl (hb hby d22_65) rfl rfl k))) ?_
  refine own_c1 (callF X1531 hx hZ (xi := mn5) (y := (⟨sn29, "size", "()I"⟩ : MethodName)) hown (ww hw 246 rfl) (ww hw 247 rfl) (ww hw 248 rfl) (by decide) (ww hw 249 rfl) (ww hw 250 rfl) (ww hw 251 rfl) (ww hw 252 rfl) (ww hw 253 rfl) (ww hw 255 rfl) (ww hw 254 rfl) (by decide) hk1531 (u12.ext B0) (argsL := []) (rest := [(.ref q9)]) (W := 1) (au32_size l Z a0 hw li els Hs h1529 n0 Z0 u19 u21 qH B0) rfl (by decide) (by decide) (by decide) (by decide) rfl (by rw [hml]; rfl) (lenOf pd19 rfl) rfl (by show 2 * 0 + _ ≤ _; exact Nat.le_of_eq rfl) (hb hby d22_67)) fun v1532 T1532 L1532 X1532 hQ1532 => ?_
  obtain ⟨rfl, NL1532, hk1532⟩ := hQ1532
  have N0 := Fr.app N0 NL1532
  obtain ⟨T1533, h1533, k1533, X1533, e1533, E1533, A1533, st1533⟩ := newP X1532 hx hZ (ww hw 258 rfl) hk1532 (g := (mkF m 72 #[SA q9, SA q2, SA q10, SA q5, SA nn, SA li, SU] [(.int (0 : Int32)), (.ref q9)])) rfl (hb hby d22_72) rfl (by decide) (cap := 0) (by decide) (by decide) (by decide) (by decide)
  obtain ⟨o22_5, g1533⟩ : ∃ z, z = h1529.size := ⟨_, rfl⟩
  rw [← g1533] at A1533 st1533
  have ne_q9_o22_5 : q9 ≠ o22_5 := own_nb u54.lt g1533
  have ne_o22_2_o22_5 : o22_2 ≠ o22_5 := own_nb V_o22_2.lt g1533
  have ne_o22_3_o22_5 : o22_3 ≠ o22_5 := own_nb E_o22_3.lt g1533
  have ne_o22_4_o22_5 : o22_4 ≠ o22_5 := own_nb E_o22_4.lt g1533
  have ge_o22_5 : n0 ≤ o22_5 := Nat.le_trans Z0 (Nat.le_of_eq g1533.symm)
  have sz_o22_5 : h0.size ≤ o22_5 := Nat.le_trans K0.1 (Nat.le_of_eq g1533.symm)
  have u54 := u54.ext E1533
  have u55 := u55.ext E1533
  have u56 := u56.ext E1533
  have u57 := u57.ext E1533
  have u58 := u58.ext E1533
  have u59 := u59.ext E1533
  have u60 := u60.ext E1533
  have u62 := u62.ext E1533
  have u63 := u63.ext E1533
  have u64 := u64.ext E1533
  have u65 := u65.ext E1533
  have u66 := u66.ext E1533
  have u67 := u67.ext E1533
  have V_o22_2 := V_o22_2.ext E1533
  have E_o22_3 := E_o22_3.ext E1533
  have f1514 := f1514.ext E1533
  have f1515 := f1515.ext E1533
  have E_o22_4 := E_o22_4.ext E1533
  have f1522 := f1522.ext E1533
  have f1523 := f1523.ext E1533
  have B0 := own_extT B0 E1533
  have Z0 := Nat.le_trans Z0 E1533.1
  have K0 := K0.ext E1533
  have V_o22_5 : Sar Z h1533 o22_5 .double [] := Sar.new (n := 0) A1533 (by decide)
  refine gb T1533 (mkF m 74 #[SA q9, SA q2, SA q10, SA q5, SA nn, SA li, SU] [(.ref o22_5), (.ref q9)]) st1533 ?_
  refine own_p1 (putF X1533 hx hZ hown (host := "") (Or.inl (ww hw 259 rfl)) Via.refl e1533 u62 u54 (Or.inr ⟨(ww hw 260 rfl), rfl, hnm⟩) (ww hw 162 rfl) (ty := (.array .double)) (by decide) rfl rfl rfl rfl (hb hby d22_74)) fun T1534 h1534 X1534 e1534 W1534 => ?_
  have N0 := Fr.snoc X1534 N0 ge_q9
  have B0 := own_extW B0 W1534 (Nat.le_trans qH ge_q9)
  have u54 := u54.wr W1534
  have u55 := own_oth u55 W1534 (Or.inr (ww hw 191 rfl)) (Or.inr (ww hw 260 rfl)) (by decide)
  have u56 := own_oth u56 W1534 (Or.inr (ww hw 204 rfl)) (Or.inr (ww hw 260 rfl)) (by decide)
  have u57 := own_oth u57 W1534 (Or.inr (ww hw 230 rfl)) (Or.inr (ww hw 260 rfl)) (by decide)
  have u58 := own_oth u58 W1534 (Or.inr (ww hw 232 rfl)) (Or.inr (ww hw 260 rfl)) (by decide)
  have u59 := own_oth u59 W1534 (Or.inr (ww hw 234 rfl)) (Or.inr (ww hw 260 rfl)) (by decide)
  have u60 := own_oth u60 W1534 (Or.inr (ww hw 236 rfl)) (Or.inr (ww hw 260 rfl)) (by decide)
  have u62 := u62.same W1534
  have u63 := own_oth u63 W1534 (Or.inr (ww hw 262 rfl)) (Or.inr (ww hw 260 rfl)) (by decide)
  have u64 := own_oth u64 W1534 (Or.inl (ww hw 281 rfl)) (Or.inr (ww hw 260 rfl)) (by decide)
  have u65 := own_oth u65 W1534 (Or.inl (ww hw 283 rfl)) (Or.inr (ww hw 260 rfl)) (by decide)
  have u66 := own_oth u66 W1534 (Or.inl (ww hw 348 rfl)) (Or.inr (ww hw 260 rfl)) (by decide)
  have u67 := own_oth u67 W1534 (Or.inl (ww hw 443 rfl)) (Or.inr (ww hw 260 rfl)) (by decide)
  have V_o22_2 := V_o22_2.other W1534 (Ne.symm ne_q9_o22_2)
  have E_o22_3 := E_o22_3.wr W1534
  have f1514 := f1514.other W1534 (Or.inl (Ne.symm ne_q9_o22_3))
  have f1515 := f1515.other W1534 (Or.inl (Ne.symm ne_q9_o22_3))
  have E_o22_4 := E_o22_4.wr W1534
  have f1522 := f1522.other W1534 (Or.inl (Ne.symm ne_q9_o22_4))
  have f1523 := f1523.other W1534 (Or.inl (Ne.symm ne_q9_o22_4))
  have V_o22_5 := V_o22_5.other W1534 (Ne.symm ne_q9_o22_5)
  have Z0 := own_zw Z0 W1534
  have K0 := K0.wr W1534 mi_q9
  refine gb T1534 (mkF m 83 #[SA q9, SA q2, SA q10, SA q5, SA nn, SA li, SI 0] [(.ref q9), (.int (0 : Int32))]) (fun _ k => XS.iconst X1534.here hx rfl (hb hby d22_77)  (XS.istore X1534.here hx rfl (hb hby d22_78) rfl (l' := #[SA q9, SA q2, SA q10, SA q5, SA nn, SA li, SI 0]) rfl (XS.iload X1534.here hx rfl (hb hby d22_80) rfl (XS.aloadN X1534.here hx rfl (hb hby d22_82) rfl rfl k)))) ?_
  refine own_g1 (getF X1534 hx hZ hown (host := "") (Or.inl (ww hw 259 rfl)) Via.refl e1534 u62 rfl rfl (hb hby d22_83)) fun T1535 X1535 e1535 => ?_
  refine gb T1535 (mkF m 87 #[SA q9, SA q2, SA q10, SA q5, SA nn, SA li, SI 0] [(.int (0 : Int32)), (.int (0 : Int32))]) (lenS X1535 hx hZ e1535 V_o22_5 (n := (0 : Int32)) rfl (g := (mkF m 86 #[SA q9, SA q2, SA q10, SA q5, SA nn, SA li, SI 0] [(.ref o22_5), (.int (0 : Int32))])) rfl rfl (hb hby d22_86)) ?_
  refine gb T1535 (mkF m 118 #[SA q9, SA q2, SA q10, SA q5, SA nn, SA li, SI 0] []) (fun _ k => XS.icmpYes X1535.here hx rfl (pc0 := 87) (pc' := 118) rfl (hb hby d22_87) rfl (by decide) (by decide) (by decide) k) ?_
  refine gb T1535 (mkF m 120 #[SA q9, SA q2, SA q10, SA q5, SA nn, SA li, SI 0] [(.ref q9), (.ref q9)]) (fun _ k => XS.aloadN X1535.here hx rfl (hb hby d22_118) rfl rfl (XS.aloadN X1535.here hx rfl (hb hby d22_119) rfl rfl k)) ?_
  refine own_g1 (getF X1535 hx hZ hown (host := "") (Or.inl (ww hw 259 rfl)) Via.refl e1535 u62 rfl rfl (hb hby d22_120)) fun T1536 X1536 e1536 => ?_
  refine gb T1536 (mkF m 124 #[SA q9, SA q2, SA q10, SA q5, SA nn, SA li, SI 0] [(.int (0 : Int32)), (.ref q9)]) (lenS X1536 hx hZ e1536 V_o22_5 (n := (0 : Int32)) rfl (g := (mkF m 123 #[SA q9, SA q2, SA q10, SA q5, SA nn, SA li, SI 0] [(.ref o22_5), (.ref q9)])) rfl rfl (hb hby d22_123)) ?_
  refine gb T1536 (mkF m 125 #[SA q9, SA q2, SA q10, SA q5, SA nn, SA li, SI 0] [(.int (1 : Int32)), (.int (0 : Int32)), (.ref q9)]) (fun _ k => XS.iconst X1536.here hx rfl (hb hby d22_124)  k) ?_
  refine gb T1536 (mkF m 126 #[SA q9, SA q2, SA q10, SA q5, SA nn, SA li, SI 0] [(.int (1 : Int32)), (.ref q9)]) (fun _ k => XS.iadd X1536.here hx rfl (hb hby d22_125) rfl k) ?_
  obtain ⟨T1537, h1537, k1537, X1537, e1537, E1537, A1537, st1537⟩ := newP X1536 hx hZ (ww hw 189 rfl) e1536 (g := (mkF m 126 #[SA q9, SA q2, SA q10, SA q5, SA nn, SA li, SI 0] [(.int (1 : Int32)), (.ref q9)])) rfl (hb hby d22_126) rfl (by decide) (cap := 1) (by decide) (by decide) (by decide) (by decide)
  obtain ⟨o22_6, g1537⟩ : ∃ z, z = h1534.size := ⟨_, rfl⟩
  rw [← g1537] at A1537 st1537
  have ne_q9_o22_6 : q9 ≠ o22_6 := own_nb u54.lt g1537
  have ne_o22_2_o22_6 : o22_2 ≠ o22_6 := own_nb V_o22_2.lt g1537
  have ne_o22_3_o22_6 : o22_3 ≠ o22_6 := own_nb E_o22_3.lt g1537
  have ne_o22_4_o22_6 : o22_4 ≠ o22_6 := own_nb E_o22_4.lt g1537
  have ne_o22_5_o22_6 : o22_5 ≠ o22_6 := own_nb V_o22_5.lt g1537
  have ge_o22_6 : n0 ≤ o22_6 := Nat.le_trans Z0 (Nat.le_of_eq g1537.symm)
  have sz_o22_6 : h0.size ≤ o22_6 := Nat.le_trans K0.1 (Nat.le_of_eq g1537.symm)
  have u54 := u54.ext E1537
  have u55 := u55.ext E1537
  have u56 := u56.ext E1537
  have u57 := u57.ext E1537
  have u58 := u58.ext E1537
  have u59 := u59.ext E1537
  have u60 := u60.ext E1537
  have u62 := u62.ext E1537
  have u63 := u63.ext E1537
  have u64 := u64.ext E1537
  have u65 := u65.ext E1537
  have u66 := u66.ext E1537
  have u67 := u67.ext E1537
  have V_o22_2 := V_o22_2.ext E1537
  have E_o22_3 := E_o22_3.ext E1537
  have f1514 := f1514.ext E1537
  have f1515 := f1515.ext E1537
  have E_o22_4 := E_o22_4.ext E1537
  have f1522 := f1522.ext E1537
  have f1523 := f1523.ext E1537
  have V_o22_5 := V_o22_5.ext E1537
  have B0 := own_extT B0 E1537
  have Z0 := Nat.le_trans Z0 E1537.1
  have K0 := K0.ext E1537
  have V_o22_6 : Sar Z h1537 o22_6 .long [(.long (0 : Int64))] := Sar.new (n := 1) A1537 (by decide)
  refine gb T1537 (mkF m 128 #[SA q9, SA q2, SA q10, SA q5, SA nn, SA li, SI 0] [(.ref o22_6), (.ref q9)]) st1537 ?_
  refine own_p1 (putF X1537 hx hZ hown (host := "") (Or.inl (ww hw 261 rfl)) Via.refl e1537 u63 u54 (Or.inr ⟨(ww hw 262 rfl), rfl, hnm⟩) (ww hw 162 rfl) (ty := (.array .long)) (by decide) rfl rfl rfl rfl (hb hby d22_128)) fun T1538 h1538 X1538 e1538 W1538 => ?_
  have N0 := Fr.snoc X1538 N0 ge_q9
  have B0 := own_extW B0 W1538 (Nat.le_trans qH ge_q9)
  have u55 := own_oth u55 W1538 (Or.inr (ww hw 191 rfl)) (Or.inr (ww hw 262 rfl)) (by decide)
  have u56 := own_oth u56 W1538 (Or.inr (ww hw 204 rfl)) (Or.inr (ww hw 262 rfl)) (by decide)
  have u57 := own_oth u57 W1538 (Or.inr (ww hw 230 rfl)) (Or.inr (ww hw 262 rfl)) (by decide)
  have u58 := own_oth u58 W1538 (Or.inr (ww hw 232 rfl)) (Or.inr (ww hw 262 rfl)) (by decide)
  have u59 := own_oth u59 W1538 (Or.inr (ww hw 234 rfl)) (Or.inr (ww hw 262 rfl)) (by decide)
  have u60 := own_oth u60 W1538 (Or.inr (ww hw 236 rfl)) (Or.inr (ww hw 262 rfl)) (by decide)
  have u62 := own_oth u62 W1538 (Or.inr (ww hw 260 rfl)) (Or.inr (ww hw 262 rfl)) (by decide)
  have u63 := u63.same W1538
  have u64 := own_oth u64 W1538 (Or.inl (ww hw 281 rfl)) (Or.inr (ww hw 262 rfl)) (by decide)
  have u65 := own_oth u65 W1538 (Or.inl (ww hw 283 rfl)) (Or.inr (ww hw 262 rfl)) (by decide)
  have u66 := own_oth u66 W1538 (Or.inl (ww hw 348 rfl)) (Or.inr (ww hw 262 rfl)) (by decide)
  have u67 := own_oth u67 W1538 (Or.inl (ww hw 443 rfl)) (Or.inr (ww hw 262 rfl)) (by decide)
  have V_o22_2 := V_o22_2.other W1538 (Ne.symm ne_q9_o22_2)
  have E_o22_3 := E_o22_3.wr W1538
  have f1514 := f1514.other W1538 (Or.inl (Ne.symm ne_q9_o22_3))
  have f1515 := f1515.other W1538 (Or.inl (Ne.symm ne_q9_o22_3))
  have E_o22_4 := E_o22_4.wr W1538
  have f1522 := f1522.other W1538 (Or.inl (Ne.symm ne_q9_o22_4))
  have f1523 := f1523.other W1538 (Or.inl (Ne.symm ne_q9_o22_4))
  have V_o22_5 := V_o22_5.other W1538 (Ne.symm ne_q9_o22_5)
  have V_o22_6 := V_o22_6.other W1538 (Ne.symm ne_q9_o22_6)
  have Z0 := own_zw Z0 W1538
  have K0 := K0.wr W1538 mi_q9
  exact outV X1538 hx hlk hret (hb hby d22_131) (by rw [e1538]; exact ⟨o22_2, o22_3, o22_4, o22_5, o22_6, rfl, N0, K0, sz_o22_2, sz_o22_3, sz_o22_4, sz_o22_5, sz_o22_6, ne_o22_2_o22_3, ne_o22_2_o22_4, ne_o22_2_o22_5, ne_o22_2_o22_6, ne_o22_3_o22_4, ne_o22_3_o22_5, ne_o22_3_o22_6, ne_o22_4_o22_5, ne_o22_4_o22_6, ne_o22_5_o22_6, u55, u56, u57, u58, u59, u60, u62, u63, u64, u65, u66, u67, V_o22_2, E_o22_3, f1514, f1515, E_o22_4, f1522, f1523, V_o22_5, V_o22_6⟩) (by decide) (by decide)
theorem d35_0 : decode prog_18_method_2_code 0 = .ok (.aload_n 0, 1) := by decide +kernel
theorem d35_1 : decode prog_18_method_2_code 1 = .ok (.getfield 23, 3) := by decide +kernel
theorem d35_4 : decode prog_18_method_2_code 4 = .ok (.ireturn, 1) := by decide +kernel
set_option maxRecDepth 65536 in
set_option maxHeartbeats 40000000 in
theorem au34_size (l : Launch) (Z : State) (a0 : Array Value) (hw : ∀ d ∈ tables_1, d.before a0 Z = true) (q3 : Addr) (y_46 : Int32) (h0 : Heap) (n0 : Nat) (Z0 : n0 ≤ h0.size) (u46 : Fld Z h0 q3 sn4 "size" "I" (.int y_46)) :
    Does l mn21 prog_18_method_2_code 1 (some .int) [] ({ frames := 0, cells := 0, slots := 0, locals := 0 } : Room) Z #[(.ref q3)] h0 (fun v h L => v = some (.int y_46) ∧ Fr n0 L ∧ h = h0) := by
  refine Does.of (plainFor_of_name pn4) ?_
  intro p e s m below meth c s₁ hx hby hml hret hlk hZ hown hnm X0 e0
  have N0 := Fr.nil n0
  refine Goes.cast (g' := mkF m 0 #[SA q3] []) (ef_au0_now m q3) ?_
  have K0 := Keep.refl h0 []
  refine gb s₁ (mkF m 1 #[SA q3] [(.ref q3)]) (fun _ k => XS.aloadN X0.here hx rfl (hb hby d35_0) rfl rfl k) ?_
  refine own_g1 (getF X0 hx hZ hown (host := "") (Or.inl (ww hw 128 rfl)) Via.refl e0 u46 rfl rfl (hb hby d35_1)) fun T1581 X1581 e1581 => ?_
  exact outI X1581 hx hlk hret (hb hby d35_4) (by rw [e1581]; exact ⟨rfl, N0, rfl⟩) (by decide) (by decide)
theorem d36_0 : decode prog_18_method_4_code 0 = .ok (.aload_n 0, 1) := by decide +kernel
theorem d36_1 : decode prog_18_method_4_code 1 = .ok (.getfield 11, 3) := by decide +kernel
theorem d36_4 : decode prog_18_method_4_code 4 = .ok (.ifnull 10, 3) := by decide +kernel
theorem d36_7 : decode prog_18_method_4_code 7 = .ok (.aload_n 0, 1) := by decide +kernel
theorem d36_8 : decode prog_18_method_4_code 8 = .ok (.getfield 11, 3) := by decide +kernel
theorem d36_11 : decode prog_18_method_4_code 11 = .ok (.iconst 0, 1) := by decide +kernel
theorem d36_12 : decode prog_18_method_4_code 12 = .ok (.aaload, 1) := by decide +kernel
theorem d36_13 : decode prog_18_method_4_code 13 = .ok (.areturn, 1) := by decide +kernel
theorem ef_au35_first (m : MethodId) (x0 : Addr) : entryFrame m #[(.ref x0)] 7 = mkF m 0 #[SA x0, SU, SU, SU, SU, SU, SU] [] := by first | (simp [entryFrame, mkF, argsToLocals, Value.category, maxLocals]; done) | rfl
set_option maxRecDepth 65536 in
set_option maxHeartbeats 40000000 in
theorem au35_first (l : Launch) (Z : State) (a0 : Array Value) (hw : ∀ d ∈ tables_1, d.before a0 Z = true) (q3 q4 q7 q8 : Addr) (h0 : Heap) (n0 : Nat) (Z0 : n0 ≤ h0.size) (u45 : Fld Z h0 q3 sn4 "heap" sn10 (.ref q4)) (u48 : Sar Z h0 q4 (.object sn1) [(.ref q7), (.ref q8), .null, .null, .null, .null, .null, .null, .null, .null, .null, .null, .null, .null, .null, .null, .null]) :
    Does l mn22 prog_18_method_4_code 7 (some (.object sn1)) [] ({ frames := 0, cells := 0, slots := 0, locals := 0 } : Room) Z #[(.ref q3)] h0 (fun v h L => v = some (.ref q7) ∧ Fr n0 L ∧ h = h0) := by
  refine Does.of (plainFor_of_name pn4) ?_
  intro p e s m below meth c s₁ hx hby hml hret hlk hZ hown hnm X0 e0
  have N0 := Fr.nil n0
  refine Goes.cast (g' := mkF m 0 #[SA q3, SU, SU, SU, SU, SU, SU] []) (ef_au35_first m q3) ?_
  have K0 := Keep.refl h0 []
  refine gb s₁ (mkF m 1 #[SA q3, SU, SU, SU, SU, SU, SU] [(.ref q3)]) (fun _ k => XS.aloadN X0.here hx rfl (hb hby d36_0) rfl rfl k) ?_
  refine own_g1 (getF X0 hx hZ hown (host := "") (Or.inl (ww hw 47 rfl)) Via.refl e0 u45 rfl rfl (hb hby d36_1)) fun T1594 X1594 e1594 => ?_
  refine gb T1594 (mkF m 7 #[SA q3, SU, SU, SU, SU, SU, SU] []) (fun _ k => XS.ifnullNo X1594.here hx rfl (hb hby d36_4) rfl k) ?_
  refine gb T1594 (mkF m 8 #[SA q3, SU, SU, SU, SU, SU, SU] [(.ref q3)]) (fun _ k => XS.aloadN X1594.here hx rfl (hb hby d36_7) rfl rfl k) ?_
  refine own_g1 (getF X1594 hx hZ hown (host := "") (Or.inl (ww hw 47 rfl)) Via.refl e1594 u45 rfl rfl (hb hby d36_8)) fun T1595 X1595 e1595 => ?_
  refine gb T1595 (mkF m 12 #[SA q3, SU, SU, SU, SU, SU, SU] [(.int (0 : Int32)), (.ref q4)]) (fun _ k => XS.iconst X1595.here hx rfl (hb hby d36_11)  k) ?_
  refine gb T1595 (mkF m 13 #[SA q3, SU, SU, SU, SU, SU, SU] [(.ref q7)]) (ldAS X1595 hx hZ e1595 u48 rfl (v := (.ref q7)) (j := (0 : Int32)) 0 (by decide) rfl (g := (mkF m 12 #[SA q3, SU, SU, SU, SU, SU, SU] [(.int (0 : Int32)), (.ref q4)])) rfl rfl (hb hby d36_12)) ?_
  exact outA X1595 hx hlk hret rfl rfl rfl (hb hby d36_13) (by rw [e1595]; exact ⟨rfl, N0, rfl⟩) (by decide) (by decide)
theorem d37_0 : decode prog_15_method_5_code 0 = .ok (.aload_n 0, 1) := by decide +kernel
theorem d37_1 : decode prog_15_method_5_code 1 = .ok (.getfield 23, 3) := by decide +kernel
theorem d37_4 : decode prog_15_method_5_code 4 = .ok (.aload_n 0, 1) := by decide +kernel
theorem d37_5 : decode prog_15_method_5_code 5 = .ok (.getfield 20, 3) := by decide +kernel
theorem d37_8 : decode prog_15_method_5_code 8 = .ok (.lcmp, 1) := by decide +kernel
theorem d37_9 : decode prog_15_method_5_code 9 = .ok (.ifCond .lt 9, 3) := by decide +kernel
theorem d37_18 : decode prog_15_method_5_code 18 = .ok (.aload_n 0, 1) := by decide +kernel
theorem d37_19 : decode prog_15_method_5_code 19 = .ok (.dup, 1) := by decide +kernel
theorem d37_20 : decode prog_15_method_5_code 20 = .ok (.getfield 23, 3) := by decide +kernel
theorem d37_23 : decode prog_15_method_5_code 23 = .ok (.lconst 1, 1) := by decide +kernel
theorem d37_24 : decode prog_15_method_5_code 24 = .ok (.ladd, 1) := by decide +kernel
theorem d37_25 : decode prog_15_method_5_code 25 = .ok (.putfield 23, 3) := by decide +kernel
theorem d37_28 : decode prog_15_method_5_code 28 = .ok (.return_, 1) := by decide +kernel
theorem ef_au36_spend (m : MethodId) (x0 : Addr) (x1 : UInt64) : entryFrame m #[(.ref x0), (.double x1)] 3 = mkF m 0 #[SA x0, SD x1, S2] [] := by first | (simp [entryFrame, mkF, argsToLocals, Value.category, maxLocals]; done) | rfl
set_option maxRecDepth 65536 in
set_option maxHeartbeats 40000000 in
theorem au36_spend (l : Launch) (Z : State) (a0 : Array Value) (hw : ∀ d ∈ tables_1, d.before a0 Z = true) (q1 : Addr) (y_a1 : UInt64) (h0 : Heap) (n0 : Nat) (Z0 : n0 ≤ h0.size) (u22 : Exa Z h0 q1 sn5) (u23 : Fld Z h0 q1 sn5 "allowed" "J" (.long (1000 : Int64))) (u24 : Fld Z h0 q1 sn5 "spent" "J" (.long (0 : Int64))) (ge_q1 : n0 ≤ q1) :
    Does l mn23 prog_15_method_5_code 3 none [] ({ frames := 0, cells := 0, slots := 0, locals := 0 } : Room) Z #[(.ref q1), (.double y_a1)] h0 (fun v h L => v = none ∧ Fr n0 L ∧ Keep h0 h [q1] ∧ Fld Z h q1 sn5 "allowed" "J" (.long (1000 : Int64)) ∧ Fld Z h q1 sn5 "spent" "J" (.long (1 : Int64))) := by
  refine Does.of (plainFor_of_name pn3) ?_
  intro p e s m below meth c s₁ hx hby hml hret hlk hZ hown hnm X0 e0
  have N0 := Fr.nil n0
  refine Goes.cast (g' := mkF m 0 #[SA q1, SD y_a1, S2] []) (ef_au36_spend m q1 y_a1) ?_
  have mi_q1 : q1 ∈ [q1] ∨ h0.size ≤ q1 := (Or.inl (List.mem_cons_self ..))
  have K0 := Keep.refl h0 [q1]
  refine gb s₁ (mkF m 1 #[SA q1, SD y_a1, S2] [(.ref q1)]) (fun _ k => XS.aloadN X0.here hx rfl (hb hby d37_0) rfl rfl k) ?_
  refine own_g1 (getF X0 hx hZ hown (host := "") (Or.inl (ww hw 24 rfl)) Via.refl e0 u24 rfl rfl (hb hby d37_1)) fun T1638 X1638 e1638 => ?_
  refine gb T1638 (mkF m 5 #[SA q1, SD y_a1, S2] [(.ref q1), (.long (0 : Int64))]) (fun _ k => XS.aloadN X1638.here hx rfl (hb hby d37_4) rfl rfl k) ?_
  refine own_g1 (getF X1638 hx hZ hown (host := "") (Or.inl (ww hw 22 rfl)) Via.refl e1638 u23 rfl rfl (hb hby d37_5)) fun T1639 X1639 e1639 => ?_
  refine gb T1639 (mkF m 9 #[SA q1, SD y_a1, S2] [(.int (-1 : Int32))]) (fun _ k => XS.lcmpS X1639.here hx rfl (hb hby d37_8) rfl (by decide) k) ?_
  refine gb T1639 (mkF m 18 #[SA q1, SD y_a1, S2] []) (fun _ k => XS.ifYes X1639.here hx rfl (pc0 := 9) (pc' := 18) rfl (hb hby d37_9) rfl (by decide) (by decide) (by decide) k) ?_
  refine gb T1639 (mkF m 20 #[SA q1, SD y_a1, S2] [(.ref q1), (.ref q1)]) (fun _ k => XS.aloadN X1639.here hx rfl (hb hby d37_18) rfl rfl (XS.dup X1639.here hx rfl (hb hby d37_19) rfl rfl k)) ?_
  refine own_g1 (getF X1639 hx hZ hown (host := "") (Or.inl (ww hw 24 rfl)) Via.refl e1639 u24 rfl rfl (hb hby d37_20)) fun T1640 X1640 e1640 => ?_
  refine gb T1640 (mkF m 24 #[SA q1, SD y_a1, S2] [(.long (1 : Int64)), (.long (0 : Int64)), (.ref q1)]) (fun _ k => XS.lconst X1640.here hx rfl (hb hby d37_23)  k) ?_
  refine gb T1640 (mkF m 25 #[SA q1, SD y_a1, S2] [(.long (1 : Int64)), (.ref q1)]) (fun _ k => XS.ladd X1640.here hx rfl (hb hby d37_24) rfl k) ?_
  refine own_p1 (putF X1640 hx hZ hown (host := "") (Or.inl (ww hw 24 rfl)) Via.refl e1640 u24 u22 (Or.inl (ww hw 25 rfl)) (ww hw 6 rfl) (ty := .long) (by decide) rfl rfl rfl rfl (hb hby d37_25)) fun T1641 h1641 X1641 e1641 W1641 => ?_
  have N0 := Fr.snoc X1641 N0 ge_q1
  have u23 := own_oth u23 W1641 (Or.inl (ww hw 23 rfl)) (Or.inl (ww hw 25 rfl)) (by decide)
  have u24 := u24.same W1641
  have Z0 := own_zw Z0 W1641
  have K0 := K0.wr W1641 mi_q1
  exact outV X1641 hx hlk hret (hb hby d37_28) (by rw [e1641]; exact ⟨rfl, N0, K0, u23, u24⟩) (by decide) (by decide)
set_option maxRecDepth 65536 in
set_option maxHeartbeats 40000000 in
theorem au37_place (l : Launch) (Z : State) (a0 : Array Value) (hw : ∀ d ∈ tables_1, d.before a0 Z = true) (q3 q8 q4 q7 q5 : Addr) (y_48 y_49 y_51 : Int64) (y_50 : UInt64) (h0 : Heap) (n0 : Nat) (Z0 : n0 ≤ h0.size) (u25 : OvS Z h0 q4 sn1) (u38 : Exa Z h0 q8 sn3) (u43 : Fld Z h0 q3 sn4 "heap" sn10 (.ref q4)) (u46 : Sar Z h0 q4 (.object sn1) [(.ref q7), .null, .null, .null, .null, .null, .null, .null, .null, .null, .null, .null, .null, .null, .null, .null, .null]) (u47 : Fld Z h0 q8 sn3 "this$0" sn6 (.ref q5)) (u48 : Fld Z h0 q8 sn1 "place" "J" (.long y_48)) (u49 : Fld Z h0 q8 sn3 "insideAfter" "J" (.long y_49)) (u50 : Fld Z h0 q8 sn1 "time" "D" (.double y_50)) (u51 : Fld Z h0 q8 sn1 "sequence" "J" (.long y_51)) (ne_q4_q8 : q4 ≠ q8) (ge_q4 : n0 ≤ q4) (ge_q8 : n0 ≤ q8) :
    Does l mn11 prog_18_method_12_code 3 none [] ({ frames := 0, cells := 0, slots := 0, locals := 0 } : Room) Z #[(.ref q3), (.ref q8), (.int (0 : Int32))] h0 (fun v h L => v = none ∧ Fr n0 L ∧ Keep h0 h [q4, q8] ∧ Sar Z h q4 (.object sn1) [(.ref q8), .null, .null, .null, .null, .null, .null, .null, .null, .null, .null, .null, .null, .null, .null, .null, .null] ∧ Fld Z h q8 sn3 "this$0" sn6 (.ref q5) ∧ Fld Z h q8 sn1 "place" "J" (.long (0 : Int64)) ∧ Fld Z h q8 sn3 "insideAfter" "J" (.long y_49) ∧ Fld Z h q8 sn1 "time" "D" (.double y_50) ∧ Fld Z h q8 sn1 "sequence" "J" (.long y_51)) := by
  refine Does.of (plainFor_of_name pn4) ?_
  intro p e s m below meth c s₁ hx hby hml hret hlk hZ hown hnm X0 e0
  have N0 := Fr.nil n0
  refine Goes.cast (g' := mkF m 0 #[SA q3, SA q8, SI 0] []) (ef_au5_init m q3 q8 (0 : Int32)) ?_
  have mi_q4 : q4 ∈ [q4, q8] ∨ h0.size ≤ q4 := (Or.inl (List.mem_cons_self ..))
  have mi_q8 : q8 ∈ [q4, q8] ∨ h0.size ≤ q8 := (Or.inl (List.mem_cons_of_mem _ (List.mem_cons_self ..)))
  have K0 := Keep.refl h0 [q4, q8]
  refine gb s₁ (mkF m 1 #[SA q3, SA q8, SI 0] [(.ref q3)]) (fun _ k => XS.aloadN X0.here hx rfl (hb hby d18_0) rfl rfl k) ?_
  refine own_g1 (getF X0 hx hZ hown (host := "") (Or.inl (ww hw 47 rfl)) Via.refl e0 u43 rfl rfl (hb hby d18_1)) fun T1680 X1680 e1680 => ?_
  refine gb T1680 (mkF m 6 #[SA q3, SA q8, SI 0] [(.ref q8), (.int (0 : Int32)), (.ref q4)]) (fun _ k => XS.iloadN X1680.here hx rfl (hb hby d18_4) rfl (XS.aloadN X1680.here hx rfl (hb hby d18_5) rfl rfl k)) ?_
  obtain ⟨T1681, h1681, X1681, e1681, W1681, V1681, st1681⟩ := stAS X1680 hx hZ e1680 u46 rfl (j := (0 : Int32)) 0 (by decide) (by show 0 < 17; decide) (OvS.sto u25 u46 (Ins.of_exa u38 (ww hw 138 rfl))) (g := (mkF m 6 #[SA q3, SA q8, SI 0] [(.ref q8), (.int (0 : Int32)), (.ref q4)])) rfl rfl (hb hby d18_6)
  have N0 := Fr.snoc X1681 N0 ge_q4
  have u38 := u38.wr W1681
  have u47 := u47.other W1681 (Or.inl (Ne.symm ne_q4_q8))
  have u48 := u48.other W1681 (Or.inl (Ne.symm ne_q4_q8))
  have u49 := u49.other W1681 (Or.inl (Ne.symm ne_q4_q8))
  have u50 := u50.other W1681 (Or.inl (Ne.symm ne_q4_q8))
  have u51 := u51.other W1681 (Or.inl (Ne.symm ne_q4_q8))
  have Z0 := own_zw Z0 W1681
  have K0 := K0.wr W1681 mi_q4
  have u46 : Sar Z h1681 q4 (.object sn1) [(.ref q8), .null, .null, .null, .null, .null, .null, .null, .null, .null, .null, .null, .null, .null, .null, .null, .null] := V1681
  refine gb T1681 (mkF m 7 #[SA q3, SA q8, SI 0] []) st1681 ?_
  refine gb T1681 (mkF m 9 #[SA q3, SA q8, SI 0] [(.int (0 : Int32)), (.ref q8)]) (fun _ k => XS.aloadN X1681.here hx rfl (hb hby d18_7) rfl rfl (XS.iloadN X1681.here hx rfl (hb hby d18_8) rfl k)) ?_
  refine gb T1681 (mkF m 10 #[SA q3, SA q8, SI 0] [(.long (0 : Int64)), (.ref q8)]) (fun _ k => XS.i2l X1681.here hx rfl (hb hby d18_9) rfl k) ?_
  refine own_p1 (putF X1681 hx hZ hown (host := "") (Or.inl (ww hw 139 rfl)) Via.refl e1681 u48 u38 (Or.inl (ww hw 97 rfl)) (ww hw 82 rfl) (ty := .long) (by decide) rfl rfl rfl rfl (hb hby d18_10)) fun T1682 h1682 X1682 e1682 W1682 => ?_
  have N0 := Fr.snoc X1682 N0 ge_q8
  have u46 := u46.other W1682 ne_q4_q8
  have u47 := own_oth u47 W1682 (Or.inr (ww hw 88 rfl)) (Or.inl (ww hw 97 rfl)) (by decide)
  have u48 := u48.same W1682
  have u49 := own_oth u49 W1682 (Or.inr (ww hw 99 rfl)) (Or.inl (ww hw 97 rfl)) (by decide)
  have u50 := own_oth u50 W1682 (Or.inl (ww hw 118 rfl)) (Or.inl (ww hw 97 rfl)) (by decide)
  have u51 := own_oth u51 W1682 (Or.inl (ww hw 122 rfl)) (Or.inl (ww hw 97 rfl)) (by decide)
  have Z0 := own_zw Z0 W1682
  have K0 := K0.wr W1682 mi_q8
  exact outV X1682 hx hlk hret (hb hby d18_13) (by rw [e1682]; exact ⟨rfl, N0, K0, u46, u47, u48, u49, u50, u51⟩) (by decide) (by decide)
theorem d39_0 : decode prog_18_method_11_code 0 = .ok (.aload_n 0, 1) := by decide +kernel
theorem d39_1 : decode prog_18_method_11_code 1 = .ok (.getfield 23, 3) := by decide +kernel
theorem d39_4 : decode prog_18_method_11_code 4 = .ok (.iconst 1, 1) := by decide +kernel
theorem d39_5 : decode prog_18_method_11_code 5 = .ok (.iushr, 1) := by decide +kernel
theorem d39_6 : decode prog_18_method_11_code 6 = .ok (.istore_n 3, 1) := by decide +kernel
theorem d39_7 : decode prog_18_method_11_code 7 = .ok (.iload_n 1, 1) := by decide +kernel
theorem d39_8 : decode prog_18_method_11_code 8 = .ok (.iload_n 3, 1) := by decide +kernel
theorem d39_9 : decode prog_18_method_11_code 9 = .ok (.if_icmp .ge 84, 3) := by decide +kernel
theorem d39_93 : decode prog_18_method_11_code 93 = .ok (.aload_n 0, 1) := by decide +kernel
theorem d39_94 : decode prog_18_method_11_code 94 = .ok (.aload_n 2, 1) := by decide +kernel
theorem d39_95 : decode prog_18_method_11_code 95 = .ok (.iload_n 1, 1) := by decide +kernel
theorem d39_96 : decode prog_18_method_11_code 96 = .ok (.invokevirtual 93, 3) := by decide +kernel
theorem d39_99 : decode prog_18_method_11_code 99 = .ok (.return_, 1) := by decide +kernel
theorem ef_au38_siftDown (m : MethodId) (x0 : Addr) (x1 : Int32) (x2 : Addr) : entryFrame m #[(.ref x0), (.int x1), (.ref x2)] 6 = mkF m 0 #[SA x0, SI x1, SA x2, SU, SU, SU] [] := by first | (simp [entryFrame, mkF, argsToLocals, Value.category, maxLocals]; done) | rfl
set_option maxRecDepth 65536 in
set_option maxHeartbeats 40000000 in
theorem au38_siftDown (l : Launch) (Z : State) (a0 : Array Value) (hw : ∀ d ∈ tables_1, d.before a0 Z = true) (q3 q8 q4 q7 q5 : Addr) (y_48 y_49 y_51 : Int64) (y_50 : UInt64) (h0 : Heap) (n0 : Nat) (Z0 : n0 ≤ h0.size) (u24 : Exa Z h0 q3 sn4) (u25 : OvS Z h0 q4 sn1) (u38 : Exa Z h0 q8 sn3) (u43 : Fld Z h0 q3 sn4 "heap" sn10 (.ref q4)) (u44 : Fld Z h0 q3 sn4 "size" "I" (.int (1 : Int32))) (u46 : Sar Z h0 q4 (.object sn1) [(.ref q7), .null, .null, .null, .null, .null, .null, .null, .null, .null, .null, .null, .null, .null, .null, .null, .null]) (u47 : Fld Z h0 q8 sn3 "this$0" sn6 (.ref q5)) (u48 : Fld Z h0 q8 sn1 "place" "J" (.long y_48)) (u49 : Fld Z h0 q8 sn3 "insideAfter" "J" (.long y_49)) (u50 : Fld Z h0 q8 sn1 "time" "D" (.double y_50)) (u51 : Fld Z h0 q8 sn1 "sequence" "J" (.long y_51)) (ne_q4_q8 : q4 ≠ q8) (ge_q4 : n0 ≤ q4) (ge_q8 : n0 ≤ q8) :
    Does l mn46 prog_18_method_11_code 6 none [] ({ frames := 1, cells := 0, slots := 0, locals := 14 } : Room) Z #[(.ref q3), (.int (0 : Int32)), (.ref q8)] h0 (fun v h L => v = none ∧ Fr n0 L ∧ Keep h0 h [q4, q8] ∧ Sar Z h q4 (.object sn1) [(.ref q8), .null, .null, .null, .null, .null, .null, .null, .null, .null, .null, .null, .null, .null, .null, .null, .null] ∧ Fld Z h q8 sn3 "this$0" sn6 (.ref q5) ∧ Fld Z h q8 sn1 "place" "J" (.long (0 : Int64)) ∧ Fld Z h q8 sn3 "insideAfter" "J" (.long y_49) ∧ Fld Z h q8 sn1 "time" "D" (.double y_50) ∧ Fld Z h q8 sn1 "sequence" "J" (.long y_51)) := by
  refine Does.of (plainFor_of_name pn4) ?_
  intro p e s m below meth c s₁ hx hby hml hret hlk hZ hown hnm X0 e0
  have N0 := Fr.nil n0
  refine Goes.cast (g' := mkF m 0 #[SA q3, SI 0, SA q8, SU, SU, SU] []) (ef_au38_siftDown m q3 (0 : Int32) q8) ?_
  have mi_q4 : q4 ∈ [q4, q8] ∨ h0.size ≤ q4 := (Or.inl (List.mem_cons_self ..))
  have mi_q8 : q8 ∈ [q4, q8] ∨ h0.size ≤ q8 := (Or.inl (List.mem_cons_of_mem _ (List.mem_cons_self ..)))
  have K0 := Keep.refl h0 [q4, q8]
  refine gb s₁ (mkF m 1 #[SA q3, SI 0, SA q8, SU, SU, SU] [(.ref q3)]) (fun _ k => XS.aloadN X0.here hx rfl (hb hby d39_0) rfl rfl k) ?_
  refine own_g1 (getF X0 hx hZ hown (host := "") (Or.inl (ww hw 128 rfl)) Via.refl e0 u44 rfl rfl (hb hby d39_1)) fun T1706 X1706 e1706 => ?_
  refine gb T1706 (mkF m 5 #[SA q3, SI 0, SA q8, SU, SU, SU] [(.int (1 : Int32)), (.int (1 : Int32))]) (fun _ k => XS.iconst X1706.here hx rfl (hb hby d39_4)  k) ?_
  refine gb T1706 (mkF m 6 #[SA q3, SI 0, SA q8, SU, SU, SU] [(.int (0 : Int32))]) (fun _ k => XS.iushr X1706.here hx rfl (hb hby d39_5) rfl k) ?_
  refine gb T1706 (mkF m 9 #[SA q3, SI 0, SA q8, SI 0, SU, SU] [(.int (0 : Int32)), (.int (0 : Int32))]) (fun _ k => XS.istoreN X1706.here hx rfl (hb hby d39_6) rfl (l' := #[SA q3, SI 0, SA q8, SI 0, SU, SU]) rfl (XS.iloadN X1706.here hx rfl (hb hby d39_7) rfl (XS.iloadN X1706.here hx rfl (hb hby d39_8) rfl k))) ?_
  refine gb T1706 (mkF m 93 #[SA q3, SI 0, SA q8, SI 0, SU, SU] []) (fun _ k => XS.icmpYes X1706.here hx rfl (pc0 := 9) (pc' := 93) rfl (hb hby d39_9) rfl (by decide) (by decide) (by decide) k) ?_
  refine gb T1706 (mkF m 96 #[SA q3, SI 0, SA q8, SI 0, SU, SU] [(.int (0 : Int32)), (.ref q8), (.ref q3)]) (fun _ k => XS.aloadN X1706.here hx rfl (hb hby d39_93) rfl rfl (XS.aloadN X1706.here hx rfl (hb hby d39_94) rfl rfl (XS.iloadN X1706.here hx rfl (hb hby d39_95) rfl k))) ?_
  refine own_c1 (callP X1706 hx hZ (y := mn11) hown (ww hw 134 rfl) (ww hw 135 rfl) (ww hw 136 rfl) (ww hw 137 rfl) (ww hw 40 rfl) (ww hw 39 rfl) (by decide) e1706 u24 (argsL := [(.ref q8), (.int (0 : Int32))]) (rest := []) (W := 0) (au37_place l Z a0 hw q3 q8 q4 q7 q5 y_48 y_49 y_51 y_50 h0 n0 Z0 u25 u38 u43 u46 u47 u48 u49 u50 u51 ne_q4_q8 ge_q4 ge_q8) rfl (by decide) (by decide) (by decide) (by decide) rfl (by rw [hml]; rfl) (lenOf pd10 rfl) rfl (by show 2 * 0 + _ ≤ _; exact Nat.le_of_eq rfl) (hb hby d39_96)) fun v1713 T1713 L1713 X1713 hQ1713 => ?_
  obtain ⟨rfl, NL1713, K1713, f1707, f1708, f1709, f1710, f1711, f1712⟩ := hQ1713
  have N0 := Fr.app N0 NL1713
  have e1713 : T1713.heap = T1713.heap := rfl
  have Z0 := Nat.le_trans Z0 K1713.1
  have K0 := K0.trans K1713 (allS mi_q4 (allS mi_q8 all0))
  exact outV X1713 hx hlk hret (hb hby d39_99) (by rw [e1713]; exact ⟨rfl, N0, K0, f1707, f1708, f1709, f1710, f1711, f1712⟩) (by decide) (by decide)
theorem d38_0 : decode prog_18_method_5_code 0 = .ok (.aload_n 0, 1) := by decide +kernel
theorem d38_1 : decode prog_18_method_5_code 1 = .ok (.aload_n 1, 1) := by decide +kernel
theorem d38_2 : decode prog_18_method_5_code 2 = .ok (.getfield 58, 3) := by decide +kernel
theorem d38_5 : decode prog_18_method_5_code 5 = .ok (.putfield 61, 3) := by decide +kernel
theorem d38_8 : decode prog_18_method_5_code 8 = .ok (.aload_n 0, 1) := by decide +kernel
theorem d38_9 : decode prog_18_method_5_code 9 = .ok (.getfield 11, 3) := by decide +kernel
theorem d38_12 : decode prog_18_method_5_code 12 = .ok (.ifnonnull 9, 3) := by decide +kernel
theorem d38_21 : decode prog_18_method_5_code 21 = .ok (.aload_n 0, 1) := by decide +kernel
theorem d38_22 : decode prog_18_method_5_code 22 = .ok (.dup, 1) := by decide +kernel
theorem d38_23 : decode prog_18_method_5_code 23 = .ok (.getfield 23, 3) := by decide +kernel
theorem d38_26 : decode prog_18_method_5_code 26 = .ok (.iconst 1, 1) := by decide +kernel
theorem d38_27 : decode prog_18_method_5_code 27 = .ok (.isub, 1) := by decide +kernel
theorem d38_28 : decode prog_18_method_5_code 28 = .ok (.putfield 23, 3) := by decide +kernel
theorem d38_31 : decode prog_18_method_5_code 31 = .ok (.aload_n 1, 1) := by decide +kernel
theorem d38_32 : decode prog_18_method_5_code 32 = .ok (.ldc2_w 67, 3) := by decide +kernel
theorem d38_35 : decode prog_18_method_5_code 35 = .ok (.putfield 48, 3) := by decide +kernel
theorem d38_38 : decode prog_18_method_5_code 38 = .ok (.aload_n 0, 1) := by decide +kernel
theorem d38_39 : decode prog_18_method_5_code 39 = .ok (.getfield 11, 3) := by decide +kernel
theorem d38_42 : decode prog_18_method_5_code 42 = .ok (.aload_n 0, 1) := by decide +kernel
theorem d38_43 : decode prog_18_method_5_code 43 = .ok (.getfield 23, 3) := by decide +kernel
theorem d38_46 : decode prog_18_method_5_code 46 = .ok (.aaload, 1) := by decide +kernel
theorem d38_47 : decode prog_18_method_5_code 47 = .ok (.astore_n 2, 1) := by decide +kernel
theorem d38_48 : decode prog_18_method_5_code 48 = .ok (.aload_n 0, 1) := by decide +kernel
theorem d38_49 : decode prog_18_method_5_code 49 = .ok (.getfield 11, 3) := by decide +kernel
theorem d38_52 : decode prog_18_method_5_code 52 = .ok (.aload_n 0, 1) := by decide +kernel
theorem d38_53 : decode prog_18_method_5_code 53 = .ok (.getfield 23, 3) := by decide +kernel
theorem d38_56 : decode prog_18_method_5_code 56 = .ok (.aconst_null, 1) := by decide +kernel
theorem d38_57 : decode prog_18_method_5_code 57 = .ok (.aastore, 1) := by decide +kernel
theorem d38_58 : decode prog_18_method_5_code 58 = .ok (.aload_n 0, 1) := by decide +kernel
theorem d38_59 : decode prog_18_method_5_code 59 = .ok (.getfield 23, 3) := by decide +kernel
theorem d38_62 : decode prog_18_method_5_code 62 = .ok (.ifCond .le 9, 3) := by decide +kernel
theorem d38_65 : decode prog_18_method_5_code 65 = .ok (.aload_n 0, 1) := by decide +kernel
theorem d38_66 : decode prog_18_method_5_code 66 = .ok (.iconst 0, 1) := by decide +kernel
theorem d38_67 : decode prog_18_method_5_code 67 = .ok (.aload_n 2, 1) := by decide +kernel
theorem d38_68 : decode prog_18_method_5_code 68 = .ok (.invokevirtual 69, 3) := by decide +kernel
theorem d38_71 : decode prog_18_method_5_code 71 = .ok (.return_, 1) := by decide +kernel
theorem ef_au39_take (m : MethodId) (x0 : Addr) (x1 : Addr) : entryFrame m #[(.ref x0), (.ref x1)] 3 = mkF m 0 #[SA x0, SA x1, SU] [] := by first | (simp [entryFrame, mkF, argsToLocals, Value.category, maxLocals]; done) | rfl
set_option maxRecDepth 65536 in
set_option maxHeartbeats 40000000 in
theorem au39_take (l : Launch) (Z : State) (a0 : Array Value) (hw : ∀ d ∈ tables_1, d.before a0 Z = true) (q3 q7 q4 q5 q8 : Addr) (y_34 y_35 y_37 y_48 y_49 y_51 : Int64) (y_36 y_45 y_50 : UInt64) (h0 : Heap) (n0 : Nat) (Z0 : n0 ≤ h0.size) (u24 : Exa Z h0 q3 sn4) (u25 : OvS Z h0 q4 sn1) (u32 : Exa Z h0 q7 sn3) (u33 : Fld Z h0 q7 sn3 "this$0" sn6 (.ref q5)) (u34 : Fld Z h0 q7 sn1 "place" "J" (.long y_34)) (u35 : Fld Z h0 q7 sn3 "insideAfter" "J" (.long y_35)) (u36 : Fld Z h0 q7 sn1 "time" "D" (.double y_36)) (u37 : Fld Z h0 q7 sn1 "sequence" "J" (.long y_37)) (u38 : Exa Z h0 q8 sn3) (u43 : Fld Z h0 q3 sn4 "heap" sn10 (.ref q4)) (u44 : Fld Z h0 q3 sn4 "size" "I" (.int (2 : Int32))) (u45 : Fld Z h0 q3 sn4 "floor" "D" (.double y_45)) (u46 : Sar Z h0 q4 (.object sn1) [(.ref q7), (.ref q8), .null, .null, .null, .null, .null, .null, .null, .null, .null, .null, .null, .null, .null, .null, .null]) (u47 : Fld Z h0 q8 sn3 "this$0" sn6 (.ref q5)) (u48 : Fld Z h0 q8 sn1 "place" "J" (.long y_48)) (u49 : Fld Z h0 q8 sn3 "insideAfter" "J" (.long y_49)) (u50 : Fld Z h0 q8 sn1 "time" "D" (.double y_50)) (u51 : Fld Z h0 q8 sn1 "sequence" "J" (.long y_51)) (ne_q3_q4 : q3 ≠ q4) (ne_q3_q7 : q3 ≠ q7) (ne_q3_q8 : q3 ≠ q8) (ne_q4_q7 : q4 ≠ q7) (ne_q4_q8 : q4 ≠ q8) (ne_q7_q8 : q7 ≠ q8) (ge_q3 : n0 ≤ q3) (ge_q4 : n0 ≤ q4) (ge_q7 : n0 ≤ q7) (ge_q8 : n0 ≤ q8) :
    Does l mn24 prog_18_method_5_code 3 none [] ({ frames := 2, cells := 0, slots := 0, locals := 31 } : Room) Z #[(.ref q3), (.ref q7)] h0 (fun v h L => v = none ∧ Fr n0 L ∧ Keep h0 h [q3, q4, q7, q8] ∧ Fld Z h q7 sn3 "this$0" sn6 (.ref q5) ∧ Fld Z h q7 sn1 "place" "J" (.long (-1 : Int64)) ∧ Fld Z h q7 sn3 "insideAfter" "J" (.long y_35) ∧ Fld Z h q7 sn1 "time" "D" (.double y_36) ∧ Fld Z h q7 sn1 "sequence" "J" (.long y_37) ∧ Fld Z h q3 sn4 "heap" sn10 (.ref q4) ∧ Fld Z h q3 sn4 "size" "I" (.int (1 : Int32)) ∧ Fld Z h q3 sn4 "floor" "D" (.double y_36) ∧ Sar Z h q4 (.object sn1) [(.ref q8), .null, .null, .null, .null, .null, .null, .null, .null, .null, .null, .null, .null, .null, .null, .null, .null] ∧ Fld Z h q8 sn3 "this$0" sn6 (.ref q5) ∧ Fld Z h q8 sn1 "place" "J" (.long (0 : Int64)) ∧ Fld Z h q8 sn3 "insideAfter" "J" (.long y_49) ∧ Fld Z h q8 sn1 "time" "D" (.double y_50) ∧ Fld Z h q8 sn1 "sequence" "J" (.long y_51)) := by
  refine Does.of (plainFor_of_name pn4) ?_
  intro p e s m below meth c s₁ hx hby hml hret hlk hZ hown hnm X0 e0
  have N0 := Fr.nil n0
  refine Goes.cast (g' := mkF m 0 #[SA q3, SA q7, SU] []) (ef_au39_take m q3 q7) ?_
  have mi_q3 : q3 ∈ [q3, q4, q7, q8] ∨ h0.size ≤ q3 := (Or.inl (List.mem_cons_self ..))
  have mi_q4 : q4 ∈ [q3, q4, q7, q8] ∨ h0.size ≤ q4 := (Or.inl (List.mem_cons_of_mem _ (List.mem_cons_self ..)))
  have mi_q7 : q7 ∈ [q3, q4, q7, q8] ∨ h0.size ≤ q7 := (Or.inl (List.mem_cons_of_mem _ (List.mem_cons_of_mem _ (List.mem_cons_self ..))))
  have mi_q8 : q8 ∈ [q3, q4, q7, q8] ∨ h0.size ≤ q8 := (Or.inl (List.mem_cons_of_mem _ (List.mem_cons_of_mem _ (List.mem_cons_of_mem _ (List.mem_cons_self ..)))))
  have K0 := Keep.refl h0 [q3, q4, q7, q8]
  refine gb s₁ (mkF m 2 #[SA q3, SA q7, SU] [(.ref q7), (.ref q3)]) (fun _ k => XS.aloadN X0.here hx rfl (hb hby d38_0) rfl rfl (XS.aloadN X0.here hx rfl (hb hby d38_1) rfl rfl k)) ?_
  refine own_g1 (getF X0 hx hZ hown (host := "") (Or.inl (ww hw 160 rfl)) Via.refl e0 u36 rfl rfl (hb hby d38_2)) fun T1759 X1759 e1759 => ?_
  refine own_p1 (putF X1759 hx hZ hown (host := "") (Or.inl (ww hw 326 rfl)) Via.refl e1759 u45 u24 (Or.inl (ww hw 327 rfl)) (ww hw 39 rfl) (ty := .double) (by decide) rfl rfl rfl rfl (hb hby d38_5)) fun T1760 h1760 X1760 e1760 W1760 => ?_
  have N0 := Fr.snoc X1760 N0 ge_q3
  have u24 := u24.wr W1760
  have u25 := u25.wr W1760
  have u32 := u32.wr W1760
  have u33 := u33.other W1760 (Or.inl (Ne.symm ne_q3_q7))
  have u34 := u34.other W1760 (Or.inl (Ne.symm ne_q3_q7))
  have u35 := u35.other W1760 (Or.inl (Ne.symm ne_q3_q7))
  have u36 := u36.other W1760 (Or.inl (Ne.symm ne_q3_q7))
  have u37 := u37.other W1760 (Or.inl (Ne.symm ne_q3_q7))
  have u38 := u38.wr W1760
  have u43 := own_oth u43 W1760 (Or.inl (ww hw 48 rfl)) (Or.inl (ww hw 327 rfl)) (by decide)
  have u44 := own_oth u44 W1760 (Or.inl (ww hw 129 rfl)) (Or.inl (ww hw 327 rfl)) (by decide)
  have u45 := u45.same W1760
  have u46 := u46.other W1760 (Ne.symm ne_q3_q4)
  have u47 := u47.other W1760 (Or.inl (Ne.symm ne_q3_q8))
  have u48 := u48.other W1760 (Or.inl (Ne.symm ne_q3_q8))
  have u49 := u49.other W1760 (Or.inl (Ne.symm ne_q3_q8))
  have u50 := u50.other W1760 (Or.inl (Ne.symm ne_q3_q8))
  have u51 := u51.other W1760 (Or.inl (Ne.symm ne_q3_q8))
  have Z0 := own_zw Z0 W1760
  have K0 := K0.wr W1760 mi_q3
  refine gb T1760 (mkF m 9 #[SA q3, SA q7, SU] [(.ref q3)]) (fun _ k => XS.aloadN X1760.here hx rfl (hb hby d38_8) rfl rfl k) ?_
  refine own_g1 (getF X1760 hx hZ hown (host := "") (Or.inl (ww hw 47 rfl)) Via.refl e1760 u43 rfl rfl (hb hby d38_9)) fun T1761 X1761 e1761 => ?_
  refine gb T1761 (mkF m 21 #[SA q3, SA q7, SU] []) (fun _ k => XS.ifnonnullYes X1761.here hx rfl (pc0 := 12) (pc' := 21) rfl (hb hby d38_12) rfl (by decide) (by decide) k) ?_
  refine gb T1761 (mkF m 23 #[SA q3, SA q7, SU] [(.ref q3), (.ref q3)]) (fun _ k => XS.aloadN X1761.here hx rfl (hb hby d38_21) rfl rfl (XS.dup X1761.here hx rfl (hb hby d38_22) rfl rfl k)) ?_
  refine own_g1 (getF X1761 hx hZ hown (host := "") (Or.inl (ww hw 128 rfl)) Via.refl e1761 u44 rfl rfl (hb hby d38_23)) fun T1762 X1762 e1762 => ?_
  refine gb T1762 (mkF m 27 #[SA q3, SA q7, SU] [(.int (1 : Int32)), (.int (2 : Int32)), (.ref q3)]) (fun _ k => XS.iconst X1762.here hx rfl (hb hby d38_26)  k) ?_
  refine gb T1762 (mkF m 28 #[SA q3, SA q7, SU] [(.int (1 : Int32)), (.ref q3)]) (fun _ k => XS.isub X1762.here hx rfl (hb hby d38_27) rfl k) ?_
  refine own_p1 (putF X1762 hx hZ hown (host := "") (Or.inl (ww hw 128 rfl)) Via.refl e1762 u44 u24 (Or.inl (ww hw 129 rfl)) (ww hw 39 rfl) (ty := .int) (by decide) rfl rfl rfl rfl (hb hby d38_28)) fun T1763 h1763 X1763 e1763 W1763 => ?_
  have N0 := Fr.snoc X1763 N0 ge_q3
  have u24 := u24.wr W1763
  have u25 := u25.wr W1763
  have u32 := u32.wr W1763
  have u33 := u33.other W1763 (Or.inl (Ne.symm ne_q3_q7))
  have u34 := u34.other W1763 (Or.inl (Ne.symm ne_q3_q7))
  have u35 := u35.other W1763 (Or.inl (Ne.symm ne_q3_q7))
  have u36 := u36.other W1763 (Or.inl (Ne.symm ne_q3_q7))
  have u37 := u37.other W1763 (Or.inl (Ne.symm ne_q3_q7))
  have u38 := u38.wr W1763
  have u43 := own_oth u43 W1763 (Or.inl (ww hw 48 rfl)) (Or.inl (ww hw 129 rfl)) (by decide)
  have u44 := u44.same W1763
  have u45 := own_oth u45 W1763 (Or.inl (ww hw 327 rfl)) (Or.inl (ww hw 129 rfl)) (by decide)
  have u46 := u46.other W1763 (Ne.symm ne_q3_q4)
  have u47 := u47.other W1763 (Or.inl (Ne.symm ne_q3_q8))
  have u48 := u48.other W1763 (Or.inl (Ne.symm ne_q3_q8))
  have u49 := u49.other W1763 (Or.inl (Ne.symm ne_q3_q8))
  have u50 := u50.other W1763 (Or.inl (Ne.symm ne_q3_q8))
  have u51 := u51.other W1763 (Or.inl (Ne.symm ne_q3_q8))
  have Z0 := own_zw Z0 W1763
  have K0 := K0.wr W1763 mi_q3
  refine gb T1763 (mkF m 32 #[SA q3, SA q7, SU] [(.ref q7)]) (fun _ k => XS.aloadN X1763.here hx rfl (hb hby d38_31) rfl rfl k) ?_
  refine gb T1763 (mkF m 35 #[SA q3, SA q7, SU] [(.long (-1 : Int64)), (.ref q7)]) (X1763.ldc2Long hx hown (mvT hZ (ww hw 328 rfl)) (g := (mkF m 32 #[SA q3, SA q7, SU] [(.ref q7)])) rfl (hb hby d38_32)) ?_
  refine own_p1 (putF X1763 hx hZ hown (host := "") (Or.inl (ww hw 139 rfl)) Via.refl e1763 u34 u32 (Or.inl (ww hw 97 rfl)) (ww hw 82 rfl) (ty := .long) (by decide) rfl rfl rfl rfl (hb hby d38_35)) fun T1764 h1764 X1764 e1764 W1764 => ?_
  have N0 := Fr.snoc X1764 N0 ge_q7
  have u24 := u24.wr W1764
  have u25 := u25.wr W1764
  have u33 := own_oth u33 W1764 (Or.inr (ww hw 88 rfl)) (Or.inl (ww hw 97 rfl)) (by decide)
  have u34 := u34.same W1764
  have u35 := own_oth u35 W1764 (Or.inr (ww hw 99 rfl)) (Or.inl (ww hw 97 rfl)) (by decide)
  have u36 := own_oth u36 W1764 (Or.inl (ww hw 118 rfl)) (Or.inl (ww hw 97 rfl)) (by decide)
  have u37 := own_oth u37 W1764 (Or.inl (ww hw 122 rfl)) (Or.inl (ww hw 97 rfl)) (by decide)
  have u38 := u38.wr W1764
  have u43 := u43.other W1764 (Or.inl ne_q3_q7)
  have u44 := u44.other W1764 (Or.inl ne_q3_q7)
  have u45 := u45.other W1764 (Or.inl ne_q3_q7)
  have u46 := u46.other W1764 ne_q4_q7
  have u47 := u47.other W1764 (Or.inl (Ne.symm ne_q7_q8))
  have u48 := u48.other W1764 (Or.inl (Ne.symm ne_q7_q8))
  have u49 := u49.other W1764 (Or.inl (Ne.symm ne_q7_q8))
  have u50 := u50.other W1764 (Or.inl (Ne.symm ne_q7_q8))
  have u51 := u51.other W1764 (Or.inl (Ne.symm ne_q7_q8))
  have Z0 := own_zw Z0 W1764
  have K0 := K0.wr W1764 mi_q7
  refine gb T1764 (mkF m 39 #[SA q3, SA q7, SU] [(.ref q3)]) (fun _ k => XS.aloadN X1764.here hx rfl (hb hby d38_38) rfl rfl k) ?_
  refine own_g1 (getF X1764 hx hZ hown (host := "") (Or.inl (ww hw 47 rfl)) Via.refl e1764 u43 rfl rfl (hb hby d38_39)) fun T1765 X1765 e1765 => ?_
  refine gb T1765 (mkF m 43 #[SA q3, SA q7, SU] [(.ref q3), (.ref q4)]) (fun _ k => XS.aloadN X1765.here hx rfl (hb hby d38_42) rfl rfl k) ?_
  refine own_g1 (getF X1765 hx hZ hown (host := "") (Or.inl (ww hw 128 rfl)) Via.refl e1765 u44 rfl rfl (hb hby d38_43)) fun T1766 X1766 e1766 => ?_
  refine gb T1766 (mkF m 47 #[SA q3, SA q7, SU] [(.ref q8)]) (ldAS X1766 hx hZ e1766 u46 rfl (v := (.ref q8)) (j := (1 : Int32)) 1 (by decide) rfl (g := (mkF m 46 #[SA q3, SA q7, SU] [(.int (1 : Int32)), (.ref q4)])) rfl rfl (hb hby d38_46)) ?_
  refine gb T1766 (mkF m 49 #[SA q3, SA q7, SA q8] [(.ref q3)]) (fun _ k => XS.astoreN X1766.here hx rfl (hb hby d38_47) rfl rfl (l' := #[SA q3, SA q7, SA q8]) rfl (XS.aloadN X1766.here hx rfl (hb hby d38_48) rfl rfl k)) ?_
  refine own_g1 (getF X1766 hx hZ hown (host := "") (Or.inl (ww hw 47 rfl)) Via.refl e1766 u43 rfl rfl (hb hby d38_49)) fun T1767 X1767 e1767 => ?_
  refine gb T1767 (mkF m 53 #[SA q3, SA q7, SA q8] [(.ref q3), (.ref q4)]) (fun _ k => XS.aloadN X1767.here hx rfl (hb hby d38_52) rfl rfl k) ?_
  refine own_g1 (getF X1767 hx hZ hown (host := "") (Or.inl (ww hw 128 rfl)) Via.refl e1767 u44 rfl rfl (hb hby d38_53)) fun T1768 X1768 e1768 => ?_
  refine gb T1768 (mkF m 57 #[SA q3, SA q7, SA q8] [.null, (.int (1 : Int32)), (.ref q4)]) (fun _ k => XS.aconstNull X1768.here hx rfl (hb hby d38_56)  k) ?_
  obtain ⟨T1769, h1769, X1769, e1769, W1769, V1769, st1769⟩ := stAS X1768 hx hZ e1768 u46 rfl (j := (1 : Int32)) 1 (by decide) (by show 1 < 17; decide) (Or.inl rfl) (g := (mkF m 57 #[SA q3, SA q7, SA q8] [.null, (.int (1 : Int32)), (.ref q4)])) rfl rfl (hb hby d38_57)
  have N0 := Fr.snoc X1769 N0 ge_q4
  have u24 := u24.wr W1769
  have u25 := u25.wr W1769
  have u33 := u33.other W1769 (Or.inl (Ne.symm ne_q4_q7))
  have u34 := u34.other W1769 (Or.inl (Ne.symm ne_q4_q7))
  have u35 := u35.other W1769 (Or.inl (Ne.symm ne_q4_q7))
  have u36 := u36.other W1769 (Or.inl (Ne.symm ne_q4_q7))
  have u37 := u37.other W1769 (Or.inl (Ne.symm ne_q4_q7))
  have u38 := u38.wr W1769
  have u43 := u43.other W1769 (Or.inl ne_q3_q4)
  have u44 := u44.other W1769 (Or.inl ne_q3_q4)
  have u45 := u45.other W1769 (Or.inl ne_q3_q4)
  have u47 := u47.other W1769 (Or.inl (Ne.symm ne_q4_q8))
  have u48 := u48.other W1769 (Or.inl (Ne.symm ne_q4_q8))
  have u49 := u49.other W1769 (Or.inl (Ne.symm ne_q4_q8))
  have u50 := u50.other W1769 (Or.inl (Ne.symm ne_q4_q8))
  have u51 := u51.other W1769 (Or.inl (Ne.symm ne_q4_q8))
  have Z0 := own_zw Z0 W1769
  have K0 := K0.wr W1769 mi_q4
  have u46 : Sar Z h1769 q4 (.object sn1) [(.ref q7), .null, .null, .null, .null, .null, .null, .null, .null, .null, .null, .null, .null, .null, .null, .null, .null] := V1769
  refine gb T1769 (mkF m 58 #[SA q3, SA q7, SA q8] []) st1769 ?_
  refine gb T1769 (mkF m 59 #[SA q3, SA q7, SA q8] [(.ref q3)]) (fun _ k => XS.aloadN X1769.here hx rfl (hb hby d38_58) rfl rfl k) ?_
  refine own_g1 (getF X1769 hx hZ hown (host := "") (Or.inl (ww hw 128 rfl)) Via.refl e1769 u44 rfl rfl (hb hby d38_59)) fun T1770 X1770 e1770 => ?_
  refine gb T1770 (mkF m 65 #[SA q3, SA q7, SA q8] []) (fun _ k => XS.ifNo X1770.here hx rfl (hb hby d38_62) rfl (by decide) k) ?_
  refine gb T1770 (mkF m 68 #[SA q3, SA q7, SA q8] [(.ref q8), (.int (0 : Int32)), (.ref q3)]) (fun _ k => XS.aloadN X1770.here hx rfl (hb hby d38_65) rfl rfl (XS.iconst X1770.here hx rfl (hb hby d38_66)  (XS.aloadN X1770.here hx rfl (hb hby d38_67) rfl rfl k))) ?_
  refine own_c1 (callP X1770 hx hZ (y := mn46) hown (ww hw 329 rfl) (ww hw 330 rfl) (ww hw 331 rfl) (ww hw 332 rfl) (ww hw 40 rfl) (ww hw 39 rfl) (by decide) e1770 u24 (argsL := [(.int (0 : Int32)), (.ref q8)]) (rest := []) (W := 0) (au38_siftDown l Z a0 hw q3 q8 q4 q7 q5 y_48 y_49 y_51 y_50 h1769 n0 Z0 u24 u25 u38 u43 u44 u46 u47 u48 u49 u50 u51 ne_q4_q8 ge_q4 ge_q8) rfl (by decide) (by decide) (by decide) (by decide) rfl (by rw [hml]; rfl) (lenOf pd11 rfl) rfl (by show 2 * 0 + _ ≤ _; exact Nat.le_of_eq rfl) (hb hby d38_68)) fun v1777 T1777 L1777 X1777 hQ1777 => ?_
  obtain ⟨rfl, NL1777, K1777, f1771, f1772, f1773, f1774, f1775, f1776⟩ := hQ1777
  have N0 := Fr.app N0 NL1777
  have e1777 : T1777.heap = T1777.heap := rfl
  have nin_q7 := (ninS (Ne.symm ne_q4_q7) (ninS ne_q7_q8 nin0))
  have u33 := u33.keep K1777 nin_q7
  have u34 := u34.keep K1777 nin_q7
  have u35 := u35.keep K1777 nin_q7
  have u36 := u36.keep K1777 nin_q7
  have u37 := u37.keep K1777 nin_q7
  have nin_q3 := (ninS ne_q3_q4 (ninS ne_q3_q8 nin0))
  have u43 := u43.keep K1777 nin_q3
  have u44 := u44.keep K1777 nin_q3
  have u45 := u45.keep K1777 nin_q3
  have Z0 := Nat.le_trans Z0 K1777.1
  have K0 := K0.trans K1777 (allS mi_q4 (allS mi_q8 all0))
  exact outV X1777 hx hlk hret (hb hby d38_71) (by rw [e1777]; exact ⟨rfl, N0, K0, u33, u34, u35, u36, u37, u43, u44, u45, f1771, f1772, f1773, f1774, f1775, f1776⟩) (by decide) (by decide)
theorem d40_0 : decode prog_39_method_2_code 0 = .ok (.aload_n 0, 1) := by decide +kernel
theorem d40_1 : decode prog_39_method_2_code 1 = .ok (.getfield 1, 3) := by decide +kernel
theorem d40_4 : decode prog_39_method_2_code 4 = .ok (.aload_n 0, 1) := by decide +kernel
theorem d40_5 : decode prog_39_method_2_code 5 = .ok (.getfield 13, 3) := by decide +kernel
theorem d40_8 : decode prog_39_method_2_code 8 = .ok (.putfield 17, 3) := by decide +kernel
theorem d40_11 : decode prog_39_method_2_code 11 = .ok (.aload_n 0, 1) := by decide +kernel
theorem d40_12 : decode prog_39_method_2_code 12 = .ok (.getfield 1, 3) := by decide +kernel
theorem d40_15 : decode prog_39_method_2_code 15 = .ok (.lconst 1, 1) := by decide +kernel
theorem d40_16 : decode prog_39_method_2_code 16 = .ok (.putfield 22, 3) := by decide +kernel
theorem d40_19 : decode prog_39_method_2_code 19 = .ok (.return_, 1) := by decide +kernel
set_option maxRecDepth 65536 in
set_option maxHeartbeats 40000000 in
theorem au40_run (l : Launch) (Z : State) (a0 : Array Value) (hw : ∀ d ∈ tables_1, d.before a0 Z = true) (q7 q5 : Addr) (y_27 y_28 y_67 : Int64) (h0 : Heap) (n0 : Nat) (Z0 : n0 ≤ h0.size) (u26 : Exa Z h0 q5 sn12) (u27 : Fld Z h0 q5 sn12 "begun" "J" (.long y_27)) (u28 : Fld Z h0 q5 sn12 "inside" "J" (.long y_28)) (u65 : Fld Z h0 q7 sn3 "this$0" sn6 (.ref q5)) (u67 : Fld Z h0 q7 sn3 "insideAfter" "J" (.long y_67)) (ne_q5_q7 : q5 ≠ q7) (ge_q5 : n0 ≤ q5) :
    Does l mn30 prog_39_method_2_code 1 none [] ({ frames := 0, cells := 0, slots := 0, locals := 0 } : Room) Z #[(.ref q7)] h0 (fun v h L => v = none ∧ Fr n0 L ∧ Keep h0 h [q5] ∧ Fld Z h q5 sn12 "begun" "J" (.long (1 : Int64)) ∧ Fld Z h q5 sn12 "inside" "J" (.long y_67)) := by
  refine Does.of (plainFor_of_name pn7) ?_
  intro p e s m below meth c s₁ hx hby hml hret hlk hZ hown hnm X0 e0
  have N0 := Fr.nil n0
  refine Goes.cast (g' := mkF m 0 #[SA q7] []) (ef_au0_now m q7) ?_
  have mi_q5 : q5 ∈ [q5] ∨ h0.size ≤ q5 := (Or.inl (List.mem_cons_self ..))
  have K0 := Keep.refl h0 [q5]
  refine gb s₁ (mkF m 1 #[SA q7] [(.ref q7)]) (fun _ k => XS.aloadN X0.here hx rfl (hb hby d40_0) rfl rfl k) ?_
  refine own_g1 (getF X0 hx hZ hown (host := "") (Or.inl (ww hw 87 rfl)) Via.refl e0 u65 rfl rfl (hb hby d40_1)) fun T1811 X1811 e1811 => ?_
  refine gb T1811 (mkF m 5 #[SA q7] [(.ref q7), (.ref q5)]) (fun _ k => XS.aloadN X1811.here hx rfl (hb hby d40_4) rfl rfl k) ?_
  refine own_g1 (getF X1811 hx hZ hown (host := "") (Or.inl (ww hw 98 rfl)) Via.refl e1811 u67 rfl rfl (hb hby d40_5)) fun T1812 X1812 e1812 => ?_
  refine own_p1 (putF X1812 hx hZ hown (Or.inr (ww hw 338 rfl)) Via.refl e1812 u28 u26 (Or.inl (ww hw 339 rfl)) (ww hw 54 rfl) (ty := .long) (by decide) rfl rfl rfl rfl (hb hby d40_8)) fun T1813 h1813 X1813 e1813 W1813 => ?_
  have N0 := Fr.snoc X1813 N0 ge_q5
  have u26 := u26.wr W1813
  have u27 := own_oth u27 W1813 (Or.inl (ww hw 279 rfl)) (Or.inl (ww hw 339 rfl)) (by decide)
  have u28 := u28.same W1813
  have u65 := u65.other W1813 (Or.inl (Ne.symm ne_q5_q7))
  have Z0 := own_zw Z0 W1813
  have K0 := K0.wr W1813 mi_q5
  refine gb T1813 (mkF m 12 #[SA q7] [(.ref q7)]) (fun _ k => XS.aloadN X1813.here hx rfl (hb hby d40_11) rfl rfl k) ?_
  refine own_g1 (getF X1813 hx hZ hown (host := "") (Or.inl (ww hw 87 rfl)) Via.refl e1813 u65 rfl rfl (hb hby d40_12)) fun T1814 X1814 e1814 => ?_
  refine gb T1814 (mkF m 16 #[SA q7] [(.long (1 : Int64)), (.ref q5)]) (fun _ k => XS.lconst X1814.here hx rfl (hb hby d40_15)  k) ?_
  refine own_p1 (putF X1814 hx hZ hown (Or.inr (ww hw 340 rfl)) Via.refl e1814 u27 u26 (Or.inl (ww hw 279 rfl)) (ww hw 54 rfl) (ty := .long) (by decide) rfl rfl rfl rfl (hb hby d40_16)) fun T1815 h1815 X1815 e1815 W1815 => ?_
  have N0 := Fr.snoc X1815 N0 ge_q5
  have u27 := u27.same W1815
  have u28 := own_oth u28 W1815 (Or.inl (ww hw 339 rfl)) (Or.inl (ww hw 279 rfl)) (by decide)
  have Z0 := own_zw Z0 W1815
  have K0 := K0.wr W1815 mi_q5
  exact outV X1815 hx hlk hret (hb hby d40_19) (by rw [e1815]; exact ⟨rfl, N0, K0, u27, u28⟩) (by decide) (by decide)
set_option maxRecDepth 65536 in
set_option maxHeartbeats 40000000 in
theorem au41_first (l : Launch) (Z : State) (a0 : Array Value) (hw : ∀ d ∈ tables_1, d.before a0 Z = true) (q3 q4 q8 : Addr) (h0 : Heap) (n0 : Nat) (Z0 : n0 ≤ h0.size) (u68 : Fld Z h0 q3 sn4 "heap" sn10 (.ref q4)) (u71 : Sar Z h0 q4 (.object sn1) [(.ref q8), .null, .null, .null, .null, .null, .null, .null, .null, .null, .null, .null, .null, .null, .null, .null, .null]) :
    Does l mn22 prog_18_method_4_code 7 (some (.object sn1)) [] ({ frames := 0, cells := 0, slots := 0, locals := 0 } : Room) Z #[(.ref q3)] h0 (fun v h L => v = some (.ref q8) ∧ Fr n0 L ∧ h = h0) := by
  refine Does.of (plainFor_of_name pn4) ?_
  intro p e s m below meth c s₁ hx hby hml hret hlk hZ hown hnm X0 e0
  have N0 := Fr.nil n0
  refine Goes.cast (g' := mkF m 0 #[SA q3, SU, SU, SU, SU, SU, SU] []) (ef_au35_first m q3) ?_
  have K0 := Keep.refl h0 []
  refine gb s₁ (mkF m 1 #[SA q3, SU, SU, SU, SU, SU, SU] [(.ref q3)]) (fun _ k => XS.aloadN X0.here hx rfl (hb hby d36_0) rfl rfl k) ?_
  refine own_g1 (getF X0 hx hZ hown (host := "") (Or.inl (ww hw 47 rfl)) Via.refl e0 u68 rfl rfl (hb hby d36_1)) fun T1829 X1829 e1829 => ?_
  refine gb T1829 (mkF m 7 #[SA q3, SU, SU, SU, SU, SU, SU] []) (fun _ k => XS.ifnullNo X1829.here hx rfl (hb hby d36_4) rfl k) ?_
  refine gb T1829 (mkF m 8 #[SA q3, SU, SU, SU, SU, SU, SU] [(.ref q3)]) (fun _ k => XS.aloadN X1829.here hx rfl (hb hby d36_7) rfl rfl k) ?_
  refine own_g1 (getF X1829 hx hZ hown (host := "") (Or.inl (ww hw 47 rfl)) Via.refl e1829 u68 rfl rfl (hb hby d36_8)) fun T1830 X1830 e1830 => ?_
  refine gb T1830 (mkF m 12 #[SA q3, SU, SU, SU, SU, SU, SU] [(.int (0 : Int32)), (.ref q4)]) (fun _ k => XS.iconst X1830.here hx rfl (hb hby d36_11)  k) ?_
  refine gb T1830 (mkF m 13 #[SA q3, SU, SU, SU, SU, SU, SU] [(.ref q8)]) (ldAS X1830 hx hZ e1830 u71 rfl (v := (.ref q8)) (j := (0 : Int32)) 0 (by decide) rfl (g := (mkF m 12 #[SA q3, SU, SU, SU, SU, SU, SU] [(.int (0 : Int32)), (.ref q4)])) rfl rfl (hb hby d36_12)) ?_
  exact outA X1830 hx hlk hret rfl rfl rfl (hb hby d36_13) (by rw [e1830]; exact ⟨rfl, N0, rfl⟩) (by decide) (by decide)
set_option maxRecDepth 65536 in
set_option maxHeartbeats 40000000 in
theorem au42_spend (l : Launch) (Z : State) (a0 : Array Value) (hw : ∀ d ∈ tables_1, d.before a0 Z = true) (q1 : Addr) (y_a1 : UInt64) (h0 : Heap) (n0 : Nat) (Z0 : n0 ≤ h0.size) (u22 : Exa Z h0 q1 sn5) (u61 : Fld Z h0 q1 sn5 "allowed" "J" (.long (1000 : Int64))) (u62 : Fld Z h0 q1 sn5 "spent" "J" (.long (1 : Int64))) (ge_q1 : n0 ≤ q1) :
    Does l mn23 prog_15_method_5_code 3 none [] ({ frames := 0, cells := 0, slots := 0, locals := 0 } : Room) Z #[(.ref q1), (.double y_a1)] h0 (fun v h L => v = none ∧ Fr n0 L ∧ Keep h0 h [q1] ∧ Fld Z h q1 sn5 "allowed" "J" (.long (1000 : Int64)) ∧ Fld Z h q1 sn5 "spent" "J" (.long (2 : Int64))) := by
  refine Does.of (plainFor_of_name pn3) ?_
  intro p e s m below meth c s₁ hx hby hml hret hlk hZ hown hnm X0 e0
  have N0 := Fr.nil n0
  refine Goes.cast (g' := mkF m 0 #[SA q1, SD y_a1, S2] []) (ef_au36_spend m q1 y_a1) ?_
  have mi_q1 : q1 ∈ [q1] ∨ h0.size ≤ q1 := (Or.inl (List.mem_cons_self ..))
  have K0 := Keep.refl h0 [q1]
  refine gb s₁ (mkF m 1 #[SA q1, SD y_a1, S2] [(.ref q1)]) (fun _ k => XS.aloadN X0.here hx rfl (hb hby d37_0) rfl rfl k) ?_
  refine own_g1 (getF X0 hx hZ hown (host := "") (Or.inl (ww hw 24 rfl)) Via.refl e0 u62 rfl rfl (hb hby d37_1)) fun T1851 X1851 e1851 => ?_
  refine gb T1851 (mkF m 5 #[SA q1, SD y_a1, S2] [(.ref q1), (.long (1 : Int64))]) (fun _ k => XS.aloadN X1851.here hx rfl (hb hby d37_4) rfl rfl k) ?_
  refine own_g1 (getF X1851 hx hZ hown (host := "") (Or.inl (ww hw 22 rfl)) Via.refl e1851 u61 rfl rfl (hb hby d37_5)) fun T1852 X1852 e1852 => ?_
  refine gb T1852 (mkF m 9 #[SA q1, SD y_a1, S2] [(.int (-1 : Int32))]) (fun _ k => XS.lcmpS X1852.here hx rfl (hb hby d37_8) rfl (by decide) k) ?_
  refine gb T1852 (mkF m 18 #[SA q1, SD y_a1, S2] []) (fun _ k => XS.ifYes X1852.here hx rfl (pc0 := 9) (pc' := 18) rfl (hb hby d37_9) rfl (by decide) (by decide) (by decide) k) ?_
  refine gb T1852 (mkF m 20 #[SA q1, SD y_a1, S2] [(.ref q1), (.ref q1)]) (fun _ k => XS.aloadN X1852.here hx rfl (hb hby d37_18) rfl rfl (XS.dup X1852.here hx rfl (hb hby d37_19) rfl rfl k)) ?_
  refine own_g1 (getF X1852 hx hZ hown (host := "") (Or.inl (ww hw 24 rfl)) Via.refl e1852 u62 rfl rfl (hb hby d37_20)) fun T1853 X1853 e1853 => ?_
  refine gb T1853 (mkF m 24 #[SA q1, SD y_a1, S2] [(.long (1 : Int64)), (.long (1 : Int64)), (.ref q1)]) (fun _ k => XS.lconst X1853.here hx rfl (hb hby d37_23)  k) ?_
  refine gb T1853 (mkF m 25 #[SA q1, SD y_a1, S2] [(.long (2 : Int64)), (.ref q1)]) (fun _ k => XS.ladd X1853.here hx rfl (hb hby d37_24) rfl k) ?_
  refine own_p1 (putF X1853 hx hZ hown (host := "") (Or.inl (ww hw 24 rfl)) Via.refl e1853 u62 u22 (Or.inl (ww hw 25 rfl)) (ww hw 6 rfl) (ty := .long) (by decide) rfl rfl rfl rfl (hb hby d37_25)) fun T1854 h1854 X1854 e1854 W1854 => ?_
  have N0 := Fr.snoc X1854 N0 ge_q1
  have u61 := own_oth u61 W1854 (Or.inl (ww hw 23 rfl)) (Or.inl (ww hw 25 rfl)) (by decide)
  have u62 := u62.same W1854
  have Z0 := own_zw Z0 W1854
  have K0 := K0.wr W1854 mi_q1
  exact outV X1854 hx hlk hret (hb hby d37_28) (by rw [e1854]; exact ⟨rfl, N0, K0, u61, u62⟩) (by decide) (by decide)
set_option maxRecDepth 65536 in
set_option maxHeartbeats 40000000 in
theorem au43_take (l : Launch) (Z : State) (a0 : Array Value) (hw : ∀ d ∈ tables_1, d.before a0 Z = true) (q3 q8 q4 q5 : Addr) (y_71 y_72 y_74 : Int64) (y_68 y_73 : UInt64) (h0 : Heap) (n0 : Nat) (Z0 : n0 ≤ h0.size) (u24 : Exa Z h0 q3 sn4) (u31 : Exa Z h0 q8 sn3) (u66 : Fld Z h0 q3 sn4 "heap" sn10 (.ref q4)) (u67 : Fld Z h0 q3 sn4 "size" "I" (.int (1 : Int32))) (u68 : Fld Z h0 q3 sn4 "floor" "D" (.double y_68)) (u69 : Sar Z h0 q4 (.object sn1) [(.ref q8), .null, .null, .null, .null, .null, .null, .null, .null, .null, .null, .null, .null, .null, .null, .null, .null]) (u70 : Fld Z h0 q8 sn3 "this$0" sn6 (.ref q5)) (u71 : Fld Z h0 q8 sn1 "place" "J" (.long y_71)) (u72 : Fld Z h0 q8 sn3 "insideAfter" "J" (.long y_72)) (u73 : Fld Z h0 q8 sn1 "time" "D" (.double y_73)) (u74 : Fld Z h0 q8 sn1 "sequence" "J" (.long y_74)) (ne_q3_q4 : q3 ≠ q4) (ne_q3_q8 : q3 ≠ q8) (ne_q4_q8 : q4 ≠ q8) (ge_q3 : n0 ≤ q3) (ge_q4 : n0 ≤ q4) (ge_q8 : n0 ≤ q8) :
    Does l mn24 prog_18_method_5_code 3 none [] ({ frames := 0, cells := 0, slots := 0, locals := 0 } : Room) Z #[(.ref q3), (.ref q8)] h0 (fun v h L => v = none ∧ Fr n0 L ∧ Keep h0 h [q3, q4, q8] ∧ Fld Z h q3 sn4 "heap" sn10 (.ref q4) ∧ Fld Z h q3 sn4 "size" "I" (.int (0 : Int32)) ∧ Fld Z h q3 sn4 "floor" "D" (.double y_73) ∧ Sar Z h q4 (.object sn1) [.null, .null, .null, .null, .null, .null, .null, .null, .null, .null, .null, .null, .null, .null, .null, .null, .null] ∧ Fld Z h q8 sn3 "this$0" sn6 (.ref q5) ∧ Fld Z h q8 sn1 "place" "J" (.long (-1 : Int64)) ∧ Fld Z h q8 sn3 "insideAfter" "J" (.long y_72) ∧ Fld Z h q8 sn1 "time" "D" (.double y_73) ∧ Fld Z h q8 sn1 "sequence" "J" (.long y_74)) := by
  refine Does.of (plainFor_of_name pn4) ?_
  intro p e s m below meth c s₁ hx hby hml hret hlk hZ hown hnm X0 e0
  have N0 := Fr.nil n0
  refine Goes.cast (g' := mkF m 0 #[SA q3, SA q8, SU] []) (ef_au39_take m q3 q8) ?_
  have mi_q3 : q3 ∈ [q3, q4, q8] ∨ h0.size ≤ q3 := (Or.inl (List.mem_cons_self ..))
  have mi_q4 : q4 ∈ [q3, q4, q8] ∨ h0.size ≤ q4 := (Or.inl (List.mem_cons_of_mem _ (List.mem_cons_self ..)))
  have mi_q8 : q8 ∈ [q3, q4, q8] ∨ h0.size ≤ q8 := (Or.inl (List.mem_cons_of_mem _ (List.mem_cons_of_mem _ (List.mem_cons_self ..))))
  have K0 := Keep.refl h0 [q3, q4, q8]
  refine gb s₁ (mkF m 2 #[SA q3, SA q8, SU] [(.ref q8), (.ref q3)]) (fun _ k => XS.aloadN X0.here hx rfl (hb hby d38_0) rfl rfl (XS.aloadN X0.here hx rfl (hb hby d38_1) rfl rfl k)) ?_
  refine own_g1 (getF X0 hx hZ hown (host := "") (Or.inl (ww hw 160 rfl)) Via.refl e0 u73 rfl rfl (hb hby d38_2)) fun T1904 X1904 e1904 => ?_
  refine own_p1 (putF X1904 hx hZ hown (host := "") (Or.inl (ww hw 326 rfl)) Via.refl e1904 u68 u24 (Or.inl (ww hw 327 rfl)) (ww hw 39 rfl) (ty := .double) (by decide) rfl rfl rfl rfl (hb hby d38_5)) fun T1905 h1905 X1905 e1905 W1905 => ?_
  have N0 := Fr.snoc X1905 N0 ge_q3
  have u24 := u24.wr W1905
  have u31 := u31.wr W1905
  have u66 := own_oth u66 W1905 (Or.inl (ww hw 48 rfl)) (Or.inl (ww hw 327 rfl)) (by decide)
  have u67 := own_oth u67 W1905 (Or.inl (ww hw 129 rfl)) (Or.inl (ww hw 327 rfl)) (by decide)
  have u68 := u68.same W1905
  have u69 := u69.other W1905 (Ne.symm ne_q3_q4)
  have u70 := u70.other W1905 (Or.inl (Ne.symm ne_q3_q8))
  have u71 := u71.other W1905 (Or.inl (Ne.symm ne_q3_q8))
  have u72 := u72.other W1905 (Or.inl (Ne.symm ne_q3_q8))
  have u73 := u73.other W1905 (Or.inl (Ne.symm ne_q3_q8))
  have u74 := u74.other W1905 (Or.inl (Ne.symm ne_q3_q8))
  have Z0 := own_zw Z0 W1905
  have K0 := K0.wr W1905 mi_q3
  refine gb T1905 (mkF m 9 #[SA q3, SA q8, SU] [(.ref q3)]) (fun _ k => XS.aloadN X1905.here hx rfl (hb hby d38_8) rfl rfl k) ?_
  refine own_g1 (getF X1905 hx hZ hown (host := "") (Or.inl (ww hw 47 rfl)) Via.refl e1905 u66 rfl rfl (hb hby d38_9)) fun T1906 X1906 e1906 => ?_
  refine gb T1906 (mkF m 21 #[SA q3, SA q8, SU] []) (fun _ k => XS.ifnonnullYes X1906.here hx rfl (pc0 := 12) (pc' := 21) rfl (hb hby d38_12) rfl (by decide) (by decide) k) ?_
  refine gb T1906 (mkF m 23 #[SA q3, SA q8, SU] [(.ref q3), (.ref q3)]) (fun _ k => XS.aloadN X1906.here hx rfl (hb hby d38_21) rfl rfl (XS.dup X1906.here hx rfl (hb hby d38_22) rfl rfl k)) ?_
  refine own_g1 (getF X1906 hx hZ hown (host := "") (Or.inl (ww hw 128 rfl)) Via.refl e1906 u67 rfl rfl (hb hby d38_23)) fun T1907 X1907 e1907 => ?_
  refine gb T1907 (mkF m 27 #[SA q3, SA q8, SU] [(.int (1 : Int32)), (.int (1 : Int32)), (.ref q3)]) (fun _ k => XS.iconst X1907.here hx rfl (hb hby d38_26)  k) ?_
  refine gb T1907 (mkF m 28 #[SA q3, SA q8, SU] [(.int (0 : Int32)), (.ref q3)]) (fun _ k => XS.isub X1907.here hx rfl (hb hby d38_27) rfl k) ?_
  refine own_p1 (putF X1907 hx hZ hown (host := "") (Or.inl (ww hw 128 rfl)) Via.refl e1907 u67 u24 (Or.inl (ww hw 129 rfl)) (ww hw 39 rfl) (ty := .int) (by decide) rfl rfl rfl rfl (hb hby d38_28)) fun T1908 h1908 X1908 e1908 W1908 => ?_
  have N0 := Fr.snoc X1908 N0 ge_q3
  have u31 := u31.wr W1908
  have u66 := own_oth u66 W1908 (Or.inl (ww hw 48 rfl)) (Or.inl (ww hw 129 rfl)) (by decide)
  have u67 := u67.same W1908
  have u68 := own_oth u68 W1908 (Or.inl (ww hw 327 rfl)) (Or.inl (ww hw 129 rfl)) (by decide)
  have u69 := u69.other W1908 (Ne.symm ne_q3_q4)
  have u70 := u70.other W1908 (Or.inl (Ne.symm ne_q3_q8))
  have u71 := u71.other W1908 (Or.inl (Ne.symm ne_q3_q8))
  have u72 := u72.other W1908 (Or.inl (Ne.symm ne_q3_q8))
  have u73 := u73.other W1908 (Or.inl (Ne.symm ne_q3_q8))
  have u74 := u74.other W1908 (Or.inl (Ne.symm ne_q3_q8))
  have Z0 := own_zw Z0 W1908
  have K0 := K0.wr W1908 mi_q3
  refine gb T1908 (mkF m 32 #[SA q3, SA q8, SU] [(.ref q8)]) (fun _ k => XS.aloadN X1908.here hx rfl (hb hby d38_31) rfl rfl k) ?_
  refine gb T1908 (mkF m 35 #[SA q3, SA q8, SU] [(.long (-1 : Int64)), (.ref q8)]) (X1908.ldc2Long hx hown (mvT hZ (ww hw 328 rfl)) (g := (mkF m 32 #[SA q3, SA q8, SU] [(.ref q8)])) rfl (hb hby d38_32)) ?_
  refine own_p1 (putF X1908 hx hZ hown (host := "") (Or.inl (ww hw 139 rfl)) Via.refl e1908 u71 u31 (Or.inl (ww hw 97 rfl)) (ww hw 82 rfl) (ty := .long) (by decide) rfl rfl rfl rfl (hb hby d38_35)) fun T1909 h1909 X1909 e1909 W1909 => ?_
  have N0 := Fr.snoc X1909 N0 ge_q8
  have u66 := u66.other W1909 (Or.inl ne_q3_q8)
  have u67 := u67.other W1909 (Or.inl ne_q3_q8)
  have u68 := u68.other W1909 (Or.inl ne_q3_q8)
  have u69 := u69.other W1909 ne_q4_q8
  have u70 := own_oth u70 W1909 (Or.inr (ww hw 88 rfl)) (Or.inl (ww hw 97 rfl)) (by decide)
  have u71 := u71.same W1909
  have u72 := own_oth u72 W1909 (Or.inr (ww hw 99 rfl)) (Or.inl (ww hw 97 rfl)) (by decide)
  have u73 := own_oth u73 W1909 (Or.inl (ww hw 118 rfl)) (Or.inl (ww hw 97 rfl)) (by decide)
  have u74 := own_oth u74 W1909 (Or.inl (ww hw 122 rfl)) (Or.inl (ww hw 97 rfl)) (by decide)
  have Z0 := own_zw Z0 W1909
  have K0 := K0.wr W1909 mi_q8
  refine gb T1909 (mkF m 39 #[SA q3, SA q8, SU] [(.ref q3)]) (fun _ k => XS.aloadN X1909.here hx rfl (hb hby d38_38) rfl rfl k) ?_
  refine own_g1 (getF X1909 hx hZ hown (host := "") (Or.inl (ww hw 47 rfl)) Via.refl e1909 u66 rfl rfl (hb hby d38_39)) fun T1910 X1910 e1910 => ?_
  refine gb T1910 (mkF m 43 #[SA q3, SA q8, SU] [(.ref q3), (.ref q4)]) (fun _ k => XS.aloadN X1910.here hx rfl (hb hby d38_42) rfl rfl k) ?_
  refine own_g1 (getF X1910 hx hZ hown (host := "") (Or.inl (ww hw 128 rfl)) Via.refl e1910 u67 rfl rfl (hb hby d38_43)) fun T1911 X1911 e1911 => ?_
  refine gb T1911 (mkF m 47 #[SA q3, SA q8, SU] [(.ref q8)]) (ldAS X1911 hx hZ e1911 u69 rfl (v := (.ref q8)) (j := (0 : Int32)) 0 (by decide) rfl (g := (mkF m 46 #[SA q3, SA q8, SU] [(.int (0 : Int32)), (.ref q4)])) rfl rfl (hb hby d38_46)) ?_
  refine gb T1911 (mkF m 49 #[SA q3, SA q8, SA q8] [(.ref q3)]) (fun _ k => XS.astoreN X1911.here hx rfl (hb hby d38_47) rfl rfl (l' := #[SA q3, SA q8, SA q8]) rfl (XS.aloadN X1911.here hx rfl (hb hby d38_48) rfl rfl k)) ?_
  refine own_g1 (getF X1911 hx hZ hown (host := "") (Or.inl (ww hw 47 rfl)) Via.refl e1911 u66 rfl rfl (hb hby d38_49)) fun T1912 X1912 e1912 => ?_
  refine gb T1912 (mkF m 53 #[SA q3, SA q8, SA q8] [(.ref q3), (.ref q4)]) (fun _ k => XS.aloadN X1912.here hx rfl (hb hby d38_52) rfl rfl k) ?_
  refine own_g1 (getF X1912 hx hZ hown (host := "") (Or.inl (ww hw 128 rfl)) Via.refl e1912 u67 rfl rfl (hb hby d38_53)) fun T1913 X1913 e1913 => ?_
  refine gb T1913 (mkF m 57 #[SA q3, SA q8, SA q8] [.null, (.int (0 : Int32)), (.ref q4)]) (fun _ k => XS.aconstNull X1913.here hx rfl (hb hby d38_56)  k) ?_
  obtain ⟨T1914, h1914, X1914, e1914, W1914, V1914, st1914⟩ := stAS X1913 hx hZ e1913 u69 rfl (j := (0 : Int32)) 0 (by decide) (by show 0 < 17; decide) (Or.inl rfl) (g := (mkF m 57 #[SA q3, SA q8, SA q8] [.null, (.int (0 : Int32)), (.ref q4)])) rfl rfl (hb hby d38_57)
  have N0 := Fr.snoc X1914 N0 ge_q4
  have u66 := u66.other W1914 (Or.inl ne_q3_q4)
  have u67 := u67.other W1914 (Or.inl ne_q3_q4)
  have u68 := u68.other W1914 (Or.inl ne_q3_q4)
  have u70 := u70.other W1914 (Or.inl (Ne.symm ne_q4_q8))
  have u71 := u71.other W1914 (Or.inl (Ne.symm ne_q4_q8))
  have u72 := u72.other W1914 (Or.inl (Ne.symm ne_q4_q8))
  have u73 := u73.other W1914 (Or.inl (Ne.symm ne_q4_q8))
  have u74 := u74.other W1914 (Or.inl (Ne.symm ne_q4_q8))
  have Z0 := own_zw Z0 W1914
  have K0 := K0.wr W1914 mi_q4
  have u69 : Sar Z h1914 q4 (.object sn1) [.null, .null, .null, .null, .null, .null, .null, .null, .null, .null, .null, .null, .null, .null, .null, .null, .null] := V1914
  refine gb T1914 (mkF m 58 #[SA q3, SA q8, SA q8] []) st1914 ?_
  refine gb T1914 (mkF m 59 #[SA q3, SA q8, SA q8] [(.ref q3)]) (fun _ k => XS.aloadN X1914.here hx rfl (hb hby d38_58) rfl rfl k) ?_
  refine own_g1 (getF X1914 hx hZ hown (host := "") (Or.inl (ww hw 128 rfl)) Via.refl e1914 u67 rfl rfl (hb hby d38_59)) fun T1915 X1915 e1915 => ?_
  refine gb T1915 (mkF m 71 #[SA q3, SA q8, SA q8] []) (fun _ k => XS.ifYes X1915.here hx rfl (pc0 := 62) (pc' := 71) rfl (hb hby d38_62) rfl (by decide) (by decide) (by decide) k) ?_
  exact outV X1915 hx hlk hret (hb hby d38_71) (by rw [e1915]; exact ⟨rfl, N0, K0, u66, u67, u68, u69, u70, u71, u72, u73, u74⟩) (by decide) (by decide)
theorem d34_0 : decode prog_19_method_10_code 0 = .ok (.aload_n 0, 1) := by decide +kernel
theorem d34_1 : decode prog_19_method_10_code 1 = .ok (.getfield 21, 3) := by decide +kernel
theorem d34_4 : decode prog_19_method_10_code 4 = .ok (.invokevirtual 84, 3) := by decide +kernel
theorem d34_7 : decode prog_19_method_10_code 7 = .ok (.ifCond .le 45, 3) := by decide +kernel
theorem d34_10 : decode prog_19_method_10_code 10 = .ok (.aload_n 0, 1) := by decide +kernel
theorem d34_11 : decode prog_19_method_10_code 11 = .ok (.getfield 21, 3) := by decide +kernel
theorem d34_14 : decode prog_19_method_10_code 14 = .ok (.invokevirtual 88, 3) := by decide +kernel
theorem d34_17 : decode prog_19_method_10_code 17 = .ok (.astore_n 1, 1) := by decide +kernel
theorem d34_18 : decode prog_19_method_10_code 18 = .ok (.aload_n 0, 1) := by decide +kernel
theorem d34_19 : decode prog_19_method_10_code 19 = .ok (.getfield 12, 3) := by decide +kernel
theorem d34_22 : decode prog_19_method_10_code 22 = .ok (.aload_n 1, 1) := by decide +kernel
theorem d34_23 : decode prog_19_method_10_code 23 = .ok (.getfield 92, 3) := by decide +kernel
theorem d34_26 : decode prog_19_method_10_code 26 = .ok (.invokevirtual 71, 3) := by decide +kernel
theorem d34_29 : decode prog_19_method_10_code 29 = .ok (.aload_n 0, 1) := by decide +kernel
theorem d34_30 : decode prog_19_method_10_code 30 = .ok (.getfield 21, 3) := by decide +kernel
theorem d34_33 : decode prog_19_method_10_code 33 = .ok (.aload_n 1, 1) := by decide +kernel
theorem d34_34 : decode prog_19_method_10_code 34 = .ok (.invokevirtual 95, 3) := by decide +kernel
theorem d34_37 : decode prog_19_method_10_code 37 = .ok (.aload_n 0, 1) := by decide +kernel
theorem d34_38 : decode prog_19_method_10_code 38 = .ok (.aload_n 1, 1) := by decide +kernel
theorem d34_39 : decode prog_19_method_10_code 39 = .ok (.getfield 92, 3) := by decide +kernel
theorem d34_42 : decode prog_19_method_10_code 42 = .ok (.putfield 25, 3) := by decide +kernel
theorem d34_45 : decode prog_19_method_10_code 45 = .ok (.aload_n 1, 1) := by decide +kernel
theorem d34_46 : decode prog_19_method_10_code 46 = .ok (.invokevirtual 98, 3) := by decide +kernel
theorem d34_49 : decode prog_19_method_10_code 49 = .ok (.goto (-49), 3) := by decide +kernel
theorem d34_52 : decode prog_19_method_10_code 52 = .ok (.return_, 1) := by decide +kernel
theorem ef_au44_run (m : MethodId) (x0 : Addr) : entryFrame m #[(.ref x0)] 2 = mkF m 0 #[SA x0, SU] [] := by first | (simp [entryFrame, mkF, argsToLocals, Value.category, maxLocals]; done) | rfl
set_option maxRecDepth 65536 in
set_option maxHeartbeats 40000000 in
theorem au44_run (l : Launch) (Z : State) (a0 : Array Value) (hw : ∀ d ∈ tables_1, d.before a0 Z = true) (q2 q1 q3 q4 q5 q7 q8 : Addr) (y_29 y_30 y_36 y_37 y_39 y_44 y_50 y_51 y_53 : Int64) (y_38 y_43 y_47 y_52 : UInt64) (h0 : Heap) (n0 : Nat) (Z0 : n0 ≤ h0.size) (u22 : Exa Z h0 q1 sn5) (u23 : Fld Z h0 q1 sn5 "allowed" "J" (.long (1000 : Int64))) (u24 : Fld Z h0 q1 sn5 "spent" "J" (.long (0 : Int64))) (u25 : Exa Z h0 q2 sn2) (u26 : Exa Z h0 q3 sn4) (u27 : OvS Z h0 q4 sn1) (u28 : Exa Z h0 q5 sn12) (u29 : Fld Z h0 q5 sn12 "begun" "J" (.long y_29)) (u30 : Fld Z h0 q5 sn12 "inside" "J" (.long y_30)) (u34 : Exa Z h0 q7 sn3) (u35 : Fld Z h0 q7 sn3 "this$0" sn6 (.ref q5)) (u36 : Fld Z h0 q7 sn1 "place" "J" (.long y_36)) (u37 : Fld Z h0 q7 sn3 "insideAfter" "J" (.long y_37)) (u38 : Fld Z h0 q7 sn1 "time" "D" (.double y_38)) (u39 : Fld Z h0 q7 sn1 "sequence" "J" (.long y_39)) (u40 : Exa Z h0 q8 sn3) (u41 : Fld Z h0 q2 sn2 "budget" sn16 (.ref q1)) (u42 : Fld Z h0 q2 sn2 "pending" sn21 (.ref q3)) (u43 : Fld Z h0 q2 sn2 "now" "D" (.double y_43)) (u44 : Fld Z h0 q2 sn2 "scheduled" "J" (.long y_44)) (u45 : Fld Z h0 q3 sn4 "heap" sn10 (.ref q4)) (u46 : Fld Z h0 q3 sn4 "size" "I" (.int (2 : Int32))) (u47 : Fld Z h0 q3 sn4 "floor" "D" (.double y_47)) (u48 : Sar Z h0 q4 (.object sn1) [(.ref q7), (.ref q8), .null, .null, .null, .null, .null, .null, .null, .null, .null, .null, .null, .null, .null, .null, .null]) (u49 : Fld Z h0 q8 sn3 "this$0" sn6 (.ref q5)) (u50 : Fld Z h0 q8 sn1 "place" "J" (.long y_50)) (u51 : Fld Z h0 q8 sn3 "insideAfter" "J" (.long y_51)) (u52 : Fld Z h0 q8 sn1 "time" "D" (.double y_52)) (u53 : Fld Z h0 q8 sn1 "sequence" "J" (.long y_53)) (ne_q1_q2 : q1 ≠ q2) (ne_q1_q3 : q1 ≠ q3) (ne_q1_q4 : q1 ≠ q4) (ne_q1_q5 : q1 ≠ q5) (ne_q1_q7 : q1 ≠ q7) (ne_q1_q8 : q1 ≠ q8) (ne_q2_q3 : q2 ≠ q3) (ne_q2_q4 : q2 ≠ q4) (ne_q2_q5 : q2 ≠ q5) (ne_q2_q7 : q2 ≠ q7) (ne_q2_q8 : q2 ≠ q8) (ne_q3_q4 : q3 ≠ q4) (ne_q3_q5 : q3 ≠ q5) (ne_q3_q7 : q3 ≠ q7) (ne_q3_q8 : q3 ≠ q8) (ne_q4_q5 : q4 ≠ q5) (ne_q4_q7 : q4 ≠ q7) (ne_q4_q8 : q4 ≠ q8) (ne_q5_q7 : q5 ≠ q7) (ne_q5_q8 : q5 ≠ q8) (ne_q7_q8 : q7 ≠ q8) (ge_q1 : n0 ≤ q1) (ge_q2 : n0 ≤ q2) (ge_q3 : n0 ≤ q3) (ge_q4 : n0 ≤ q4) (ge_q5 : n0 ≤ q5) (ge_q7 : n0 ≤ q7) (ge_q8 : n0 ≤ q8) :
    Does l mn25 prog_19_method_10_code 2 none [] ({ frames := 3, cells := 0, slots := 0, locals := 45 } : Room) Z #[(.ref q2)] h0 (fun v h L => v = none ∧ Fr n0 L ∧ Keep h0 h [q1, q2, q3, q4, q5, q7, q8] ∧ Fld Z h q2 sn2 "budget" sn16 (.ref q1) ∧ Fld Z h q2 sn2 "pending" sn21 (.ref q3) ∧ Fld Z h q2 sn2 "now" "D" (.double y_52) ∧ Fld Z h q2 sn2 "scheduled" "J" (.long y_44) ∧ Fld Z h q7 sn3 "this$0" sn6 (.ref q5) ∧ Fld Z h q7 sn1 "place" "J" (.long (-1 : Int64)) ∧ Fld Z h q7 sn3 "insideAfter" "J" (.long y_37) ∧ Fld Z h q7 sn1 "time" "D" (.double y_38) ∧ Fld Z h q7 sn1 "sequence" "J" (.long y_39) ∧ Fld Z h q1 sn5 "allowed" "J" (.long (1000 : Int64)) ∧ Fld Z h q1 sn5 "spent" "J" (.long (2 : Int64)) ∧ Fld Z h q3 sn4 "heap" sn10 (.ref q4) ∧ Fld Z h q3 sn4 "size" "I" (.int (0 : Int32)) ∧ Fld Z h q3 sn4 "floor" "D" (.double y_52) ∧ Sar Z h q4 (.object sn1) [.null, .null, .null, .null, .null, .null, .null, .null, .null, .null, .null, .null, .null, .null, .null, .null, .null] ∧ Fld Z h q8 sn3 "this$0" sn6 (.ref q5) ∧ Fld Z h q8 sn1 "place" "J" (.long (-1 : Int64)) ∧ Fld Z h q8 sn3 "insideAfter" "J" (.long y_51) ∧ Fld Z h q8 sn1 "time" "D" (.double y_52) ∧ Fld Z h q8 sn1 "sequence" "J" (.long y_53) ∧ Fld Z h q5 sn12 "begun" "J" (.long (1 : Int64)) ∧ Fld Z h q5 sn12 "inside" "J" (.long y_51)) := by
  refine Does.of (plainFor_of_name pn1) ?_
  intro p e s m below meth c s₁ hx hby hml hret hlk hZ hown hnm X0 e0
  have N0 := Fr.nil n0
  refine Goes.cast (g' := mkF m 0 #[SA q2, SU] []) (ef_au44_run m q2) ?_
  have mi_q1 : q1 ∈ [q1, q2, q3, q4, q5, q7, q8] ∨ h0.size ≤ q1 := (Or.inl (List.mem_cons_self ..))
  have mi_q2 : q2 ∈ [q1, q2, q3, q4, q5, q7, q8] ∨ h0.size ≤ q2 := (Or.inl (List.mem_cons_of_mem _ (List.mem_cons_self ..)))
  have mi_q3 : q3 ∈ [q1, q2, q3, q4, q5, q7, q8] ∨ h0.size ≤ q3 := (Or.inl (List.mem_cons_of_mem _ (List.mem_cons_of_mem _ (List.mem_cons_self ..))))
  have mi_q4 : q4 ∈ [q1, q2, q3, q4, q5, q7, q8] ∨ h0.size ≤ q4 := (Or.inl (List.mem_cons_of_mem _ (List.mem_cons_of_mem _ (List.mem_cons_of_mem _ (List.mem_cons_self ..)))))
  have mi_q5 : q5 ∈ [q1, q2, q3, q4, q5, q7, q8] ∨ h0.size ≤ q5 := (Or.inl (List.mem_cons_of_mem _ (List.mem_cons_of_mem _ (List.mem_cons_of_mem _ (List.mem_cons_of_mem _ (List.mem_cons_self ..))))))
  have mi_q7 : q7 ∈ [q1, q2, q3, q4, q5, q7, q8] ∨ h0.size ≤ q7 := (Or.inl (List.mem_cons_of_mem _ (List.mem_cons_of_mem _ (List.mem_cons_of_mem _ (List.mem_cons_of_mem _ (List.mem_cons_of_mem _ (List.mem_cons_self ..)))))))
  have mi_q8 : q8 ∈ [q1, q2, q3, q4, q5, q7, q8] ∨ h0.size ≤ q8 := (Or.inl (List.mem_cons_of_mem _ (List.mem_cons_of_mem _ (List.mem_cons_of_mem _ (List.mem_cons_of_mem _ (List.mem_cons_of_mem _ (List.mem_cons_of_mem _ (List.mem_cons_self ..))))))))
  have K0 := Keep.refl h0 [q1, q2, q3, q4, q5, q7, q8]
  refine gb s₁ (mkF m 1 #[SA q2, SU] [(.ref q2)]) (fun _ k => XS.aloadN X0.here hx rfl (hb hby d34_0) rfl rfl k) ?_
  refine own_g1 (getF X0 hx hZ hown (host := "") (Or.inl (ww hw 51 rfl)) Via.refl e0 u42 rfl rfl (hb hby d34_1)) fun T2067 X2067 e2067 => ?_
  refine own_c1 (callV X2067 hx hZ (y := mn21) hown (ww hw 306 rfl) (ww hw 307 rfl) (ww hw 309 rfl) (ww hw 308 rfl) (ww hw 310 rfl) (ww hw 40 rfl) (by decide) e2067 u26 (argsL := []) (rest := []) (W := 0) (au34_size l Z a0 hw q3 (2 : Int32) h0 n0 Z0 u46) rfl (by decide) (by decide) (by decide) (by decide) rfl (by rw [hml]; rfl) (lenOf pd19 rfl) rfl (by show 2 * 0 + _ ≤ _; exact Nat.le_of_eq rfl) (hb hby d34_4)) fun v2069 T2069 L2069 X2069 hQ2069 => ?_
  obtain ⟨rfl, NL2069, hk2069⟩ := hQ2069
  have N0 := Fr.app N0 NL2069
  refine gb T2069 (mkF m 10 #[SA q2, SU] []) (fun _ k => XS.ifNo X2069.here hx rfl (hb hby d34_7) rfl (by decide) k) ?_
  refine gb T2069 (mkF m 11 #[SA q2, SU] [(.ref q2)]) (fun _ k => XS.aloadN X2069.here hx rfl (hb hby d34_10) rfl rfl k) ?_
  refine own_g1 (getF X2069 hx hZ hown (host := "") (Or.inl (ww hw 51 rfl)) Via.refl hk2069 u42 rfl rfl (hb hby d34_11)) fun T2070 X2070 e2070 => ?_
  refine own_c1 (callV X2070 hx hZ (y := mn22) hown (ww hw 311 rfl) (ww hw 312 rfl) (ww hw 314 rfl) (ww hw 313 rfl) (ww hw 315 rfl) (ww hw 40 rfl) (by decide) e2070 u26 (argsL := []) (rest := []) (W := 0) (au35_first l Z a0 hw q3 q4 q7 q8 h0 n0 Z0 u45 u48) rfl (by decide) (by decide) (by decide) (by decide) rfl (by rw [hml]; rfl) (lenOf pd21 rfl) rfl (by show 2 * 0 + _ ≤ _; exact Nat.le_of_eq rfl) (hb hby d34_14)) fun v2072 T2072 L2072 X2072 hQ2072 => ?_
  obtain ⟨rfl, NL2072, hk2072⟩ := hQ2072
  have N0 := Fr.app N0 NL2072
  refine gb T2072 (mkF m 19 #[SA q2, SA q7] [(.ref q2)]) (fun _ k => XS.astoreN X2072.here hx rfl (hb hby d34_17) rfl rfl (l' := #[SA q2, SA q7]) rfl (XS.aloadN X2072.here hx rfl (hb hby d34_18) rfl rfl k)) ?_
  refine own_g1 (getF X2072 hx hZ hown (host := "") (Or.inl (ww hw 36 rfl)) Via.refl hk2072 u41 rfl rfl (hb hby d34_19)) fun T2073 X2073 e2073 => ?_
  refine gb T2073 (mkF m 23 #[SA q2, SA q7] [(.ref q7), (.ref q1)]) (fun _ k => XS.aloadN X2073.here hx rfl (hb hby d34_22) rfl rfl k) ?_
  refine own_g1 (getF X2073 hx hZ hown (host := "") (Or.inl (ww hw 117 rfl)) Via.refl e2073 u38 rfl rfl (hb hby d34_23)) fun T2074 X2074 e2074 => ?_
  refine own_c1 (callV X2074 hx hZ (y := mn23) hown (ww hw 316 rfl) (ww hw 317 rfl) (ww hw 319 rfl) (ww hw 318 rfl) (ww hw 320 rfl) (ww hw 7 rfl) (by decide) e2074 u22 (argsL := [(.double y_38)]) (rest := []) (W := 0) (au36_spend l Z a0 hw q1 y_38 h0 n0 Z0 u22 u23 u24 ge_q1) rfl (by decide) (by decide) (by decide) (by decide) rfl (by rw [hml]; rfl) (lenOf pd22 rfl) rfl (by show 2 * 0 + _ ≤ _; exact Nat.le_of_eq rfl) (hb hby d34_26)) fun v2078 T2078 L2078 X2078 hQ2078 => ?_
  obtain ⟨rfl, NL2078, K2078, f2075, f2076⟩ := hQ2078
  have N0 := Fr.app N0 NL2078
  have e2078 : T2078.heap = T2078.heap := rfl
  have u22 := u22.keep K2078
  have u25 := u25.keep K2078
  have u26 := u26.keep K2078
  have u27 := u27.keep K2078
  have u28 := u28.keep K2078
  have u29 := u29.keep K2078 (ninS (Ne.symm ne_q1_q5) nin0)
  have u30 := u30.keep K2078 (ninS (Ne.symm ne_q1_q5) nin0)
  have u34 := u34.keep K2078
  have u35 := u35.keep K2078 (ninS (Ne.symm ne_q1_q7) nin0)
  have u36 := u36.keep K2078 (ninS (Ne.symm ne_q1_q7) nin0)
  have u37 := u37.keep K2078 (ninS (Ne.symm ne_q1_q7) nin0)
  have u38 := u38.keep K2078 (ninS (Ne.symm ne_q1_q7) nin0)
  have u39 := u39.keep K2078 (ninS (Ne.symm ne_q1_q7) nin0)
  have u40 := u40.keep K2078
  have u41 := u41.keep K2078 (ninS (Ne.symm ne_q1_q2) nin0)
  have u42 := u42.keep K2078 (ninS (Ne.symm ne_q1_q2) nin0)
  have u43 := u43.keep K2078 (ninS (Ne.symm ne_q1_q2) nin0)
  have u44 := u44.keep K2078 (ninS (Ne.symm ne_q1_q2) nin0)
  have u45 := u45.keep K2078 (ninS (Ne.symm ne_q1_q3) nin0)
  have u46 := u46.keep K2078 (ninS (Ne.symm ne_q1_q3) nin0)
  have u47 := u47.keep K2078 (ninS (Ne.symm ne_q1_q3) nin0)
  have u48 := u48.keep K2078 (ninS (Ne.symm ne_q1_q4) nin0)
  have u49 := u49.keep K2078 (ninS (Ne.symm ne_q1_q8) nin0)
  have u50 := u50.keep K2078 (ninS (Ne.symm ne_q1_q8) nin0)
  have u51 := u51.keep K2078 (ninS (Ne.symm ne_q1_q8) nin0)
  have u52 := u52.keep K2078 (ninS (Ne.symm ne_q1_q8) nin0)
  have u53 := u53.keep K2078 (ninS (Ne.symm ne_q1_q8) nin0)
  have Z0 := Nat.le_trans Z0 K2078.1
  have K0 := K0.trans K2078 (allS mi_q1 all0)
  refine gb T2078 (mkF m 30 #[SA q2, SA q7] [(.ref q2)]) (fun _ k => XS.aloadN X2078.here hx rfl (hb hby d34_29) rfl rfl k) ?_
  refine own_g1 (getF X2078 hx hZ hown (host := "") (Or.inl (ww hw 51 rfl)) Via.refl e2078 u42 rfl rfl (hb hby d34_30)) fun T2079 X2079 e2079 => ?_
  refine gb T2079 (mkF m 34 #[SA q2, SA q7] [(.ref q7), (.ref q3)]) (fun _ k => XS.aloadN X2079.here hx rfl (hb hby d34_33) rfl rfl k) ?_
  refine own_c1 (callV X2079 hx hZ (y := mn24) hown (ww hw 321 rfl) (ww hw 322 rfl) (ww hw 324 rfl) (ww hw 323 rfl) (ww hw 325 rfl) (ww hw 40 rfl) (by decide) e2079 u26 (argsL := [(.ref q7)]) (rest := []) (W := 0) (au39_take l Z a0 hw q3 q7 q4 q5 q8 y_36 y_37 y_39 y_50 y_51 y_53 y_38 y_47 y_52 T2078.heap n0 Z0 u26 u27 u34 u35 u36 u37 u38 u39 u40 u45 u46 u47 u48 u49 u50 u51 u52 u53 ne_q3_q4 ne_q3_q7 ne_q3_q8 ne_q4_q7 ne_q4_q8 ne_q7_q8 ge_q3 ge_q4 ge_q7 ge_q8) rfl (by decide) (by decide) (by decide) (by decide) rfl (by rw [hml]; rfl) (lenOf pd12 rfl) rfl (by show 2 * 0 + _ ≤ _; exact Nat.le_of_eq rfl) (hb hby d34_34)) fun v2095 T2095 L2095 X2095 hQ2095 => ?_
  obtain ⟨rfl, NL2095, K2095, f2080, f2081, f2082, f2083, f2084, f2085, f2086, f2087, f2088, f2089, f2090, f2091, f2092, f2093⟩ := hQ2095
  have N0 := Fr.app N0 NL2095
  have e2095 : T2095.heap = T2095.heap := rfl
  have u22 := u22.keep K2095
  have u25 := u25.keep K2095
  have u26 := u26.keep K2095
  have u28 := u28.keep K2095
  have nin_q5 := (ninS (Ne.symm ne_q3_q5) (ninS (Ne.symm ne_q4_q5) (ninS ne_q5_q7 (ninS ne_q5_q8 nin0))))
  have u29 := u29.keep K2095 nin_q5
  have u30 := u30.keep K2095 nin_q5
  have u34 := u34.keep K2095
  have u40 := u40.keep K2095
  have nin_q2 := (ninS ne_q2_q3 (ninS ne_q2_q4 (ninS ne_q2_q7 (ninS ne_q2_q8 nin0))))
  have u41 := u41.keep K2095 nin_q2
  have u42 := u42.keep K2095 nin_q2
  have u43 := u43.keep K2095 nin_q2
  have u44 := u44.keep K2095 nin_q2
  have nin_q1 := (ninS ne_q1_q3 (ninS ne_q1_q4 (ninS ne_q1_q7 (ninS ne_q1_q8 nin0))))
  have f2075 := f2075.keep K2095 nin_q1
  have f2076 := f2076.keep K2095 nin_q1
  have Z0 := Nat.le_trans Z0 K2095.1
  have K0 := K0.trans K2095 (allS mi_q3 (allS mi_q4 (allS mi_q7 (allS mi_q8 all0))))
  refine gb T2095 (mkF m 39 #[SA q2, SA q7] [(.ref q7), (.ref q2)]) (fun _ k => XS.aloadN X2095.here hx rfl (hb hby d34_37) rfl rfl (XS.aloadN X2095.here hx rfl (hb hby d34_38) rfl rfl k)) ?_
  refine own_g1 (getF X2095 hx hZ hown (host := "") (Or.inl (ww hw 117 rfl)) Via.refl e2095 f2083 rfl rfl (hb hby d34_39)) fun T2096 X2096 e2096 => ?_
  refine own_p1 (putF X2096 hx hZ hown (host := "") (Or.inl (ww hw 105 rfl)) Via.refl e2096 u43 u25 (Or.inl (ww hw 106 rfl)) (ww hw 27 rfl) (ty := .double) (by decide) rfl rfl rfl rfl (hb hby d34_42)) fun T2097 h2097 X2097 e2097 W2097 => ?_
  have N0 := Fr.snoc X2097 N0 ge_q2
  have u22 := u22.wr W2097
  have u25 := u25.wr W2097
  have u26 := u26.wr W2097
  have u28 := u28.wr W2097
  have u29 := u29.other W2097 (Or.inl (Ne.symm ne_q2_q5))
  have u30 := u30.other W2097 (Or.inl (Ne.symm ne_q2_q5))
  have u34 := u34.wr W2097
  have u40 := u40.wr W2097
  have u41 := own_oth u41 W2097 (Or.inr (ww hw 37 rfl)) (Or.inl (ww hw 106 rfl)) (by decide)
  have u42 := own_oth u42 W2097 (Or.inr (ww hw 52 rfl)) (Or.inl (ww hw 106 rfl)) (by decide)
  have u43 := u43.same W2097
  have u44 := own_oth u44 W2097 (Or.inl (ww hw 120 rfl)) (Or.inl (ww hw 106 rfl)) (by decide)
  have f2075 := f2075.other W2097 (Or.inl ne_q1_q2)
  have f2076 := f2076.other W2097 (Or.inl ne_q1_q2)
  have f2080 := f2080.other W2097 (Or.inl (Ne.symm ne_q2_q7))
  have f2081 := f2081.other W2097 (Or.inl (Ne.symm ne_q2_q7))
  have f2082 := f2082.other W2097 (Or.inl (Ne.symm ne_q2_q7))
  have f2083 := f2083.other W2097 (Or.inl (Ne.symm ne_q2_q7))
  have f2084 := f2084.other W2097 (Or.inl (Ne.symm ne_q2_q7))
  have f2085 := f2085.other W2097 (Or.inl (Ne.symm ne_q2_q3))
  have f2086 := f2086.other W2097 (Or.inl (Ne.symm ne_q2_q3))
  have f2087 := f2087.other W2097 (Or.inl (Ne.symm ne_q2_q3))
  have f2088 := f2088.other W2097 (Ne.symm ne_q2_q4)
  have f2089 := f2089.other W2097 (Or.inl (Ne.symm ne_q2_q8))
  have f2090 := f2090.other W2097 (Or.inl (Ne.symm ne_q2_q8))
  have f2091 := f2091.other W2097 (Or.inl (Ne.symm ne_q2_q8))
  have f2092 := f2092.other W2097 (Or.inl (Ne.symm ne_q2_q8))
  have f2093 := f2093.other W2097 (Or.inl (Ne.symm ne_q2_q8))
  have Z0 := own_zw Z0 W2097
  have K0 := K0.wr W2097 mi_q2
  refine gb T2097 (mkF m 46 #[SA q2, SA q7] [(.ref q7)]) (fun _ k => XS.aloadN X2097.here hx rfl (hb hby d34_45) rfl rfl k) ?_
  refine own_c1 (callVZ X2097 hx hZ (y := mn47) (z := mn30) hown (own_nf (y := mn14) (mvT (args := #[]) hZ (ww hw 113 rfl)) (mvT (args := #[]) hZ (ww hw 115 rfl)) rfl) (ww hw 333 rfl) (ww hw 334 rfl) (ww hw 335 rfl) (ww hw 336 rfl) (ww hw 337 rfl) (ww hw 83 rfl) (by decide) e2097 u34 (argsL := []) (rest := []) (W := 0) (au40_run l Z a0 hw q7 q5 y_29 y_30 y_37 h2097 n0 Z0 u28 u29 u30 f2080 f2082 ne_q5_q7 ge_q5) rfl (by decide) (by decide) (by decide) (by decide) rfl (by rw [hml]; rfl) (lenOf pd7 rfl) rfl (by show 2 * 0 + _ ≤ _; exact Nat.le_of_eq rfl) (hb hby d34_46)) fun v2100 T2100 L2100 X2100 hQ2100 => ?_
  obtain ⟨rfl, NL2100, K2100, f2098, f2099⟩ := hQ2100
  have N0 := Fr.app N0 NL2100
  have e2100 : T2100.heap = T2100.heap := rfl
  have u22 := u22.keep K2100
  have u25 := u25.keep K2100
  have u26 := u26.keep K2100
  have u28 := u28.keep K2100
  have u40 := u40.keep K2100
  have u41 := u41.keep K2100 (ninS ne_q2_q5 nin0)
  have u42 := u42.keep K2100 (ninS ne_q2_q5 nin0)
  have u43 := u43.keep K2100 (ninS ne_q2_q5 nin0)
  have u44 := u44.keep K2100 (ninS ne_q2_q5 nin0)
  have f2075 := f2075.keep K2100 (ninS ne_q1_q5 nin0)
  have f2076 := f2076.keep K2100 (ninS ne_q1_q5 nin0)
  have f2080 := f2080.keep K2100 (ninS (Ne.symm ne_q5_q7) nin0)
  have f2081 := f2081.keep K2100 (ninS (Ne.symm ne_q5_q7) nin0)
  have f2082 := f2082.keep K2100 (ninS (Ne.symm ne_q5_q7) nin0)
  have f2083 := f2083.keep K2100 (ninS (Ne.symm ne_q5_q7) nin0)
  have f2084 := f2084.keep K2100 (ninS (Ne.symm ne_q5_q7) nin0)
  have f2085 := f2085.keep K2100 (ninS ne_q3_q5 nin0)
  have f2086 := f2086.keep K2100 (ninS ne_q3_q5 nin0)
  have f2087 := f2087.keep K2100 (ninS ne_q3_q5 nin0)
  have f2088 := f2088.keep K2100 (ninS ne_q4_q5 nin0)
  have f2089 := f2089.keep K2100 (ninS (Ne.symm ne_q5_q8) nin0)
  have f2090 := f2090.keep K2100 (ninS (Ne.symm ne_q5_q8) nin0)
  have f2091 := f2091.keep K2100 (ninS (Ne.symm ne_q5_q8) nin0)
  have f2092 := f2092.keep K2100 (ninS (Ne.symm ne_q5_q8) nin0)
  have f2093 := f2093.keep K2100 (ninS (Ne.symm ne_q5_q8) nin0)
  have Z0 := Nat.le_trans Z0 K2100.1
  have K0 := K0.trans K2100 (allS mi_q5 all0)
  refine gb T2100 (mkF m 0 #[SA q2, SA q7] []) (fun _ k => XS.goto X2100.here hx rfl (pc0 := 49) (pc' := 0) rfl (hb hby d34_49) (by decide) (by decide) k) ?_
  refine gb T2100 (mkF m 1 #[SA q2, SA q7] [(.ref q2)]) (fun _ k => XS.aloadN X2100.here hx rfl (hb hby d34_0) rfl rfl k) ?_
  refine own_g1 (getF X2100 hx hZ hown (host := "") (Or.inl (ww hw 51 rfl)) Via.refl e2100 u42 rfl rfl (hb hby d34_1)) fun T2101 X2101 e2101 => ?_
  refine own_c1 (callV X2101 hx hZ (y := mn21) hown (ww hw 306 rfl) (ww hw 307 rfl) (ww hw 309 rfl) (ww hw 308 rfl) (ww hw 310 rfl) (ww hw 40 rfl) (by decide) e2101 u26 (argsL := []) (rest := []) (W := 0) (au34_size l Z a0 hw q3 (1 : Int32) T2100.heap n0 Z0 f2086) rfl (by decide) (by decide) (by decide) (by decide) rfl (by rw [hml]; rfl) (lenOf pd19 rfl) rfl (by show 2 * 0 + _ ≤ _; exact Nat.le_of_eq rfl) (hb hby d34_4)) fun v2103 T2103 L2103 X2103 hQ2103 => ?_
  obtain ⟨rfl, NL2103, hk2103⟩ := hQ2103
  have N0 := Fr.app N0 NL2103
  refine gb T2103 (mkF m 10 #[SA q2, SA q7] []) (fun _ k => XS.ifNo X2103.here hx rfl (hb hby d34_7) rfl (by decide) k) ?_
  refine gb T2103 (mkF m 11 #[SA q2, SA q7] [(.ref q2)]) (fun _ k => XS.aloadN X2103.here hx rfl (hb hby d34_10) rfl rfl k) ?_
  refine own_g1 (getF X2103 hx hZ hown (host := "") (Or.inl (ww hw 51 rfl)) Via.refl hk2103 u42 rfl rfl (hb hby d34_11)) fun T2104 X2104 e2104 => ?_
  refine own_c1 (callV X2104 hx hZ (y := mn22) hown (ww hw 311 rfl) (ww hw 312 rfl) (ww hw 314 rfl) (ww hw 313 rfl) (ww hw 315 rfl) (ww hw 40 rfl) (by decide) e2104 u26 (argsL := []) (rest := []) (W := 0) (au41_first l Z a0 hw q3 q4 q8 T2100.heap n0 Z0 f2085 f2088) rfl (by decide) (by decide) (by decide) (by decide) rfl (by rw [hml]; rfl) (lenOf pd21 rfl) rfl (by show 2 * 0 + _ ≤ _; exact Nat.le_of_eq rfl) (hb hby d34_14)) fun v2106 T2106 L2106 X2106 hQ2106 => ?_
  obtain ⟨rfl, NL2106, hk2106⟩ := hQ2106
  have N0 := Fr.app N0 NL2106
  refine gb T2106 (mkF m 19 #[SA q2, SA q8] [(.ref q2)]) (fun _ k => XS.astoreN X2106.here hx rfl (hb hby d34_17) rfl rfl (l' := #[SA q2, SA q8]) rfl (XS.aloadN X2106.here hx rfl (hb hby d34_18) rfl rfl k)) ?_
  refine own_g1 (getF X2106 hx hZ hown (host := "") (Or.inl (ww hw 36 rfl)) Via.refl hk2106 u41 rfl rfl (hb hby d34_19)) fun T2107 X2107 e2107 => ?_
  refine gb T2107 (mkF m 23 #[SA q2, SA q8] [(.ref q8), (.ref q1)]) (fun _ k => XS.aloadN X2107.here hx rfl (hb hby d34_22) rfl rfl k) ?_
  refine own_g1 (getF X2107 hx hZ hown (host := "") (Or.inl (ww hw 117 rfl)) Via.refl e2107 f2092 rfl rfl (hb hby d34_23)) fun T2108 X2108 e2108 => ?_
  refine own_c1 (callV X2108 hx hZ (y := mn23) hown (ww hw 316 rfl) (ww hw 317 rfl) (ww hw 319 rfl) (ww hw 318 rfl) (ww hw 320 rfl) (ww hw 7 rfl) (by decide) e2108 u22 (argsL := [(.double y_52)]) (rest := []) (W := 0) (au42_spend l Z a0 hw q1 y_52 T2100.heap n0 Z0 u22 f2075 f2076 ge_q1) rfl (by decide) (by decide) (by decide) (by decide) rfl (by rw [hml]; rfl) (lenOf pd22 rfl) rfl (by show 2 * 0 + _ ≤ _; exact Nat.le_of_eq rfl) (hb hby d34_26)) fun v2112 T2112 L2112 X2112 hQ2112 => ?_
  obtain ⟨rfl, NL2112, K2112, f2109, f2110⟩ := hQ2112
  have N0 := Fr.app N0 NL2112
  have e2112 : T2112.heap = T2112.heap := rfl
  have u25 := u25.keep K2112
  have u26 := u26.keep K2112
  have u28 := u28.keep K2112
  have u40 := u40.keep K2112
  have u41 := u41.keep K2112 (ninS (Ne.symm ne_q1_q2) nin0)
  have u42 := u42.keep K2112 (ninS (Ne.symm ne_q1_q2) nin0)
  have u43 := u43.keep K2112 (ninS (Ne.symm ne_q1_q2) nin0)
  have u44 := u44.keep K2112 (ninS (Ne.symm ne_q1_q2) nin0)
  have f2080 := f2080.keep K2112 (ninS (Ne.symm ne_q1_q7) nin0)
  have f2081 := f2081.keep K2112 (ninS (Ne.symm ne_q1_q7) nin0)
  have f2082 := f2082.keep K2112 (ninS (Ne.symm ne_q1_q7) nin0)
  have f2083 := f2083.keep K2112 (ninS (Ne.symm ne_q1_q7) nin0)
  have f2084 := f2084.keep K2112 (ninS (Ne.symm ne_q1_q7) nin0)
  have f2085 := f2085.keep K2112 (ninS (Ne.symm ne_q1_q3) nin0)
  have f2086 := f2086.keep K2112 (ninS (Ne.symm ne_q1_q3) nin0)
  have f2087 := f2087.keep K2112 (ninS (Ne.symm ne_q1_q3) nin0)
  have f2088 := f2088.keep K2112 (ninS (Ne.symm ne_q1_q4) nin0)
  have f2089 := f2089.keep K2112 (ninS (Ne.symm ne_q1_q8) nin0)
  have f2090 := f2090.keep K2112 (ninS (Ne.symm ne_q1_q8) nin0)
  have f2091 := f2091.keep K2112 (ninS (Ne.symm ne_q1_q8) nin0)
  have f2092 := f2092.keep K2112 (ninS (Ne.symm ne_q1_q8) nin0)
  have f2093 := f2093.keep K2112 (ninS (Ne.symm ne_q1_q8) nin0)
  have f2098 := f2098.keep K2112 (ninS (Ne.symm ne_q1_q5) nin0)
  have f2099 := f2099.keep K2112 (ninS (Ne.symm ne_q1_q5) nin0)
  have Z0 := Nat.le_trans Z0 K2112.1
  have K0 := K0.trans K2112 (allS mi_q1 all0)
  refine gb T2112 (mkF m 30 #[SA q2, SA q8] [(.ref q2)]) (fun _ k => XS.aloadN X2112.here hx rfl (hb hby d34_29) rfl rfl k) ?_
  refine own_g1 (getF X2112 hx hZ hown (host := "") (Or.inl (ww hw 51 rfl)) Via.refl e2112 u42 rfl rfl (hb hby d34_30)) fun T2113 X2113 e2113 => ?_
  refine gb T2113 (mkF m 34 #[SA q2, SA q8] [(.ref q8), (.ref q3)]) (fun _ k => XS.aloadN X2113.here hx rfl (hb hby d34_33) rfl rfl k) ?_
  refine own_c1 (callV X2113 hx hZ (y := mn24) hown (ww hw 321 rfl) (ww hw 322 rfl) (ww hw 324 rfl) (ww hw 323 rfl) (ww hw 325 rfl) (ww hw 40 rfl) (by decide) e2113 u26 (argsL := [(.ref q8)]) (rest := []) (W := 0) (au43_take l Z a0 hw q3 q8 q4 q5 (0 : Int64) y_51 y_53 y_38 y_52 T2112.heap n0 Z0 u26 u40 f2085 f2086 f2087 f2088 f2089 f2090 f2091 f2092 f2093 ne_q3_q4 ne_q3_q8 ne_q4_q8 ge_q3 ge_q4 ge_q8) rfl (by decide) (by decide) (by decide) (by decide) rfl (by rw [hml]; rfl) (lenOf pd12 rfl) rfl (by show 2 * 0 + _ ≤ _; exact Nat.le_of_eq rfl) (hb hby d34_34)) fun v2124 T2124 L2124 X2124 hQ2124 => ?_
  obtain ⟨rfl, NL2124, K2124, f2114, f2115, f2116, f2117, f2118, f2119, f2120, f2121, f2122⟩ := hQ2124
  have N0 := Fr.app N0 NL2124
  have e2124 : T2124.heap = T2124.heap := rfl
  have u25 := u25.keep K2124
  have u26 := u26.keep K2124
  have u28 := u28.keep K2124
  have u40 := u40.keep K2124
  have nin_q2 := (ninS ne_q2_q3 (ninS ne_q2_q4 (ninS ne_q2_q8 nin0)))
  have u41 := u41.keep K2124 nin_q2
  have u42 := u42.keep K2124 nin_q2
  have u43 := u43.keep K2124 nin_q2
  have u44 := u44.keep K2124 nin_q2
  have nin_q7 := (ninS (Ne.symm ne_q3_q7) (ninS (Ne.symm ne_q4_q7) (ninS ne_q7_q8 nin0)))
  have f2080 := f2080.keep K2124 nin_q7
  have f2081 := f2081.keep K2124 nin_q7
  have f2082 := f2082.keep K2124 nin_q7
  have f2083 := f2083.keep K2124 nin_q7
  have f2084 := f2084.keep K2124 nin_q7
  have nin_q5 := (ninS (Ne.symm ne_q3_q5) (ninS (Ne.symm ne_q4_q5) (ninS ne_q5_q8 nin0)))
  have f2098 := f2098.keep K2124 nin_q5
  have f2099 := f2099.keep K2124 nin_q5
  have nin_q1 := (ninS ne_q1_q3 (ninS ne_q1_q4 (ninS ne_q1_q8 nin0)))
  have f2109 := f2109.keep K2124 nin_q1
  have f2110 := f2110.keep K2124 nin_q1
  have Z0 := Nat.le_trans Z0 K2124.1
  have K0 := K0.trans K2124 (allS mi_q3 (allS mi_q4 (allS mi_q8 all0)))
  refine gb T2124 (mkF m 39 #[SA q2, SA q8] [(.ref q8), (.ref q2)]) (fun _ k => XS.aloadN X2124.here hx rfl (hb hby d34_37) rfl rfl (XS.aloadN X2124.here hx rfl (hb hby d34_38) rfl rfl k)) ?_
  refine own_g1 (getF X2124 hx hZ hown (host := "") (Or.inl (ww hw 117 rfl)) Via.refl e2124 f2121 rfl rfl (hb hby d34_39)) fun T2125 X2125 e2125 => ?_
  refine own_p1 (putF X2125 hx hZ hown (host := "") (Or.inl (ww hw 105 rfl)) Via.refl e2125 u43 u25 (Or.inl (ww hw 106 rfl)) (ww hw 27 rfl) (ty := .double) (by decide) rfl rfl rfl rfl (hb hby d34_42)) fun T2126 h2126 X2126 e2126 W2126 => ?_
  have N0 := Fr.snoc X2126 N0 ge_q2
  have u26 := u26.wr W2126
  have u28 := u28.wr W2126
  have u40 := u40.wr W2126
  have u41 := own_oth u41 W2126 (Or.inr (ww hw 37 rfl)) (Or.inl (ww hw 106 rfl)) (by decide)
  have u42 := own_oth u42 W2126 (Or.inr (ww hw 52 rfl)) (Or.inl (ww hw 106 rfl)) (by decide)
  have u43 := u43.same W2126
  have u44 := own_oth u44 W2126 (Or.inl (ww hw 120 rfl)) (Or.inl (ww hw 106 rfl)) (by decide)
  have f2080 := f2080.other W2126 (Or.inl (Ne.symm ne_q2_q7))
  have f2081 := f2081.other W2126 (Or.inl (Ne.symm ne_q2_q7))
  have f2082 := f2082.other W2126 (Or.inl (Ne.symm ne_q2_q7))
  have f2083 := f2083.other W2126 (Or.inl (Ne.symm ne_q2_q7))
  have f2084 := f2084.other W2126 (Or.inl (Ne.symm ne_q2_q7))
  have f2098 := f2098.other W2126 (Or.inl (Ne.symm ne_q2_q5))
  have f2099 := f2099.other W2126 (Or.inl (Ne.symm ne_q2_q5))
  have f2109 := f2109.other W2126 (Or.inl ne_q1_q2)
  have f2110 := f2110.other W2126 (Or.inl ne_q1_q2)
  have f2114 := f2114.other W2126 (Or.inl (Ne.symm ne_q2_q3))
  have f2115 := f2115.other W2126 (Or.inl (Ne.symm ne_q2_q3))
  have f2116 := f2116.other W2126 (Or.inl (Ne.symm ne_q2_q3))
  have f2117 := f2117.other W2126 (Ne.symm ne_q2_q4)
  have f2118 := f2118.other W2126 (Or.inl (Ne.symm ne_q2_q8))
  have f2119 := f2119.other W2126 (Or.inl (Ne.symm ne_q2_q8))
  have f2120 := f2120.other W2126 (Or.inl (Ne.symm ne_q2_q8))
  have f2121 := f2121.other W2126 (Or.inl (Ne.symm ne_q2_q8))
  have f2122 := f2122.other W2126 (Or.inl (Ne.symm ne_q2_q8))
  have Z0 := own_zw Z0 W2126
  have K0 := K0.wr W2126 mi_q2
  refine gb T2126 (mkF m 46 #[SA q2, SA q8] [(.ref q8)]) (fun _ k => XS.aloadN X2126.here hx rfl (hb hby d34_45) rfl rfl k) ?_
  refine own_c1 (callVZ X2126 hx hZ (y := mn47) (z := mn30) hown (own_nf (y := mn14) (mvT (args := #[]) hZ (ww hw 113 rfl)) (mvT (args := #[]) hZ (ww hw 115 rfl)) rfl) (ww hw 333 rfl) (ww hw 334 rfl) (ww hw 335 rfl) (ww hw 336 rfl) (ww hw 337 rfl) (ww hw 83 rfl) (by decide) e2126 u40 (argsL := []) (rest := []) (W := 0) (au40_run l Z a0 hw q8 q5 (1 : Int64) y_37 y_51 h2126 n0 Z0 u28 f2098 f2099 f2118 f2120 ne_q5_q8 ge_q5) rfl (by decide) (by decide) (by decide) (by decide) rfl (by rw [hml]; rfl) (lenOf pd7 rfl) rfl (by show 2 * 0 + _ ≤ _; exact Nat.le_of_eq rfl) (hb hby d34_46)) fun v2129 T2129 L2129 X2129 hQ2129 => ?_
  obtain ⟨rfl, NL2129, K2129, f2127, f2128⟩ := hQ2129
  have N0 := Fr.app N0 NL2129
  have e2129 : T2129.heap = T2129.heap := rfl
  have u26 := u26.keep K2129
  have u41 := u41.keep K2129 (ninS ne_q2_q5 nin0)
  have u42 := u42.keep K2129 (ninS ne_q2_q5 nin0)
  have u43 := u43.keep K2129 (ninS ne_q2_q5 nin0)
  have u44 := u44.keep K2129 (ninS ne_q2_q5 nin0)
  have f2080 := f2080.keep K2129 (ninS (Ne.symm ne_q5_q7) nin0)
  have f2081 := f2081.keep K2129 (ninS (Ne.symm ne_q5_q7) nin0)
  have f2082 := f2082.keep K2129 (ninS (Ne.symm ne_q5_q7) nin0)
  have f2083 := f2083.keep K2129 (ninS (Ne.symm ne_q5_q7) nin0)
  have f2084 := f2084.keep K2129 (ninS (Ne.symm ne_q5_q7) nin0)
  have f2109 := f2109.keep K2129 (ninS ne_q1_q5 nin0)
  have f2110 := f2110.keep K2129 (ninS ne_q1_q5 nin0)
  have f2114 := f2114.keep K2129 (ninS ne_q3_q5 nin0)
  have f2115 := f2115.keep K2129 (ninS ne_q3_q5 nin0)
  have f2116 := f2116.keep K2129 (ninS ne_q3_q5 nin0)
  have f2117 := f2117.keep K2129 (ninS ne_q4_q5 nin0)
  have f2118 := f2118.keep K2129 (ninS (Ne.symm ne_q5_q8) nin0)
  have f2119 := f2119.keep K2129 (ninS (Ne.symm ne_q5_q8) nin0)
  have f2120 := f2120.keep K2129 (ninS (Ne.symm ne_q5_q8) nin0)
  have f2121 := f2121.keep K2129 (ninS (Ne.symm ne_q5_q8) nin0)
  have f2122 := f2122.keep K2129 (ninS (Ne.symm ne_q5_q8) nin0)
  have Z0 := Nat.le_trans Z0 K2129.1
  have K0 := K0.trans K2129 (allS mi_q5 all0)
  refine gb T2129 (mkF m 0 #[SA q2, SA q8] []) (fun _ k => XS.goto X2129.here hx rfl (pc0 := 49) (pc' := 0) rfl (hb hby d34_49) (by decide) (by decide) k) ?_
  refine gb T2129 (mkF m 1 #[SA q2, SA q8] [(.ref q2)]) (fun _ k => XS.aloadN X2129.here hx rfl (hb hby d34_0) rfl rfl k) ?_
  refine own_g1 (getF X2129 hx hZ hown (host := "") (Or.inl (ww hw 51 rfl)) Via.refl e2129 u42 rfl rfl (hb hby d34_1)) fun T2130 X2130 e2130 => ?_
  refine own_c1 (callV X2130 hx hZ (y := mn21) hown (ww hw 306 rfl) (ww hw 307 rfl) (ww hw 309 rfl) (ww hw 308 rfl) (ww hw 310 rfl) (ww hw 40 rfl) (by decide) e2130 u26 (argsL := []) (rest := []) (W := 0) (au34_size l Z a0 hw q3 (0 : Int32) T2129.heap n0 Z0 f2115) rfl (by decide) (by decide) (by decide) (by decide) rfl (by rw [hml]; rfl) (lenOf pd19 rfl) rfl (by show 2 * 0 + _ ≤ _; exact Nat.le_of_eq rfl) (hb hby d34_4)) fun v2132 T2132 L2132 X2132 hQ2132 => ?_
  obtain ⟨rfl, NL2132, hk2132⟩ := hQ2132
  have N0 := Fr.app N0 NL2132
  refine gb T2132 (mkF m 52 #[SA q2, SA q8] []) (fun _ k => XS.ifYes X2132.here hx rfl (pc0 := 7) (pc' := 52) rfl (hb hby d34_7) rfl (by decide) (by decide) (by decide) k) ?_
  exact outV X2132 hx hlk hret (hb hby d34_52) (by rw [hk2132]; exact ⟨rfl, N0, K0, u41, u42, u43, u44, f2080, f2081, f2082, f2083, f2084, f2109, f2110, f2114, f2115, f2116, f2117, f2118, f2119, f2120, f2121, f2122, f2127, f2128⟩) (by decide) (by decide)
theorem d32_0 : decode prog_38_method_3_code 0 = .ok (.aload_n 0, 1) := by decide +kernel
theorem d32_1 : decode prog_38_method_3_code 1 = .ok (.getfield 39, 3) := by decide +kernel
theorem d32_4 : decode prog_38_method_3_code 4 = .ok (.lreturn, 1) := by decide +kernel
set_option maxRecDepth 65536 in
set_option maxHeartbeats 40000000 in
theorem au45_begun (l : Launch) (Z : State) (a0 : Array Value) (hw : ∀ d ∈ tables_1, d.before a0 Z = true) (q5 : Addr) (y_29 : Int64) (h0 : Heap) (n0 : Nat) (Z0 : n0 ≤ h0.size) (u29 : Fld Z h0 q5 sn12 "begun" "J" (.long y_29)) :
    Does l mn31 prog_38_method_3_code 1 (some .long) [] ({ frames := 0, cells := 0, slots := 0, locals := 0 } : Room) Z #[(.ref q5)] h0 (fun v h L => v = some (.long y_29) ∧ Fr n0 L ∧ h = h0) := by
  refine Does.of (plainFor_of_name pn8) ?_
  intro p e s m below meth c s₁ hx hby hml hret hlk hZ hown hnm X0 e0
  have N0 := Fr.nil n0
  refine Goes.cast (g' := mkF m 0 #[SA q5] []) (ef_au0_now m q5) ?_
  have K0 := Keep.refl h0 []
  refine gb s₁ (mkF m 1 #[SA q5] [(.ref q5)]) (fun _ k => XS.aloadN X0.here hx rfl (hb hby d32_0) rfl rfl k) ?_
  refine own_g1 (getF X0 hx hZ hown (host := "") (Or.inl (ww hw 278 rfl)) Via.refl e0 u29 rfl rfl (hb hby d32_1)) fun T2164 X2164 e2164 => ?_
  exact outJ X2164 hx hlk hret (hb hby d32_4) (by rw [e2164]; exact ⟨rfl, N0, rfl⟩) (by decide) (by decide)
theorem d33_0 : decode prog_40_method_1_code 0 = .ok (.aload_n 0, 1) := by decide +kernel
theorem d33_1 : decode prog_40_method_1_code 1 = .ok (.invokespecial 1, 3) := by decide +kernel
theorem d33_4 : decode prog_40_method_1_code 4 = .ok (.aload_n 0, 1) := by decide +kernel
theorem d33_5 : decode prog_40_method_1_code 5 = .ok (.aload_n 1, 1) := by decide +kernel
theorem d33_6 : decode prog_40_method_1_code 6 = .ok (.putfield 7, 3) := by decide +kernel
theorem d33_9 : decode prog_40_method_1_code 9 = .ok (.aload_n 0, 1) := by decide +kernel
theorem d33_10 : decode prog_40_method_1_code 10 = .ok (.lload_n 2, 1) := by decide +kernel
theorem d33_11 : decode prog_40_method_1_code 11 = .ok (.putfield 13, 3) := by decide +kernel
theorem d33_14 : decode prog_40_method_1_code 14 = .ok (.aload_n 0, 1) := by decide +kernel
theorem d33_15 : decode prog_40_method_1_code 15 = .ok (.dload 4, 2) := by decide +kernel
theorem d33_17 : decode prog_40_method_1_code 17 = .ok (.putfield 17, 3) := by decide +kernel
theorem d33_20 : decode prog_40_method_1_code 20 = .ok (.aload_n 0, 1) := by decide +kernel
theorem d33_21 : decode prog_40_method_1_code 21 = .ok (.dload 6, 2) := by decide +kernel
theorem d33_23 : decode prog_40_method_1_code 23 = .ok (.putfield 21, 3) := by decide +kernel
theorem d33_26 : decode prog_40_method_1_code 26 = .ok (.aload_n 0, 1) := by decide +kernel
theorem d33_27 : decode prog_40_method_1_code 27 = .ok (.iload 8, 2) := by decide +kernel
theorem d33_29 : decode prog_40_method_1_code 29 = .ok (.putfield 24, 3) := by decide +kernel
theorem d33_32 : decode prog_40_method_1_code 32 = .ok (.return_, 1) := by decide +kernel
theorem ef_au46_init (m : MethodId) (x0 : Addr) (x2 : Int64) (x3 : UInt64) (x4 : UInt64) (x5 : Int32) : entryFrame m #[(.ref x0), .null, (.long x2), (.double x3), (.double x4), (.int x5)] 9 = mkF m 0 #[SA x0, SN, SJ x2, S2, SD x3, S2, SD x4, S2, SI x5] [] := by first | (simp [entryFrame, mkF, argsToLocals, Value.category, maxLocals]; done) | rfl
set_option maxRecDepth 65536 in
set_option maxHeartbeats 40000000 in
theorem au46_init (l : Launch) (Z : State) (a0 : Array Value) (hw : ∀ d ∈ tables_1, d.before a0 Z = true) (o30_1 : Addr) (y_84 : Int32) (y_a2 y_81 : Int64) (y_a3 y_a4 y_82 y_83 : UInt64) (h0 : Heap) (n0 : Nat) (Z0 : n0 ≤ h0.size) (u79 : Exa Z h0 o30_1 sn7) (u80 : Fld Z h0 o30_1 sn7 "origin" sn31 .null) (u81 : Fld Z h0 o30_1 sn7 "sequence" "J" (.long y_81)) (u82 : Fld Z h0 o30_1 sn7 "produced" "D" (.double y_82)) (u83 : Fld Z h0 o30_1 sn7 "deadline" "D" (.double y_83)) (u84 : Fld Z h0 o30_1 sn7 "measured" "Z" (.int y_84)) (ge_o30_1 : n0 ≤ o30_1) :
    Does l mn26 prog_40_method_1_code 9 none [] ({ frames := 1, cells := 0, slots := 0, locals := 12 } : Room) Z #[(.ref o30_1), .null, (.long y_a2), (.double y_a3), (.double y_a4), (.int (0 : Int32))] h0 (fun v h L => v = none ∧ Fr n0 L ∧ Keep h0 h [o30_1] ∧ Fld Z h o30_1 sn7 "produced" "D" (.double y_a3) ∧ Fld Z h o30_1 sn7 "measured" "Z" (.int (0 : Int32))) := by
  refine Does.of (plainFor_of_name pn16) ?_
  intro p e s m below meth c s₁ hx hby hml hret hlk hZ hown hnm X0 e0
  have N0 := Fr.nil n0
  refine Goes.cast (g' := mkF m 0 #[SA o30_1, SN, SJ y_a2, S2, SD y_a3, S2, SD y_a4, S2, SI 0] []) (ef_au46_init m o30_1 y_a2 y_a3 y_a4 (0 : Int32)) ?_
  have mi_o30_1 : o30_1 ∈ [o30_1] ∨ h0.size ≤ o30_1 := (Or.inl (List.mem_cons_self ..))
  have K0 := Keep.refl h0 [o30_1]
  refine gb s₁ (mkF m 1 #[SA o30_1, SN, SJ y_a2, S2, SD y_a3, S2, SD y_a4, S2, SI 0] [(.ref o30_1)]) (fun _ k => XS.aloadN X0.here hx rfl (hb hby d33_0) rfl rfl k) ?_
  obtain ⟨T2248, X2248, e2248, st2248⟩ := initO X0 hx hZ hown (ww hw 290 rfl) (ww hw 16 rfl) (ww hw 17 rfl) e0 (g := (mkF m 1 #[SA o30_1, SN, SJ y_a2, S2, SD y_a3, S2, SD y_a4, S2, SI 0] [(.ref o30_1)])) rfl (by rw [hml]; rfl) rfl (hb hby d33_1) (by decide) (W := 0) (by show 2 * 0 + _ ≤ _; exact Nat.le_of_eq rfl) (by decide)
  refine gb T2248 (mkF m 4 #[SA o30_1, SN, SJ y_a2, S2, SD y_a3, S2, SD y_a4, S2, SI 0] []) st2248 ?_
  refine gb T2248 (mkF m 6 #[SA o30_1, SN, SJ y_a2, S2, SD y_a3, S2, SD y_a4, S2, SI 0] [.null, (.ref o30_1)]) (fun _ k => XS.aloadN X2248.here hx rfl (hb hby d33_4) rfl rfl (XS.aloadN X2248.here hx rfl (hb hby d33_5) rfl rfl k)) ?_
  refine own_p1 (putF X2248 hx hZ hown (host := "") (Or.inl (ww hw 291 rfl)) Via.refl e2248 u80 u79 (Or.inr ⟨(ww hw 292 rfl), rfl, hnm⟩) (ww hw 285 rfl) (ty := (.object sn32)) (by decide) rfl rfl rfl rfl (hb hby d33_6)) fun T2249 h2249 X2249 e2249 W2249 => ?_
  have N0 := Fr.snoc X2249 N0 ge_o30_1
  have u79 := u79.wr W2249
  have u81 := own_oth u81 W2249 (Or.inr (ww hw 294 rfl)) (Or.inr (ww hw 292 rfl)) (by decide)
  have u82 := own_oth u82 W2249 (Or.inr (ww hw 296 rfl)) (Or.inr (ww hw 292 rfl)) (by decide)
  have u83 := own_oth u83 W2249 (Or.inr (ww hw 298 rfl)) (Or.inr (ww hw 292 rfl)) (by decide)
  have u84 := own_oth u84 W2249 (Or.inr (ww hw 300 rfl)) (Or.inr (ww hw 292 rfl)) (by decide)
  have Z0 := own_zw Z0 W2249
  have K0 := K0.wr W2249 mi_o30_1
  refine gb T2249 (mkF m 11 #[SA o30_1, SN, SJ y_a2, S2, SD y_a3, S2, SD y_a4, S2, SI 0] [(.long y_a2), (.ref o30_1)]) (fun _ k => XS.aloadN X2249.here hx rfl (hb hby d33_9) rfl rfl (XS.lloadN X2249.here hx rfl (hb hby d33_10) rfl k)) ?_
  refine own_p1 (putF X2249 hx hZ hown (host := "") (Or.inl (ww hw 293 rfl)) Via.refl e2249 u81 u79 (Or.inr ⟨(ww hw 294 rfl), rfl, hnm⟩) (ww hw 285 rfl) (ty := .long) (by decide) rfl rfl rfl rfl (hb hby d33_11)) fun T2250 h2250 X2250 e2250 W2250 => ?_
  have N0 := Fr.snoc X2250 N0 ge_o30_1
  have u79 := u79.wr W2250
  have u82 := own_oth u82 W2250 (Or.inr (ww hw 296 rfl)) (Or.inr (ww hw 294 rfl)) (by decide)
  have u83 := own_oth u83 W2250 (Or.inr (ww hw 298 rfl)) (Or.inr (ww hw 294 rfl)) (by decide)
  have u84 := own_oth u84 W2250 (Or.inr (ww hw 300 rfl)) (Or.inr (ww hw 294 rfl)) (by decide)
  have Z0 := own_zw Z0 W2250
  have K0 := K0.wr W2250 mi_o30_1
  refine gb T2250 (mkF m 17 #[SA o30_1, SN, SJ y_a2, S2, SD y_a3, S2, SD y_a4, S2, SI 0] [(.double y_a3), (.ref o30_1)]) (fun _ k => XS.aloadN X2250.here hx rfl (hb hby d33_14) rfl rfl (XS.dload X2250.here hx rfl (hb hby d33_15) rfl k)) ?_
  refine own_p1 (putF X2250 hx hZ hown (host := "") (Or.inl (ww hw 295 rfl)) Via.refl e2250 u82 u79 (Or.inr ⟨(ww hw 296 rfl), rfl, hnm⟩) (ww hw 285 rfl) (ty := .double) (by decide) rfl rfl rfl rfl (hb hby d33_17)) fun T2251 h2251 X2251 e2251 W2251 => ?_
  have N0 := Fr.snoc X2251 N0 ge_o30_1
  have u79 := u79.wr W2251
  have u82 := u82.same W2251
  have u83 := own_oth u83 W2251 (Or.inr (ww hw 298 rfl)) (Or.inr (ww hw 296 rfl)) (by decide)
  have u84 := own_oth u84 W2251 (Or.inr (ww hw 300 rfl)) (Or.inr (ww hw 296 rfl)) (by decide)
  have Z0 := own_zw Z0 W2251
  have K0 := K0.wr W2251 mi_o30_1
  refine gb T2251 (mkF m 23 #[SA o30_1, SN, SJ y_a2, S2, SD y_a3, S2, SD y_a4, S2, SI 0] [(.double y_a4), (.ref o30_1)]) (fun _ k => XS.aloadN X2251.here hx rfl (hb hby d33_20) rfl rfl (XS.dload X2251.here hx rfl (hb hby d33_21) rfl k)) ?_
  refine own_p1 (putF X2251 hx hZ hown (host := "") (Or.inl (ww hw 297 rfl)) Via.refl e2251 u83 u79 (Or.inr ⟨(ww hw 298 rfl), rfl, hnm⟩) (ww hw 285 rfl) (ty := .double) (by decide) rfl rfl rfl rfl (hb hby d33_23)) fun T2252 h2252 X2252 e2252 W2252 => ?_
  have N0 := Fr.snoc X2252 N0 ge_o30_1
  have u79 := u79.wr W2252
  have u82 := own_oth u82 W2252 (Or.inr (ww hw 296 rfl)) (Or.inr (ww hw 298 rfl)) (by decide)
  have u84 := own_oth u84 W2252 (Or.inr (ww hw 300 rfl)) (Or.inr (ww hw 298 rfl)) (by decide)
  have Z0 := own_zw Z0 W2252
  have K0 := K0.wr W2252 mi_o30_1
  refine gb T2252 (mkF m 29 #[SA o30_1, SN, SJ y_a2, S2, SD y_a3, S2, SD y_a4, S2, SI 0] [(.int (0 : Int32)), (.ref o30_1)]) (fun _ k => XS.aloadN X2252.here hx rfl (hb hby d33_26) rfl rfl (XS.iload X2252.here hx rfl (hb hby d33_27) rfl k)) ?_
  obtain ⟨T2253, h2253, X2253, e2253, W2253, st2253⟩ := putFN X2252 hx hZ hown (ww hw 299 rfl) Via.refl e2252 u84 u79 (Or.inr ⟨(ww hw 300 rfl), rfl, hnm⟩) (ww hw 285 rfl) (ty := .boolean) (v' := (.int (0 : Int32))) (by decide) rfl (by decide) (g := (mkF m 29 #[SA o30_1, SN, SJ y_a2, S2, SD y_a3, S2, SD y_a4, S2, SI 0] [(.int (0 : Int32)), (.ref o30_1)])) rfl rfl (hb hby d33_29)
  have N0 := Fr.snoc X2253 N0 ge_o30_1
  have u82 := own_oth u82 W2253 (Or.inr (ww hw 296 rfl)) (Or.inr (ww hw 300 rfl)) (by decide)
  have u84 := u84.same W2253
  have Z0 := own_zw Z0 W2253
  have K0 := K0.wr W2253 mi_o30_1
  refine gb T2253 (mkF m 32 #[SA o30_1, SN, SJ y_a2, S2, SD y_a3, S2, SD y_a4, S2, SI 0] []) st2253 ?_
  exact outV X2253 hx hlk hret (hb hby d33_32) (by rw [e2253]; exact ⟨rfl, N0, K0, u82, u84⟩) (by decide) (by decide)
theorem d30_0 : decode prog_35_method_3_code 0 = .ok (.aload_n 0, 1) := by decide +kernel
theorem d30_1 : decode prog_35_method_3_code 1 = .ok (.getfield 33, 3) := by decide +kernel
theorem d30_4 : decode prog_35_method_3_code 4 = .ok (.invokevirtual 82, 3) := by decide +kernel
theorem d30_7 : decode prog_35_method_3_code 7 = .ok (.dstore 6, 2) := by decide +kernel
theorem d30_9 : decode prog_35_method_3_code 9 = .ok (.aload_n 0, 1) := by decide +kernel
theorem d30_10 : decode prog_35_method_3_code 10 = .ok (.getfield 41, 3) := by decide +kernel
theorem d30_13 : decode prog_35_method_3_code 13 = .ok (.invokevirtual 87, 3) := by decide +kernel
theorem d30_16 : decode prog_35_method_3_code 16 = .ok (.lstore 8, 2) := by decide +kernel
theorem d30_18 : decode prog_35_method_3_code 18 = .ok (.aload_n 0, 1) := by decide +kernel
theorem d30_19 : decode prog_35_method_3_code 19 = .ok (.dup, 1) := by decide +kernel
theorem d30_20 : decode prog_35_method_3_code 20 = .ok (.getfield 93, 3) := by decide +kernel
theorem d30_23 : decode prog_35_method_3_code 23 = .ok (.lconst 1, 1) := by decide +kernel
theorem d30_24 : decode prog_35_method_3_code 24 = .ok (.ladd, 1) := by decide +kernel
theorem d30_25 : decode prog_35_method_3_code 25 = .ok (.putfield 93, 3) := by decide +kernel
theorem d30_28 : decode prog_35_method_3_code 28 = .ok (.aload_n 0, 1) := by decide +kernel
theorem d30_29 : decode prog_35_method_3_code 29 = .ok (.dup, 1) := by decide +kernel
theorem d30_30 : decode prog_35_method_3_code 30 = .ok (.getfield 97, 3) := by decide +kernel
theorem d30_33 : decode prog_35_method_3_code 33 = .ok (.lload 8, 2) := by decide +kernel
theorem d30_35 : decode prog_35_method_3_code 35 = .ok (.ladd, 1) := by decide +kernel
theorem d30_36 : decode prog_35_method_3_code 36 = .ok (.putfield 97, 3) := by decide +kernel
theorem d30_39 : decode prog_35_method_3_code 39 = .ok (.new 100, 3) := by decide +kernel
theorem d30_42 : decode prog_35_method_3_code 42 = .ok (.dup, 1) := by decide +kernel
theorem d30_43 : decode prog_35_method_3_code 43 = .ok (.aload_n 1, 1) := by decide +kernel
theorem d30_44 : decode prog_35_method_3_code 44 = .ok (.lload_n 2, 1) := by decide +kernel
theorem d30_45 : decode prog_35_method_3_code 45 = .ok (.dload 6, 2) := by decide +kernel
theorem d30_47 : decode prog_35_method_3_code 47 = .ok (.dload 6, 2) := by decide +kernel
theorem d30_49 : decode prog_35_method_3_code 49 = .ok (.dload 4, 2) := by decide +kernel
theorem d30_51 : decode prog_35_method_3_code 51 = .ok (.dadd, 1) := by decide +kernel
theorem d30_52 : decode prog_35_method_3_code 52 = .ok (.lload 8, 2) := by decide +kernel
theorem d30_54 : decode prog_35_method_3_code 54 = .ok (.lconst 0, 1) := by decide +kernel
theorem d30_55 : decode prog_35_method_3_code 55 = .ok (.lcmp, 1) := by decide +kernel
theorem d30_56 : decode prog_35_method_3_code 56 = .ok (.ifCond .eq 7, 3) := by decide +kernel
theorem d30_59 : decode prog_35_method_3_code 59 = .ok (.iconst 1, 1) := by decide +kernel
theorem d30_60 : decode prog_35_method_3_code 60 = .ok (.goto 4, 3) := by decide +kernel
theorem d30_63 : decode prog_35_method_3_code 63 = .ok (.iconst 0, 1) := by decide +kernel
theorem d30_64 : decode prog_35_method_3_code 64 = .ok (.invokespecial 102, 3) := by decide +kernel
theorem d30_67 : decode prog_35_method_3_code 67 = .ok (.areturn, 1) := by decide +kernel
theorem ef_au47_produce (m : MethodId) (x0 : Addr) (x2 : Int64) (x3 : UInt64) : entryFrame m #[(.ref x0), .null, (.long x2), (.double x3)] 10 = mkF m 0 #[SA x0, SN, SJ x2, S2, SD x3, S2, SU, SU, SU, SU] [] := by first | (simp [entryFrame, mkF, argsToLocals, Value.category, maxLocals]; done) | rfl
set_option maxRecDepth 65536 in
set_option maxHeartbeats 40000000 in
theorem au47_produce (l : Launch) (Z : State) (a0 : Array Value) (hw : ∀ d ∈ tables_1, d.before a0 Z = true) (q9 q2 q5 q11 q12 q13 q10 q14 q15 : Addr) (y_a2 y_66 y_67 y_68 : Int64) (y_69 : UInt64) (h0 : Heap) (n0 : Nat) (Z0 : n0 ≤ h0.size) (u25 : Exa Z h0 q2 sn2) (u28 : Exa Z h0 q5 sn12) (u29 : Fld Z h0 q5 sn12 "begun" "J" (.long (0 : Int64))) (u43 : Fld Z h0 q2 sn2 "now" "D" (.double (0 : UInt64))) (u54 : Exa Z h0 q9 sn0) (u58 : Fld Z h0 q9 sn0 "left" "[J" (.ref q11)) (u59 : Fld Z h0 q9 sn0 "responseTimes" sn19 (.ref q12)) (u60 : Fld Z h0 q9 sn0 "watchers" sn17 (.ref q13)) (u61 : Fld Z h0 q9 sn0 "simulation" sn14 (.ref q2)) (u62 : Fld Z h0 q9 sn0 "window" sn15 (.ref q10)) (u63 : Fld Z h0 q9 sn0 "measurement" sn6 (.ref q5)) (u64 : Fld Z h0 q9 sn0 "within" "[D" (.ref q14)) (u65 : Fld Z h0 q9 sn0 "deliveredBy" "[J" (.ref q15)) (u66 : Fld Z h0 q9 sn0 "inNetwork" "J" (.long y_66)) (u67 : Fld Z h0 q9 sn0 "produced" "J" (.long y_67)) (u68 : Fld Z h0 q9 sn0 sn18 "J" (.long y_68)) (u69 : Fld Z h0 q9 sn0 sn20 "D" (.double y_69)) (ge_q9 : n0 ≤ q9) :
    Does l mn15 prog_35_method_3_code 10 (some (.object sn7)) [] ({ frames := 2, cells := 1, slots := 5, locals := 33 } : Room) Z #[(.ref q9), .null, (.long y_a2), (.double (4607182418800017408 : UInt64))] h0 (fun v h L => ∃ (o30_1 : Addr), v = some (.ref o30_1) ∧ Fr n0 L ∧ Keep h0 h [q9] ∧ h0.size ≤ o30_1 ∧ Fld Z h q9 sn0 "left" "[J" (.ref q11) ∧ Fld Z h q9 sn0 "responseTimes" sn19 (.ref q12) ∧ Fld Z h q9 sn0 "watchers" sn17 (.ref q13) ∧ Fld Z h q9 sn0 "simulation" sn14 (.ref q2) ∧ Fld Z h q9 sn0 "window" sn15 (.ref q10) ∧ Fld Z h q9 sn0 "measurement" sn6 (.ref q5) ∧ Fld Z h q9 sn0 "within" "[D" (.ref q14) ∧ Fld Z h q9 sn0 "deliveredBy" "[J" (.ref q15) ∧ Fld Z h q9 sn0 "inNetwork" "J" (.long (y_66 + (1 : Int64))) ∧ Fld Z h q9 sn0 "produced" "J" (.long (y_67 + (0 : Int64))) ∧ Fld Z h q9 sn0 sn18 "J" (.long y_68) ∧ Fld Z h q9 sn0 sn20 "D" (.double y_69) ∧ Exa Z h o30_1 sn7 ∧ Fld Z h o30_1 sn7 "produced" "D" (.double (0 : UInt64)) ∧ Fld Z h o30_1 sn7 "measured" "Z" (.int (0 : Int32))) := by
  refine Does.of (plainFor_of_name pn0) ?_
  intro p e s m below meth c s₁ hx hby hml hret hlk hZ hown hnm X0 e0
  have N0 := Fr.nil n0
  refine Goes.cast (g' := mkF m 0 #[SA q9, SN, SJ y_a2, S2, SD 4607182418800017408, S2, SU, SU, SU, SU] []) (ef_au47_produce m q9 y_a2 (4607182418800017408 : UInt64)) ?_
  have mi_q9 : q9 ∈ [q9] ∨ h0.size ≤ q9 := (Or.inl (List.mem_cons_self ..))
  have K0 := Keep.refl h0 [q9]
  refine gb s₁ (mkF m 1 #[SA q9, SN, SJ y_a2, S2, SD 4607182418800017408, S2, SU, SU, SU, SU] [(.ref q9)]) (fun _ k => XS.aloadN X0.here hx rfl (hb hby d30_0) rfl rfl k) ?_
  refine own_g1 (getF X0 hx hZ hown (host := "") (Or.inl (ww hw 231 rfl)) Via.refl e0 u61 rfl rfl (hb hby d30_1)) fun T2295 X2295 e2295 => ?_
  refine own_c1 (callV X2295 hx hZ (y := mn2) hown (ww hw 268 rfl) (ww hw 269 rfl) (ww hw 271 rfl) (ww hw 270 rfl) (ww hw 272 rfl) (ww hw 28 rfl) (by decide) e2295 u25 (argsL := []) (rest := []) (W := 0) (au0_now l Z a0 hw q2 (0 : UInt64) h0 n0 Z0 u43) rfl (by decide) (by decide) (by decide) (by decide) rfl (by rw [hml]; rfl) (lenOf pd1 rfl) rfl (by show 2 * 0 + _ ≤ _; exact Nat.le_of_eq rfl) (hb hby d30_4)) fun v2297 T2297 L2297 X2297 hQ2297 => ?_
  obtain ⟨rfl, NL2297, hk2297⟩ := hQ2297
  have N0 := Fr.app N0 NL2297
  refine gb T2297 (mkF m 10 #[SA q9, SN, SJ y_a2, S2, SD 4607182418800017408, S2, SD 0, S2, SU, SU] [(.ref q9)]) (fun _ k => XS.dstore X2297.here hx rfl (hb hby d30_7) rfl (l' := #[SA q9, SN, SJ y_a2, S2, SD 4607182418800017408, S2, SD 0, S2, SU, SU]) rfl (XS.aloadN X2297.here hx rfl (hb hby d30_9) rfl rfl k)) ?_
  refine own_g1 (getF X2297 hx hZ hown (host := "") (Or.inl (ww hw 235 rfl)) Via.refl hk2297 u63 rfl rfl (hb hby d30_10)) fun T2298 X2298 e2298 => ?_
  refine own_c1 (callV X2298 hx hZ (y := mn31) hown (ww hw 273 rfl) (ww hw 274 rfl) (ww hw 276 rfl) (ww hw 275 rfl) (ww hw 277 rfl) (ww hw 55 rfl) (by decide) e2298 u28 (argsL := []) (rest := []) (W := 0) (au45_begun l Z a0 hw q5 (0 : Int64) h0 n0 Z0 u29) rfl (by decide) (by decide) (by decide) (by decide) rfl (by rw [hml]; rfl) (lenOf pd23 rfl) rfl (by show 2 * 0 + _ ≤ _; exact Nat.le_of_eq rfl) (hb hby d30_13)) fun v2300 T2300 L2300 X2300 hQ2300 => ?_
  obtain ⟨rfl, NL2300, hk2300⟩ := hQ2300
  have N0 := Fr.app N0 NL2300
  refine gb T2300 (mkF m 20 #[SA q9, SN, SJ y_a2, S2, SD 4607182418800017408, S2, SD 0, S2, SJ 0, S2] [(.ref q9), (.ref q9)]) (fun _ k => XS.lstore X2300.here hx rfl (hb hby d30_16) rfl (l' := #[SA q9, SN, SJ y_a2, S2, SD 4607182418800017408, S2, SD 0, S2, SJ 0, S2]) rfl (XS.aloadN X2300.here hx rfl (hb hby d30_18) rfl rfl (XS.dup X2300.here hx rfl (hb hby d30_19) rfl rfl k))) ?_
  refine own_g1 (getF X2300 hx hZ hown (host := "") (Or.inl (ww hw 280 rfl)) Via.refl hk2300 u66 rfl rfl (hb hby d30_20)) fun T2301 X2301 e2301 => ?_
  refine gb T2301 (mkF m 24 #[SA q9, SN, SJ y_a2, S2, SD 4607182418800017408, S2, SD 0, S2, SJ 0, S2] [(.long (1 : Int64)), (.long y_66), (.ref q9)]) (fun _ k => XS.lconst X2301.here hx rfl (hb hby d30_23)  k) ?_
  refine gb T2301 (mkF m 25 #[SA q9, SN, SJ y_a2, S2, SD 4607182418800017408, S2, SD 0, S2, SJ 0, S2] [(.long (y_66 + (1 : Int64))), (.ref q9)]) (fun _ k => XS.ladd X2301.here hx rfl (hb hby d30_24) rfl k) ?_
  refine own_p1 (putF X2301 hx hZ hown (host := "") (Or.inl (ww hw 280 rfl)) Via.refl e2301 u66 u54 (Or.inl (ww hw 281 rfl)) (ww hw 162 rfl) (ty := .long) (by decide) rfl rfl rfl rfl (hb hby d30_25)) fun T2302 h2302 X2302 e2302 W2302 => ?_
  have N0 := Fr.snoc X2302 N0 ge_q9
  have u54 := u54.wr W2302
  have u58 := own_oth u58 W2302 (Or.inr (ww hw 191 rfl)) (Or.inl (ww hw 281 rfl)) (by decide)
  have u59 := own_oth u59 W2302 (Or.inr (ww hw 204 rfl)) (Or.inl (ww hw 281 rfl)) (by decide)
  have u60 := own_oth u60 W2302 (Or.inr (ww hw 230 rfl)) (Or.inl (ww hw 281 rfl)) (by decide)
  have u61 := own_oth u61 W2302 (Or.inr (ww hw 232 rfl)) (Or.inl (ww hw 281 rfl)) (by decide)
  have u62 := own_oth u62 W2302 (Or.inr (ww hw 234 rfl)) (Or.inl (ww hw 281 rfl)) (by decide)
  have u63 := own_oth u63 W2302 (Or.inr (ww hw 236 rfl)) (Or.inl (ww hw 281 rfl)) (by decide)
  have u64 := own_oth u64 W2302 (Or.inr (ww hw 260 rfl)) (Or.inl (ww hw 281 rfl)) (by decide)
  have u65 := own_oth u65 W2302 (Or.inr (ww hw 262 rfl)) (Or.inl (ww hw 281 rfl)) (by decide)
  have u66 := u66.same W2302
  have u67 := own_oth u67 W2302 (Or.inl (ww hw 283 rfl)) (Or.inl (ww hw 281 rfl)) (by decide)
  have u68 := own_oth u68 W2302 (Or.inl (ww hw 348 rfl)) (Or.inl (ww hw 281 rfl)) (by decide)
  have u69 := own_oth u69 W2302 (Or.inl (ww hw 443 rfl)) (Or.inl (ww hw 281 rfl)) (by decide)
  have Z0 := own_zw Z0 W2302
  have K0 := K0.wr W2302 mi_q9
  refine gb T2302 (mkF m 30 #[SA q9, SN, SJ y_a2, S2, SD 4607182418800017408, S2, SD 0, S2, SJ 0, S2] [(.ref q9), (.ref q9)]) (fun _ k => XS.aloadN X2302.here hx rfl (hb hby d30_28) rfl rfl (XS.dup X2302.here hx rfl (hb hby d30_29) rfl rfl k)) ?_
  refine own_g1 (getF X2302 hx hZ hown (host := "") (Or.inl (ww hw 282 rfl)) Via.refl e2302 u67 rfl rfl (hb hby d30_30)) fun T2303 X2303 e2303 => ?_
  refine gb T2303 (mkF m 35 #[SA q9, SN, SJ y_a2, S2, SD 4607182418800017408, S2, SD 0, S2, SJ 0, S2] [(.long (0 : Int64)), (.long y_67), (.ref q9)]) (fun _ k => XS.lload X2303.here hx rfl (hb hby d30_33) rfl k) ?_
  refine gb T2303 (mkF m 36 #[SA q9, SN, SJ y_a2, S2, SD 4607182418800017408, S2, SD 0, S2, SJ 0, S2] [(.long (y_67 + (0 : Int64))), (.ref q9)]) (fun _ k => XS.ladd X2303.here hx rfl (hb hby d30_35) rfl k) ?_
  refine own_p1 (putF X2303 hx hZ hown (host := "") (Or.inl (ww hw 282 rfl)) Via.refl e2303 u67 u54 (Or.inl (ww hw 283 rfl)) (ww hw 162 rfl) (ty := .long) (by decide) rfl rfl rfl rfl (hb hby d30_36)) fun T2304 h2304 X2304 e2304 W2304 => ?_
  have N0 := Fr.snoc X2304 N0 ge_q9
  have u58 := own_oth u58 W2304 (Or.inr (ww hw 191 rfl)) (Or.inl (ww hw 283 rfl)) (by decide)
  have u59 := own_oth u59 W2304 (Or.inr (ww hw 204 rfl)) (Or.inl (ww hw 283 rfl)) (by decide)
  have u60 := own_oth u60 W2304 (Or.inr (ww hw 230 rfl)) (Or.inl (ww hw 283 rfl)) (by decide)
  have u61 := own_oth u61 W2304 (Or.inr (ww hw 232 rfl)) (Or.inl (ww hw 283 rfl)) (by decide)
  have u62 := own_oth u62 W2304 (Or.inr (ww hw 234 rfl)) (Or.inl (ww hw 283 rfl)) (by decide)
  have u63 := own_oth u63 W2304 (Or.inr (ww hw 236 rfl)) (Or.inl (ww hw 283 rfl)) (by decide)
  have u64 := own_oth u64 W2304 (Or.inr (ww hw 260 rfl)) (Or.inl (ww hw 283 rfl)) (by decide)
  have u65 := own_oth u65 W2304 (Or.inr (ww hw 262 rfl)) (Or.inl (ww hw 283 rfl)) (by decide)
  have u66 := own_oth u66 W2304 (Or.inl (ww hw 281 rfl)) (Or.inl (ww hw 283 rfl)) (by decide)
  have u67 := u67.same W2304
  have u68 := own_oth u68 W2304 (Or.inl (ww hw 348 rfl)) (Or.inl (ww hw 283 rfl)) (by decide)
  have u69 := own_oth u69 W2304 (Or.inl (ww hw 443 rfl)) (Or.inl (ww hw 283 rfl)) (by decide)
  have Z0 := own_zw Z0 W2304
  have K0 := K0.wr W2304 mi_q9
  obtain ⟨T2305, h2305, X2305, e2305, E2305, A2305, D2305, -, st2305⟩ := newO X2304 hx hZ hown (ww hw 284 rfl) (ww hw 285 rfl) (ww hw 286 rfl) e2304 (g := (mkF m 39 #[SA q9, SN, SJ y_a2, S2, SD 4607182418800017408, S2, SD 0, S2, SJ 0, S2] [])) rfl (hb hby d30_39) (by decide) (by decide)
  obtain ⟨o30_1, g2305⟩ : ∃ z, z = h2304.size := ⟨_, rfl⟩
  rw [← g2305] at A2305 D2305 st2305
  have ne_q9_o30_1 : q9 ≠ o30_1 := own_nb u58.lt g2305
  have ge_o30_1 : n0 ≤ o30_1 := Nat.le_trans Z0 (Nat.le_of_eq g2305.symm)
  have sz_o30_1 : h0.size ≤ o30_1 := Nat.le_trans K0.1 (Nat.le_of_eq g2305.symm)
  have u58 := u58.ext E2305
  have u59 := u59.ext E2305
  have u60 := u60.ext E2305
  have u61 := u61.ext E2305
  have u62 := u62.ext E2305
  have u63 := u63.ext E2305
  have u64 := u64.ext E2305
  have u65 := u65.ext E2305
  have u66 := u66.ext E2305
  have u67 := u67.ext E2305
  have u68 := u68.ext E2305
  have u69 := u69.ext E2305
  have Z0 := Nat.le_trans Z0 E2305.1
  have K0 := K0.ext E2305
  have E_o30_1 := A2305
  have f2306 : Fld Z h2305 o30_1 sn7 "origin" sn31 .null := D2305 (Or.inr (ww hw 292 rfl)) (ty := (.object sn32)) (by decide)
  have f2307 : Fld Z h2305 o30_1 sn7 "sequence" "J" (.long (0 : Int64)) := D2305 (Or.inr (ww hw 294 rfl)) (ty := .long) (by decide)
  have f2308 : Fld Z h2305 o30_1 sn7 "produced" "D" (.double (0 : UInt64)) := D2305 (Or.inr (ww hw 296 rfl)) (ty := .double) (by decide)
  have f2309 : Fld Z h2305 o30_1 sn7 "deadline" "D" (.double (0 : UInt64)) := D2305 (Or.inr (ww hw 298 rfl)) (ty := .double) (by decide)
  have f2310 : Fld Z h2305 o30_1 sn7 "measured" "Z" (.int (0 : Int32)) := D2305 (Or.inr (ww hw 300 rfl)) (ty := .boolean) (by decide)
  refine gb T2305 (mkF m 42 #[SA q9, SN, SJ y_a2, S2, SD 4607182418800017408, S2, SD 0, S2, SJ 0, S2] [(.ref o30_1)]) st2305 ?_
  refine gb T2305 (mkF m 51 #[SA q9, SN, SJ y_a2, S2, SD 4607182418800017408, S2, SD 0, S2, SJ 0, S2] [(.double (4607182418800017408 : UInt64)), (.double (0 : UInt64)), (.double (0 : UInt64)), (.long y_a2), .null, (.ref o30_1), (.ref o30_1)]) (fun _ k => XS.dup X2305.here hx rfl (hb hby d30_42) rfl rfl (XS.aloadN X2305.here hx rfl (hb hby d30_43) rfl rfl (XS.lloadN X2305.here hx rfl (hb hby d30_44) rfl (XS.dload X2305.here hx rfl (hb hby d30_45) rfl (XS.dload X2305.here hx rfl (hb hby d30_47) rfl (XS.dload X2305.here hx rfl (hb hby d30_49) rfl k)))))) ?_
  refine gb T2305 (mkF m 52 #[SA q9, SN, SJ y_a2, S2, SD 4607182418800017408, S2, SD 0, S2, SJ 0, S2] [(.double (4607182418800017408 : UInt64)), (.double (0 : UInt64)), (.long y_a2), .null, (.ref o30_1), (.ref o30_1)]) (fun _ k => XS.daddS X2305.here hx rfl (hb hby d30_51) rfl (by decide +kernel) (by decide +kernel : FP.dadd (0 : UInt64) (4607182418800017408 : UInt64) = (4607182418800017408 : UInt64)) k) ?_
  refine gb T2305 (mkF m 55 #[SA q9, SN, SJ y_a2, S2, SD 4607182418800017408, S2, SD 0, S2, SJ 0, S2] [(.long (0 : Int64)), (.long (0 : Int64)), (.double (4607182418800017408 : UInt64)), (.double (0 : UInt64)), (.long y_a2), .null, (.ref o30_1), (.ref o30_1)]) (fun _ k => XS.lload X2305.here hx rfl (hb hby d30_52) rfl (XS.lconst X2305.here hx rfl (hb hby d30_54)  k)) ?_
  refine gb T2305 (mkF m 56 #[SA q9, SN, SJ y_a2, S2, SD 4607182418800017408, S2, SD 0, S2, SJ 0, S2] [(.int (0 : Int32)), (.double (4607182418800017408 : UInt64)), (.double (0 : UInt64)), (.long y_a2), .null, (.ref o30_1), (.ref o30_1)]) (fun _ k => XS.lcmpS X2305.here hx rfl (hb hby d30_55) rfl (by decide) k) ?_
  refine gb T2305 (mkF m 63 #[SA q9, SN, SJ y_a2, S2, SD 4607182418800017408, S2, SD 0, S2, SJ 0, S2] [(.double (4607182418800017408 : UInt64)), (.double (0 : UInt64)), (.long y_a2), .null, (.ref o30_1), (.ref o30_1)]) (fun _ k => XS.ifYes X2305.here hx rfl (pc0 := 56) (pc' := 63) rfl (hb hby d30_56) rfl (by decide) (by decide) (by decide) k) ?_
  refine gb T2305 (mkF m 64 #[SA q9, SN, SJ y_a2, S2, SD 4607182418800017408, S2, SD 0, S2, SJ 0, S2] [(.int (0 : Int32)), (.double (4607182418800017408 : UInt64)), (.double (0 : UInt64)), (.long y_a2), .null, (.ref o30_1), (.ref o30_1)]) (fun _ k => XS.iconst X2305.here hx rfl (hb hby d30_63)  k) ?_
  refine own_c1 (callI X2305 hx hZ (y := mn26) rfl hown (ww hw 287 rfl) (ww hw 288 rfl) (ww hw 289 rfl) (ww hw 286 rfl) (by decide) e2305 (a := o30_1) (argsL := [.null, (.long y_a2), (.double (0 : UInt64)), (.double (4607182418800017408 : UInt64)), (.int (0 : Int32))]) (rest := [(.ref o30_1)]) (W := 1) (au46_init l Z a0 hw o30_1 (0 : Int32) y_a2 (0 : Int64) (0 : UInt64) (4607182418800017408 : UInt64) (0 : UInt64) (0 : UInt64) h2305 n0 Z0 E_o30_1 f2306 f2307 f2308 f2309 f2310 ge_o30_1) rfl (by decide) (by decide) (by decide) (by decide) rfl (by rw [hml]; rfl) (lenOf pd24 rfl) rfl (by show 2 * 0 + _ ≤ _; exact Nat.le_of_eq rfl) (hb hby d30_64)) fun v2313 T2313 L2313 X2313 hQ2313 => ?_
  obtain ⟨rfl, NL2313, K2313, f2311, f2312⟩ := hQ2313
  have N0 := Fr.app N0 NL2313
  have e2313 : T2313.heap = T2313.heap := rfl
  have u58 := u58.keep K2313 (ninS ne_q9_o30_1 nin0)
  have u59 := u59.keep K2313 (ninS ne_q9_o30_1 nin0)
  have u60 := u60.keep K2313 (ninS ne_q9_o30_1 nin0)
  have u61 := u61.keep K2313 (ninS ne_q9_o30_1 nin0)
  have u62 := u62.keep K2313 (ninS ne_q9_o30_1 nin0)
  have u63 := u63.keep K2313 (ninS ne_q9_o30_1 nin0)
  have u64 := u64.keep K2313 (ninS ne_q9_o30_1 nin0)
  have u65 := u65.keep K2313 (ninS ne_q9_o30_1 nin0)
  have u66 := u66.keep K2313 (ninS ne_q9_o30_1 nin0)
  have u67 := u67.keep K2313 (ninS ne_q9_o30_1 nin0)
  have u68 := u68.keep K2313 (ninS ne_q9_o30_1 nin0)
  have u69 := u69.keep K2313 (ninS ne_q9_o30_1 nin0)
  have E_o30_1 := E_o30_1.keep K2313
  have Z0 := Nat.le_trans Z0 K2313.1
  have K0 := K0.trans K2313 (allS (Or.inr sz_o30_1) all0)
  exact outA X2313 hx hlk hret rfl rfl rfl (hb hby d30_67) (by rw [e2313]; exact ⟨o30_1, rfl, N0, K0, sz_o30_1, u58, u59, u60, u61, u62, u63, u64, u65, u66, u67, u68, u69, E_o30_1, f2311, f2312⟩) (by decide) (by decide)
theorem d42_0 : decode prog_38_method_2_code 0 = .ok (.aload_n 0, 1) := by decide +kernel
theorem d42_1 : decode prog_38_method_2_code 1 = .ok (.getfield 33, 3) := by decide +kernel
theorem d42_4 : decode prog_38_method_2_code 4 = .ok (.lreturn, 1) := by decide +kernel
set_option maxRecDepth 65536 in
set_option maxHeartbeats 40000000 in
theorem au48_inside (l : Launch) (Z : State) (a0 : Array Value) (hw : ∀ d ∈ tables_1, d.before a0 Z = true) (q5 : Addr) (y_81 : Int64) (h0 : Heap) (n0 : Nat) (Z0 : n0 ≤ h0.size) (u81 : Fld Z h0 q5 sn12 "inside" "J" (.long y_81)) :
    Does l mn32 prog_38_method_2_code 1 (some .long) [] ({ frames := 0, cells := 0, slots := 0, locals := 0 } : Room) Z #[(.ref q5)] h0 (fun v h L => v = some (.long y_81) ∧ Fr n0 L ∧ h = h0) := by
  refine Does.of (plainFor_of_name pn8) ?_
  intro p e s m below meth c s₁ hx hby hml hret hlk hZ hown hnm X0 e0
  have N0 := Fr.nil n0
  refine Goes.cast (g' := mkF m 0 #[SA q5] []) (ef_au0_now m q5) ?_
  have K0 := Keep.refl h0 []
  refine gb s₁ (mkF m 1 #[SA q5] [(.ref q5)]) (fun _ k => XS.aloadN X0.here hx rfl (hb hby d42_0) rfl rfl k) ?_
  refine own_g1 (getF X0 hx hZ hown (host := "") (Or.inl (ww hw 354 rfl)) Via.refl e0 u81 rfl rfl (hb hby d42_1)) fun T2363 X2363 e2363 => ?_
  exact outJ X2363 hx hlk hret (hb hby d42_4) (by rw [e2363]; exact ⟨rfl, N0, rfl⟩) (by decide) (by decide)
theorem d43_0 : decode prog_40_method_6_code 0 = .ok (.aload_n 0, 1) := by decide +kernel
theorem d43_1 : decode prog_40_method_6_code 1 = .ok (.getfield 24, 3) := by decide +kernel
theorem d43_4 : decode prog_40_method_6_code 4 = .ok (.ireturn, 1) := by decide +kernel
set_option maxRecDepth 65536 in
set_option maxHeartbeats 40000000 in
theorem au49_measured (l : Launch) (Z : State) (a0 : Array Value) (hw : ∀ d ∈ tables_1, d.before a0 Z = true) (q16 : Addr) (h0 : Heap) (n0 : Nat) (Z0 : n0 ≤ h0.size) (u59 : Fld Z h0 q16 sn7 "measured" "Z" (.int (0 : Int32))) :
    Does l mn3 prog_40_method_6_code 1 (some .boolean) [] ({ frames := 0, cells := 0, slots := 0, locals := 0 } : Room) Z #[(.ref q16)] h0 (fun v h L => v = some (.int (0 : Int32)) ∧ Fr n0 L ∧ h = h0) := by
  refine Does.of (plainFor_of_name pn16) ?_
  intro p e s m below meth c s₁ hx hby hml hret hlk hZ hown hnm X0 e0
  have N0 := Fr.nil n0
  refine Goes.cast (g' := mkF m 0 #[SA q16] []) (ef_au0_now m q16) ?_
  have K0 := Keep.refl h0 []
  refine gb s₁ (mkF m 1 #[SA q16] [(.ref q16)]) (fun _ k => XS.aloadN X0.here hx rfl (hb hby d43_0) rfl rfl k) ?_
  refine own_g1 (getF X0 hx hZ hown (host := "") (Or.inl (ww hw 299 rfl)) Via.refl e0 u59 rfl rfl (hb hby d43_1)) fun T2382 X2382 e2382 => ?_
  exact outZ X2382 hx hlk hret (hb hby d43_4) (by rw [e2382]; exact ⟨rfl, N0, rfl⟩) (by decide) (by decide)
theorem d44_0 : decode jdk_38_method_8_code 0 = .ok (.aload_n 0, 1) := by decide +kernel
theorem d44_1 : decode jdk_38_method_8_code 1 = .ok (.getfield 48, 3) := by decide +kernel
theorem d44_4 : decode jdk_38_method_8_code 4 = .ok (.ireturn, 1) := by decide +kernel
set_option maxRecDepth 65536 in
set_option maxHeartbeats 40000000 in
theorem au50_size (l : Launch) (Z : State) (a0 : Array Value) (hw : ∀ d ∈ tables_1, d.before a0 Z = true) (q13 : Addr) (y_42 : Int32) (h0 : Heap) (n0 : Nat) (Z0 : n0 ≤ h0.size) (u42 : Fld Z h0 q13 sn9 "size" "I" (.int y_42)) :
    Does l mn6 jdk_38_method_8_code 1 (some .int) [] ({ frames := 0, cells := 0, slots := 0, locals := 0 } : Room) Z #[(.ref q13)] h0 (fun v h L => v = some (.int y_42) ∧ Fr n0 L ∧ h = h0) := by
  refine Does.of (plainFor_of_name pn13) ?_
  intro p e s m below meth c s₁ hx hby hml hret hlk hZ hown hnm X0 e0
  have N0 := Fr.nil n0
  refine Goes.cast (g' := mkF m 0 #[SA q13] []) (ef_au0_now m q13) ?_
  have K0 := Keep.refl h0 []
  refine gb s₁ (mkF m 1 #[SA q13] [(.ref q13)]) (fun _ k => XS.aloadN X0.here hx rfl (hb hby d44_0) rfl rfl k) ?_
  refine own_g1 (getF X0 hx hZ hown (host := "") (Or.inl (ww hw 366 rfl)) Via.refl e0 u42 rfl rfl (hb hby d44_1)) fun T2390 X2390 e2390 => ?_
  exact outI X2390 hx hlk hret (hb hby d44_4) (by rw [e2390]; exact ⟨rfl, N0, rfl⟩) (by decide) (by decide)
theorem d46_0 : decode prog_15_method_6_code 0 = .ok (.lload_n 1, 1) := by decide +kernel
theorem d46_1 : decode prog_15_method_6_code 1 = .ok (.aload_n 0, 1) := by decide +kernel
theorem d46_2 : decode prog_15_method_6_code 2 = .ok (.getfield 20, 3) := by decide +kernel
theorem d46_5 : decode prog_15_method_6_code 5 = .ok (.aload_n 0, 1) := by decide +kernel
theorem d46_6 : decode prog_15_method_6_code 6 = .ok (.getfield 23, 3) := by decide +kernel
theorem d46_9 : decode prog_15_method_6_code 9 = .ok (.lsub, 1) := by decide +kernel
theorem d46_10 : decode prog_15_method_6_code 10 = .ok (.lcmp, 1) := by decide +kernel
theorem d46_11 : decode prog_15_method_6_code 11 = .ok (.ifCond .le 9, 3) := by decide +kernel
theorem d46_20 : decode prog_15_method_6_code 20 = .ok (.aload_n 0, 1) := by decide +kernel
theorem d46_21 : decode prog_15_method_6_code 21 = .ok (.dup, 1) := by decide +kernel
theorem d46_22 : decode prog_15_method_6_code 22 = .ok (.getfield 23, 3) := by decide +kernel
theorem d46_25 : decode prog_15_method_6_code 25 = .ok (.lload_n 1, 1) := by decide +kernel
theorem d46_26 : decode prog_15_method_6_code 26 = .ok (.ladd, 1) := by decide +kernel
theorem d46_27 : decode prog_15_method_6_code 27 = .ok (.putfield 23, 3) := by decide +kernel
theorem d46_30 : decode prog_15_method_6_code 30 = .ok (.return_, 1) := by decide +kernel
theorem ef_au51_spend (m : MethodId) (x0 : Addr) (x1 : Int64) (x2 : UInt64) : entryFrame m #[(.ref x0), (.long x1), (.double x2)] 5 = mkF m 0 #[SA x0, SJ x1, S2, SD x2, S2] [] := by first | (simp [entryFrame, mkF, argsToLocals, Value.category, maxLocals]; done) | rfl
set_option maxRecDepth 65536 in
set_option maxHeartbeats 40000000 in
theorem au51_spend (l : Launch) (Z : State) (a0 : Array Value) (hw : ∀ d ∈ tables_1, d.before a0 Z = true) (q1 : Addr) (y_a2 : UInt64) (h0 : Heap) (n0 : Nat) (Z0 : n0 ≤ h0.size) (u22 : Exa Z h0 q1 sn5) (u69 : Fld Z h0 q1 sn5 "allowed" "J" (.long (1000 : Int64))) (u70 : Fld Z h0 q1 sn5 "spent" "J" (.long (2 : Int64))) (ge_q1 : n0 ≤ q1) :
    Does l mn48 prog_15_method_6_code 5 none [] ({ frames := 0, cells := 0, slots := 0, locals := 0 } : Room) Z #[(.ref q1), (.long (0 : Int64)), (.double y_a2)] h0 (fun v h L => v = none ∧ Fr n0 L ∧ Keep h0 h [q1] ∧ Fld Z h q1 sn5 "allowed" "J" (.long (1000 : Int64)) ∧ Fld Z h q1 sn5 "spent" "J" (.long (2 : Int64))) := by
  refine Does.of (plainFor_of_name pn3) ?_
  intro p e s m below meth c s₁ hx hby hml hret hlk hZ hown hnm X0 e0
  have N0 := Fr.nil n0
  refine Goes.cast (g' := mkF m 0 #[SA q1, SJ 0, S2, SD y_a2, S2] []) (ef_au51_spend m q1 (0 : Int64) y_a2) ?_
  have mi_q1 : q1 ∈ [q1] ∨ h0.size ≤ q1 := (Or.inl (List.mem_cons_self ..))
  have K0 := Keep.refl h0 [q1]
  refine gb s₁ (mkF m 2 #[SA q1, SJ 0, S2, SD y_a2, S2] [(.ref q1), (.long (0 : Int64))]) (fun _ k => XS.lloadN X0.here hx rfl (hb hby d46_0) rfl (XS.aloadN X0.here hx rfl (hb hby d46_1) rfl rfl k)) ?_
  refine own_g1 (getF X0 hx hZ hown (host := "") (Or.inl (ww hw 22 rfl)) Via.refl e0 u69 rfl rfl (hb hby d46_2)) fun T2489 X2489 e2489 => ?_
  refine gb T2489 (mkF m 6 #[SA q1, SJ 0, S2, SD y_a2, S2] [(.ref q1), (.long (1000 : Int64)), (.long (0 : Int64))]) (fun _ k => XS.aloadN X2489.here hx rfl (hb hby d46_5) rfl rfl k) ?_
  refine own_g1 (getF X2489 hx hZ hown (host := "") (Or.inl (ww hw 24 rfl)) Via.refl e2489 u70 rfl rfl (hb hby d46_6)) fun T2490 X2490 e2490 => ?_
  refine gb T2490 (mkF m 10 #[SA q1, SJ 0, S2, SD y_a2, S2] [(.long (998 : Int64)), (.long (0 : Int64))]) (fun _ k => XS.lsub X2490.here hx rfl (hb hby d46_9) rfl k) ?_
  refine gb T2490 (mkF m 11 #[SA q1, SJ 0, S2, SD y_a2, S2] [(.int (-1 : Int32))]) (fun _ k => XS.lcmpS X2490.here hx rfl (hb hby d46_10) rfl (by decide) k) ?_
  refine gb T2490 (mkF m 20 #[SA q1, SJ 0, S2, SD y_a2, S2] []) (fun _ k => XS.ifYes X2490.here hx rfl (pc0 := 11) (pc' := 20) rfl (hb hby d46_11) rfl (by decide) (by decide) (by decide) k) ?_
  refine gb T2490 (mkF m 22 #[SA q1, SJ 0, S2, SD y_a2, S2] [(.ref q1), (.ref q1)]) (fun _ k => XS.aloadN X2490.here hx rfl (hb hby d46_20) rfl rfl (XS.dup X2490.here hx rfl (hb hby d46_21) rfl rfl k)) ?_
  refine own_g1 (getF X2490 hx hZ hown (host := "") (Or.inl (ww hw 24 rfl)) Via.refl e2490 u70 rfl rfl (hb hby d46_22)) fun T2491 X2491 e2491 => ?_
  refine gb T2491 (mkF m 26 #[SA q1, SJ 0, S2, SD y_a2, S2] [(.long (0 : Int64)), (.long (2 : Int64)), (.ref q1)]) (fun _ k => XS.lloadN X2491.here hx rfl (hb hby d46_25) rfl k) ?_
  refine gb T2491 (mkF m 27 #[SA q1, SJ 0, S2, SD y_a2, S2] [(.long (2 : Int64)), (.ref q1)]) (fun _ k => XS.ladd X2491.here hx rfl (hb hby d46_26) rfl k) ?_
  refine own_p1 (putF X2491 hx hZ hown (host := "") (Or.inl (ww hw 24 rfl)) Via.refl e2491 u70 u22 (Or.inl (ww hw 25 rfl)) (ww hw 6 rfl) (ty := .long) (by decide) rfl rfl rfl rfl (hb hby d46_27)) fun T2492 h2492 X2492 e2492 W2492 => ?_
  have N0 := Fr.snoc X2492 N0 ge_q1
  have u69 := own_oth u69 W2492 (Or.inl (ww hw 23 rfl)) (Or.inl (ww hw 25 rfl)) (by decide)
  have u70 := u70.same W2492
  have Z0 := own_zw Z0 W2492
  have K0 := K0.wr W2492 mi_q1
  exact outV X2492 hx hlk hret (hb hby d46_30) (by rw [e2492]; exact ⟨rfl, N0, K0, u69, u70⟩) (by decide) (by decide)
theorem d45_0 : decode prog_19_method_9_code 0 = .ok (.aload_n 0, 1) := by decide +kernel
theorem d45_1 : decode prog_19_method_9_code 1 = .ok (.getfield 12, 3) := by decide +kernel
theorem d45_4 : decode prog_19_method_9_code 4 = .ok (.lload_n 1, 1) := by decide +kernel
theorem d45_5 : decode prog_19_method_9_code 5 = .ok (.aload_n 0, 1) := by decide +kernel
theorem d45_6 : decode prog_19_method_9_code 6 = .ok (.getfield 25, 3) := by decide +kernel
theorem d45_9 : decode prog_19_method_9_code 9 = .ok (.invokevirtual 81, 3) := by decide +kernel
theorem d45_12 : decode prog_19_method_9_code 12 = .ok (.return_, 1) := by decide +kernel
set_option maxRecDepth 65536 in
set_option maxHeartbeats 40000000 in
theorem au52_spend (l : Launch) (Z : State) (a0 : Array Value) (hw : ∀ d ∈ tables_1, d.before a0 Z = true) (q2 q1 : Addr) (y_62 : UInt64) (h0 : Heap) (n0 : Nat) (Z0 : n0 ≤ h0.size) (u22 : Exa Z h0 q1 sn5) (u60 : Fld Z h0 q2 sn2 "budget" sn16 (.ref q1)) (u62 : Fld Z h0 q2 sn2 "now" "D" (.double y_62)) (u69 : Fld Z h0 q1 sn5 "allowed" "J" (.long (1000 : Int64))) (u70 : Fld Z h0 q1 sn5 "spent" "J" (.long (2 : Int64))) (ge_q1 : n0 ≤ q1) :
    Does l mn7 prog_19_method_9_code 3 none [] ({ frames := 1, cells := 0, slots := 0, locals := 16 } : Room) Z #[(.ref q2), (.long (0 : Int64))] h0 (fun v h L => v = none ∧ Fr n0 L ∧ Keep h0 h [q1] ∧ Fld Z h q1 sn5 "allowed" "J" (.long (1000 : Int64)) ∧ Fld Z h q1 sn5 "spent" "J" (.long (2 : Int64))) := by
  refine Does.of (plainFor_of_name pn1) ?_
  intro p e s m below meth c s₁ hx hby hml hret hlk hZ hown hnm X0 e0
  have N0 := Fr.nil n0
  refine Goes.cast (g' := mkF m 0 #[SA q2, SJ 0, S2] []) (ef_au3_init m q2 (0 : Int64)) ?_
  have mi_q1 : q1 ∈ [q1] ∨ h0.size ≤ q1 := (Or.inl (List.mem_cons_self ..))
  have K0 := Keep.refl h0 [q1]
  refine gb s₁ (mkF m 1 #[SA q2, SJ 0, S2] [(.ref q2)]) (fun _ k => XS.aloadN X0.here hx rfl (hb hby d45_0) rfl rfl k) ?_
  refine own_g1 (getF X0 hx hZ hown (host := "") (Or.inl (ww hw 36 rfl)) Via.refl e0 u60 rfl rfl (hb hby d45_1)) fun T2509 X2509 e2509 => ?_
  refine gb T2509 (mkF m 6 #[SA q2, SJ 0, S2] [(.ref q2), (.long (0 : Int64)), (.ref q1)]) (fun _ k => XS.lloadN X2509.here hx rfl (hb hby d45_4) rfl (XS.aloadN X2509.here hx rfl (hb hby d45_5) rfl rfl k)) ?_
  refine own_g1 (getF X2509 hx hZ hown (host := "") (Or.inl (ww hw 105 rfl)) Via.refl e2509 u62 rfl rfl (hb hby d45_6)) fun T2510 X2510 e2510 => ?_
  refine own_c1 (callV X2510 hx hZ (y := mn48) hown (ww hw 373 rfl) (ww hw 374 rfl) (ww hw 376 rfl) (ww hw 375 rfl) (ww hw 377 rfl) (ww hw 7 rfl) (by decide) e2510 u22 (argsL := [(.long (0 : Int64)), (.double y_62)]) (rest := []) (W := 0) (au51_spend l Z a0 hw q1 y_62 h0 n0 Z0 u22 u69 u70 ge_q1) rfl (by decide) (by decide) (by decide) (by decide) rfl (by rw [hml]; rfl) (lenOf pd26 rfl) rfl (by show 2 * 0 + _ ≤ _; exact Nat.le_of_eq rfl) (hb hby d45_9)) fun v2514 T2514 L2514 X2514 hQ2514 => ?_
  obtain ⟨rfl, NL2514, K2514, f2511, f2512⟩ := hQ2514
  have N0 := Fr.app N0 NL2514
  have e2514 : T2514.heap = T2514.heap := rfl
  have Z0 := Nat.le_trans Z0 K2514.1
  have K0 := K0.trans K2514 (allS mi_q1 all0)
  exact outV X2514 hx hlk hret (hb hby d45_12) (by rw [e2514]; exact ⟨rfl, N0, K0, f2511, f2512⟩) (by decide) (by decide)
theorem d48_0 : decode jdk_49_method_1_code 0 = .ok (.aload_n 0, 1) := by decide +kernel
theorem d48_1 : decode jdk_49_method_1_code 1 = .ok (.aload_n 1, 1) := by decide +kernel
theorem d48_2 : decode jdk_49_method_1_code 2 = .ok (.putfield 1, 3) := by decide +kernel
theorem d48_5 : decode jdk_49_method_1_code 5 = .ok (.aload_n 0, 1) := by decide +kernel
theorem d48_6 : decode jdk_49_method_1_code 6 = .ok (.invokespecial 7, 3) := by decide +kernel
theorem d48_9 : decode jdk_49_method_1_code 9 = .ok (.aload_n 0, 1) := by decide +kernel
theorem d48_10 : decode jdk_49_method_1_code 10 = .ok (.iconst (-1), 1) := by decide +kernel
theorem d48_11 : decode jdk_49_method_1_code 11 = .ok (.putfield 13, 3) := by decide +kernel
theorem d48_14 : decode jdk_49_method_1_code 14 = .ok (.aload_n 0, 1) := by decide +kernel
theorem d48_15 : decode jdk_49_method_1_code 15 = .ok (.aload_n 0, 1) := by decide +kernel
theorem d48_16 : decode jdk_49_method_1_code 16 = .ok (.getfield 1, 3) := by decide +kernel
theorem d48_19 : decode jdk_49_method_1_code 19 = .ok (.getfield 17, 3) := by decide +kernel
theorem d48_22 : decode jdk_49_method_1_code 22 = .ok (.putfield 22, 3) := by decide +kernel
theorem d48_25 : decode jdk_49_method_1_code 25 = .ok (.return_, 1) := by decide +kernel
set_option maxRecDepth 65536 in
set_option maxHeartbeats 40000000 in
theorem au53_init (l : Launch) (Z : State) (a0 : Array Value) (hw : ∀ d ∈ tables_1, d.before a0 Z = true) (o47_1 q13 : Addr) (y_41 y_84 y_85 y_86 : Int32) (h0 : Heap) (n0 : Nat) (Z0 : n0 ≤ h0.size) (u41 : Fld Z h0 q13 sn23 "modCount" "I" (.int y_41)) (u82 : Exa Z h0 o47_1 sn24) (u83 : Fld Z h0 o47_1 sn24 "this$0" sn30 .null) (u84 : Fld Z h0 o47_1 sn24 "lastRet" "I" (.int y_84)) (u85 : Fld Z h0 o47_1 sn24 "expectedModCount" "I" (.int y_85)) (u86 : Fld Z h0 o47_1 sn24 "cursor" "I" (.int y_86)) (ne_q13_o47_1 : q13 ≠ o47_1) (ge_o47_1 : n0 ≤ o47_1) :
    Does l mn49 jdk_49_method_1_code 2 none [] ({ frames := 1, cells := 0, slots := 0, locals := 12 } : Room) Z #[(.ref o47_1), (.ref q13)] h0 (fun v h L => v = none ∧ Fr n0 L ∧ Keep h0 h [o47_1] ∧ Fld Z h o47_1 sn24 "this$0" sn30 (.ref q13) ∧ Fld Z h o47_1 sn24 "cursor" "I" (.int y_86)) := by
  refine Does.of (plainFor_of_name pn17) ?_
  intro p e s m below meth c s₁ hx hby hml hret hlk hZ hown hnm X0 e0
  have N0 := Fr.nil n0
  refine Goes.cast (g' := mkF m 0 #[SA o47_1, SA q13] []) (ef_au6_init m o47_1 q13) ?_
  have mi_o47_1 : o47_1 ∈ [o47_1] ∨ h0.size ≤ o47_1 := (Or.inl (List.mem_cons_self ..))
  have K0 := Keep.refl h0 [o47_1]
  refine gb s₁ (mkF m 2 #[SA o47_1, SA q13] [(.ref q13), (.ref o47_1)]) (fun _ k => XS.aloadN X0.here hx rfl (hb hby d48_0) rfl rfl (XS.aloadN X0.here hx rfl (hb hby d48_1) rfl rfl k)) ?_
  refine own_p1 (putF X0 hx hZ hown (host := "") (Or.inl (ww hw 393 rfl)) Via.refl e0 u83 u82 (Or.inr ⟨(ww hw 394 rfl), rfl, hnm⟩) (ww hw 387 rfl) (ty := (.object sn9)) (by decide) rfl rfl rfl rfl (hb hby d48_2)) fun T2543 h2543 X2543 e2543 W2543 => ?_
  have N0 := Fr.snoc X2543 N0 ge_o47_1
  have u41 := u41.other W2543 (Or.inl ne_q13_o47_1)
  have u82 := u82.wr W2543
  have u83 := u83.same W2543
  have u84 := own_oth u84 W2543 (Or.inl (ww hw 397 rfl)) (Or.inr (ww hw 394 rfl)) (by decide)
  have u85 := own_oth u85 W2543 (Or.inl (ww hw 401 rfl)) (Or.inr (ww hw 394 rfl)) (by decide)
  have u86 := own_oth u86 W2543 (Or.inl (ww hw 412 rfl)) (Or.inr (ww hw 394 rfl)) (by decide)
  have Z0 := own_zw Z0 W2543
  have K0 := K0.wr W2543 mi_o47_1
  refine gb T2543 (mkF m 6 #[SA o47_1, SA q13] [(.ref o47_1)]) (fun _ k => XS.aloadN X2543.here hx rfl (hb hby d48_5) rfl rfl k) ?_
  obtain ⟨T2544, X2544, e2544, st2544⟩ := initO X2543 hx hZ hown (ww hw 395 rfl) (ww hw 16 rfl) (ww hw 17 rfl) e2543 (g := (mkF m 6 #[SA o47_1, SA q13] [(.ref o47_1)])) rfl (by rw [hml]; rfl) rfl (hb hby d48_6) (by decide) (W := 0) (by show 2 * 0 + _ ≤ _; exact Nat.le_of_eq rfl) (by decide)
  refine gb T2544 (mkF m 9 #[SA o47_1, SA q13] []) st2544 ?_
  refine gb T2544 (mkF m 11 #[SA o47_1, SA q13] [(.int (-1 : Int32)), (.ref o47_1)]) (fun _ k => XS.aloadN X2544.here hx rfl (hb hby d48_9) rfl rfl (XS.iconst X2544.here hx rfl (hb hby d48_10)  k)) ?_
  refine own_p1 (putF X2544 hx hZ hown (host := "") (Or.inl (ww hw 396 rfl)) Via.refl e2544 u84 u82 (Or.inl (ww hw 397 rfl)) (ww hw 387 rfl) (ty := .int) (by decide) rfl rfl rfl rfl (hb hby d48_11)) fun T2545 h2545 X2545 e2545 W2545 => ?_
  have N0 := Fr.snoc X2545 N0 ge_o47_1
  have u41 := u41.other W2545 (Or.inl ne_q13_o47_1)
  have u82 := u82.wr W2545
  have u83 := own_oth u83 W2545 (Or.inr (ww hw 394 rfl)) (Or.inl (ww hw 397 rfl)) (by decide)
  have u85 := own_oth u85 W2545 (Or.inl (ww hw 401 rfl)) (Or.inl (ww hw 397 rfl)) (by decide)
  have u86 := own_oth u86 W2545 (Or.inl (ww hw 412 rfl)) (Or.inl (ww hw 397 rfl)) (by decide)
  have Z0 := own_zw Z0 W2545
  have K0 := K0.wr W2545 mi_o47_1
  refine gb T2545 (mkF m 16 #[SA o47_1, SA q13] [(.ref o47_1), (.ref o47_1)]) (fun _ k => XS.aloadN X2545.here hx rfl (hb hby d48_14) rfl rfl (XS.aloadN X2545.here hx rfl (hb hby d48_15) rfl rfl k)) ?_
  refine own_g1 (getF X2545 hx hZ hown (host := "") (Or.inl (ww hw 393 rfl)) Via.refl e2545 u83 rfl rfl (hb hby d48_16)) fun T2546 X2546 e2546 => ?_
  refine own_g1 (getF X2546 hx hZ hown (host := "") (Or.inl (ww hw 398 rfl)) (Via.of (ww hw 399 rfl)) e2546 u41 rfl rfl (hb hby d48_19)) fun T2547 X2547 e2547 => ?_
  refine own_p1 (putF X2547 hx hZ hown (host := "") (Or.inl (ww hw 400 rfl)) Via.refl e2547 u85 u82 (Or.inl (ww hw 401 rfl)) (ww hw 387 rfl) (ty := .int) (by decide) rfl rfl rfl rfl (hb hby d48_22)) fun T2548 h2548 X2548 e2548 W2548 => ?_
  have N0 := Fr.snoc X2548 N0 ge_o47_1
  have u83 := own_oth u83 W2548 (Or.inr (ww hw 394 rfl)) (Or.inl (ww hw 401 rfl)) (by decide)
  have u86 := own_oth u86 W2548 (Or.inl (ww hw 412 rfl)) (Or.inl (ww hw 401 rfl)) (by decide)
  have Z0 := own_zw Z0 W2548
  have K0 := K0.wr W2548 mi_o47_1
  exact outV X2548 hx hlk hret (hb hby d48_25) (by rw [e2548]; exact ⟨rfl, N0, K0, u83, u86⟩) (by decide) (by decide)
theorem d47_0 : decode jdk_38_method_55_code 0 = .ok (.new 267, 3) := by decide +kernel
theorem d47_3 : decode jdk_38_method_55_code 3 = .ok (.dup, 1) := by decide +kernel
theorem d47_4 : decode jdk_38_method_55_code 4 = .ok (.aload_n 0, 1) := by decide +kernel
theorem d47_5 : decode jdk_38_method_55_code 5 = .ok (.invokespecial 269, 3) := by decide +kernel
theorem d47_8 : decode jdk_38_method_55_code 8 = .ok (.areturn, 1) := by decide +kernel
set_option maxRecDepth 65536 in
set_option maxHeartbeats 40000000 in
theorem au54_iterator (l : Launch) (Z : State) (a0 : Array Value) (hw : ∀ d ∈ tables_1, d.before a0 Z = true) (q13 : Addr) (y_41 : Int32) (h0 : Heap) (n0 : Nat) (Z0 : n0 ≤ h0.size) (u41 : Fld Z h0 q13 sn23 "modCount" "I" (.int y_41)) :
    Does l mn8 jdk_38_method_55_code 1 (some (.object "java/util/Iterator")) [] ({ frames := 2, cells := 1, slots := 4, locals := 26 } : Room) Z #[(.ref q13)] h0 (fun v h L => ∃ (o47_1 : Addr), v = some (.ref o47_1) ∧ Fr n0 L ∧ Keep h0 h [] ∧ h0.size ≤ o47_1 ∧ Exa Z h o47_1 sn24 ∧ Fld Z h o47_1 sn24 "this$0" sn30 (.ref q13) ∧ Fld Z h o47_1 sn24 "cursor" "I" (.int (0 : Int32))) := by
  refine Does.of (plainFor_of_name pn13) ?_
  intro p e s m below meth c s₁ hx hby hml hret hlk hZ hown hnm X0 e0
  have N0 := Fr.nil n0
  refine Goes.cast (g' := mkF m 0 #[SA q13] []) (ef_au0_now m q13) ?_
  have K0 := Keep.refl h0 []
  obtain ⟨T2568, h2568, X2568, e2568, E2568, A2568, D2568, -, st2568⟩ := newO X0 hx hZ hown (ww hw 386 rfl) (ww hw 387 rfl) (ww hw 388 rfl) e0 (g := (mkF m 0 #[SA q13] [])) rfl (hb hby d47_0) (by decide) (by decide)
  obtain ⟨o47_1, g2568⟩ : ∃ z, z = h0.size := ⟨_, rfl⟩
  rw [← g2568] at A2568 D2568 st2568
  have ne_q13_o47_1 : q13 ≠ o47_1 := own_nb u41.lt g2568
  have ge_o47_1 : n0 ≤ o47_1 := Nat.le_trans Z0 (Nat.le_of_eq g2568.symm)
  have sz_o47_1 : h0.size ≤ o47_1 := Nat.le_trans K0.1 (Nat.le_of_eq g2568.symm)
  have u41 := u41.ext E2568
  have Z0 := Nat.le_trans Z0 E2568.1
  have K0 := K0.ext E2568
  have E_o47_1 := A2568
  have f2569 : Fld Z h2568 o47_1 sn24 "this$0" sn30 .null := D2568 (Or.inr (ww hw 394 rfl)) (ty := (.object sn9)) (by decide)
  have f2570 : Fld Z h2568 o47_1 sn24 "lastRet" "I" (.int (0 : Int32)) := D2568 (Or.inl (ww hw 397 rfl)) (ty := .int) (by decide)
  have f2571 : Fld Z h2568 o47_1 sn24 "expectedModCount" "I" (.int (0 : Int32)) := D2568 (Or.inl (ww hw 401 rfl)) (ty := .int) (by decide)
  have f2572 : Fld Z h2568 o47_1 sn24 "cursor" "I" (.int (0 : Int32)) := D2568 (Or.inl (ww hw 412 rfl)) (ty := .int) (by decide)
  refine gb T2568 (mkF m 3 #[SA q13] [(.ref o47_1)]) st2568 ?_
  refine gb T2568 (mkF m 5 #[SA q13] [(.ref q13), (.ref o47_1), (.ref o47_1)]) (fun _ k => XS.dup X2568.here hx rfl (hb hby d47_3) rfl rfl (XS.aloadN X2568.here hx rfl (hb hby d47_4) rfl rfl k)) ?_
  refine own_c1 (callI X2568 hx hZ (y := mn49) rfl hown (ww hw 389 rfl) (ww hw 390 rfl) (ww hw 392 rfl) (ww hw 388 rfl) (by decide) e2568 (a := o47_1) (argsL := [(.ref q13)]) (rest := [(.ref o47_1)]) (W := 1) (au53_init l Z a0 hw o47_1 q13 y_41 (0 : Int32) (0 : Int32) (0 : Int32) h2568 n0 Z0 u41 E_o47_1 f2569 f2570 f2571 f2572 ne_q13_o47_1 ge_o47_1) rfl (by decide) (by decide) (by decide) (by decide) rfl (by rw [hml]; rfl) (lenOf pd27 rfl) rfl (by show 2 * 0 + _ ≤ _; exact Nat.le_of_eq rfl) (hb hby d47_5)) fun v2575 T2575 L2575 X2575 hQ2575 => ?_
  obtain ⟨rfl, NL2575, K2575, f2573, f2574⟩ := hQ2575
  have N0 := Fr.app N0 NL2575
  have e2575 : T2575.heap = T2575.heap := rfl
  have E_o47_1 := E_o47_1.keep K2575
  have Z0 := Nat.le_trans Z0 K2575.1
  have K0 := K0.trans K2575 (allS (Or.inr sz_o47_1) all0)
  exact outA X2575 hx hlk hret rfl rfl rfl (hb hby d47_8) (by rw [e2575]; exact ⟨o47_1, rfl, N0, K0, sz_o47_1, E_o47_1, f2573, f2574⟩) (by decide) (by decide)
theorem d49_0 : decode jdk_49_method_2_code 0 = .ok (.aload_n 0, 1) := by decide +kernel
theorem d49_1 : decode jdk_49_method_2_code 1 = .ok (.getfield 25, 3) := by decide +kernel
theorem d49_4 : decode jdk_49_method_2_code 4 = .ok (.aload_n 0, 1) := by decide +kernel
theorem d49_5 : decode jdk_49_method_2_code 5 = .ok (.getfield 1, 3) := by decide +kernel
theorem d49_8 : decode jdk_49_method_2_code 8 = .ok (.getfield 28, 3) := by decide +kernel
theorem d49_11 : decode jdk_49_method_2_code 11 = .ok (.if_icmp .eq 7, 3) := by decide +kernel
theorem d49_18 : decode jdk_49_method_2_code 18 = .ok (.iconst 0, 1) := by decide +kernel
theorem d49_19 : decode jdk_49_method_2_code 19 = .ok (.ireturn, 1) := by decide +kernel
set_option maxRecDepth 65536 in
set_option maxHeartbeats 40000000 in
theorem au55_hasNext (l : Launch) (Z : State) (a0 : Array Value) (hw : ∀ d ∈ tables_1, d.before a0 Z = true) (o41_1 q13 : Addr) (h0 : Heap) (n0 : Nat) (Z0 : n0 ≤ h0.size) (u42 : Fld Z h0 q13 sn9 "size" "I" (.int (0 : Int32))) (u83 : Fld Z h0 o41_1 sn24 "this$0" sn30 (.ref q13)) (u84 : Fld Z h0 o41_1 sn24 "cursor" "I" (.int (0 : Int32))) :
    Does l mn9 jdk_49_method_2_code 1 (some .boolean) [] ({ frames := 0, cells := 0, slots := 0, locals := 0 } : Room) Z #[(.ref o41_1)] h0 (fun v h L => v = some (.int (0 : Int32)) ∧ Fr n0 L ∧ h = h0) := by
  refine Does.of (plainFor_of_name pn17) ?_
  intro p e s m below meth c s₁ hx hby hml hret hlk hZ hown hnm X0 e0
  have N0 := Fr.nil n0
  refine Goes.cast (g' := mkF m 0 #[SA o41_1] []) (ef_au0_now m o41_1) ?_
  have K0 := Keep.refl h0 []
  refine gb s₁ (mkF m 1 #[SA o41_1] [(.ref o41_1)]) (fun _ k => XS.aloadN X0.here hx rfl (hb hby d49_0) rfl rfl k) ?_
  refine own_g1 (getF X0 hx hZ hown (host := "") (Or.inl (ww hw 411 rfl)) Via.refl e0 u84 rfl rfl (hb hby d49_1)) fun T2595 X2595 e2595 => ?_
  refine gb T2595 (mkF m 5 #[SA o41_1] [(.ref o41_1), (.int (0 : Int32))]) (fun _ k => XS.aloadN X2595.here hx rfl (hb hby d49_4) rfl rfl k) ?_
  refine own_g1 (getF X2595 hx hZ hown (host := "") (Or.inl (ww hw 393 rfl)) Via.refl e2595 u83 rfl rfl (hb hby d49_5)) fun T2596 X2596 e2596 => ?_
  refine own_g1 (getF X2596 hx hZ hown (Or.inr (ww hw 413 rfl)) Via.refl e2596 u42 rfl rfl (hb hby d49_8)) fun T2597 X2597 e2597 => ?_
  refine gb T2597 (mkF m 18 #[SA o41_1] []) (fun _ k => XS.icmpYes X2597.here hx rfl (pc0 := 11) (pc' := 18) rfl (hb hby d49_11) rfl (by decide) (by decide) (by decide) k) ?_
  refine gb T2597 (mkF m 19 #[SA o41_1] [(.int (0 : Int32))]) (fun _ k => XS.iconst X2597.here hx rfl (hb hby d49_18)  k) ?_
  exact outZ X2597 hx hlk hret (hb hby d49_19) (by rw [e2597]; exact ⟨rfl, N0, rfl⟩) (by decide) (by decide)
theorem d41_0 : decode prog_35_method_4_code 0 = .ok (.aload_n 0, 1) := by decide +kernel
theorem d41_1 : decode prog_35_method_4_code 1 = .ok (.dup, 1) := by decide +kernel
theorem d41_2 : decode prog_35_method_4_code 2 = .ok (.getfield 93, 3) := by decide +kernel
theorem d41_5 : decode prog_35_method_4_code 5 = .ok (.lconst 1, 1) := by decide +kernel
theorem d41_6 : decode prog_35_method_4_code 6 = .ok (.lsub, 1) := by decide +kernel
theorem d41_7 : decode prog_35_method_4_code 7 = .ok (.putfield 93, 3) := by decide +kernel
theorem d41_10 : decode prog_35_method_4_code 10 = .ok (.aload_n 2, 1) := by decide +kernel
theorem d41_11 : decode prog_35_method_4_code 11 = .ok (.getstatic 105, 3) := by decide +kernel
theorem d41_14 : decode prog_35_method_4_code 14 = .ok (.if_acmp .ne 19, 3) := by decide +kernel
theorem d41_17 : decode prog_35_method_4_code 17 = .ok (.aload_n 0, 1) := by decide +kernel
theorem d41_18 : decode prog_35_method_4_code 18 = .ok (.dup, 1) := by decide +kernel
theorem d41_19 : decode prog_35_method_4_code 19 = .ok (.getfield 109, 3) := by decide +kernel
theorem d41_22 : decode prog_35_method_4_code 22 = .ok (.aload_n 0, 1) := by decide +kernel
theorem d41_23 : decode prog_35_method_4_code 23 = .ok (.getfield 41, 3) := by decide +kernel
theorem d41_26 : decode prog_35_method_4_code 26 = .ok (.invokevirtual 112, 3) := by decide +kernel
theorem d41_29 : decode prog_35_method_4_code 29 = .ok (.ladd, 1) := by decide +kernel
theorem d41_30 : decode prog_35_method_4_code 30 = .ok (.putfield 109, 3) := by decide +kernel
theorem d41_33 : decode prog_35_method_4_code 33 = .ok (.aload_n 1, 1) := by decide +kernel
theorem d41_34 : decode prog_35_method_4_code 34 = .ok (.invokevirtual 115, 3) := by decide +kernel
theorem d41_37 : decode prog_35_method_4_code 37 = .ok (.ifCond .eq 9, 3) := by decide +kernel
theorem d41_40 : decode prog_35_method_4_code 40 = .ok (.aload_n 0, 1) := by decide +kernel
theorem d41_41 : decode prog_35_method_4_code 41 = .ok (.aload_n 1, 1) := by decide +kernel
theorem d41_42 : decode prog_35_method_4_code 42 = .ok (.aload_n 2, 1) := by decide +kernel
theorem d41_43 : decode prog_35_method_4_code 43 = .ok (.invokevirtual 119, 3) := by decide +kernel
theorem d41_46 : decode prog_35_method_4_code 46 = .ok (.aload_n 0, 1) := by decide +kernel
theorem d41_47 : decode prog_35_method_4_code 47 = .ok (.getfield 33, 3) := by decide +kernel
theorem d41_50 : decode prog_35_method_4_code 50 = .ok (.aload_n 0, 1) := by decide +kernel
theorem d41_51 : decode prog_35_method_4_code 51 = .ok (.getfield 29, 3) := by decide +kernel
theorem d41_54 : decode prog_35_method_4_code 54 = .ok (.invokeinterface 55 1, 5) := by decide +kernel
theorem d41_59 : decode prog_35_method_4_code 59 = .ok (.i2l, 1) := by decide +kernel
theorem d41_60 : decode prog_35_method_4_code 60 = .ok (.invokevirtual 123, 3) := by decide +kernel
theorem d41_63 : decode prog_35_method_4_code 63 = .ok (.aload_n 0, 1) := by decide +kernel
theorem d41_64 : decode prog_35_method_4_code 64 = .ok (.getfield 29, 3) := by decide +kernel
theorem d41_67 : decode prog_35_method_4_code 67 = .ok (.invokeinterface 127 1, 5) := by decide +kernel
theorem d41_72 : decode prog_35_method_4_code 72 = .ok (.astore_n 3, 1) := by decide +kernel
theorem d41_73 : decode prog_35_method_4_code 73 = .ok (.aload_n 3, 1) := by decide +kernel
theorem d41_74 : decode prog_35_method_4_code 74 = .ok (.invokeinterface 131 1, 5) := by decide +kernel
theorem d41_79 : decode prog_35_method_4_code 79 = .ok (.ifCond .eq 25, 3) := by decide +kernel
theorem d41_104 : decode prog_35_method_4_code 104 = .ok (.return_, 1) := by decide +kernel
theorem ef_au56_leave (m : MethodId) (x0 : Addr) (x1 : Addr) (x2 : Addr) : entryFrame m #[(.ref x0), (.ref x1), (.ref x2)] 5 = mkF m 0 #[SA x0, SA x1, SA x2, SU, SU] [] := by first | (simp [entryFrame, mkF, argsToLocals, Value.category, maxLocals]; done) | rfl
set_option maxRecDepth 65536 in
set_option maxHeartbeats 40000000 in
theorem au56_leave (l : Launch) (Z : State) (a0 : Array Value) (hw : ∀ d ∈ tables_1, d.before a0 Z = true) (q9 q16 fD q1 q2 q5 q13 q11 q12 q10 q14 q15 : Addr) (y_41 : Int32) (y_53 y_54 y_55 y_81 : Int64) (y_56 y_62 : UInt64) (Hs : Heap) (h0 : Heap) (n0 : Nat) (Z0 : n0 ≤ h0.size) (u0 : Sta Z Hs sn8 "DELIVERED" sn25 (.ref fD)) (u22 : Exa Z h0 q1 sn5) (u23 : Exa Z h0 q2 sn2) (u26 : Exa Z h0 q5 sn12) (u32 : Exa Z h0 q9 sn0) (u40 : Exa Z h0 q13 sn9) (u41 : Fld Z h0 q13 sn23 "modCount" "I" (.int y_41)) (u42 : Fld Z h0 q13 sn9 "size" "I" (.int (0 : Int32))) (u45 : Fld Z h0 q9 sn0 "left" "[J" (.ref q11)) (u46 : Fld Z h0 q9 sn0 "responseTimes" sn19 (.ref q12)) (u47 : Fld Z h0 q9 sn0 "watchers" sn17 (.ref q13)) (u48 : Fld Z h0 q9 sn0 "simulation" sn14 (.ref q2)) (u49 : Fld Z h0 q9 sn0 "window" sn15 (.ref q10)) (u50 : Fld Z h0 q9 sn0 "measurement" sn6 (.ref q5)) (u51 : Fld Z h0 q9 sn0 "within" "[D" (.ref q14)) (u52 : Fld Z h0 q9 sn0 "deliveredBy" "[J" (.ref q15)) (u53 : Fld Z h0 q9 sn0 "inNetwork" "J" (.long y_53)) (u54 : Fld Z h0 q9 sn0 "produced" "J" (.long y_54)) (u55 : Fld Z h0 q9 sn0 sn18 "J" (.long y_55)) (u56 : Fld Z h0 q9 sn0 sn20 "D" (.double y_56)) (u57 : Exa Z h0 q16 sn7) (u59 : Fld Z h0 q16 sn7 "measured" "Z" (.int (0 : Int32))) (u60 : Fld Z h0 q2 sn2 "budget" sn16 (.ref q1)) (u62 : Fld Z h0 q2 sn2 "now" "D" (.double y_62)) (u69 : Fld Z h0 q1 sn5 "allowed" "J" (.long (1000 : Int64))) (u70 : Fld Z h0 q1 sn5 "spent" "J" (.long (2 : Int64))) (u81 : Fld Z h0 q5 sn12 "inside" "J" (.long y_81)) (ne_q1_q13 : q1 ≠ q13) (ne_q1_q9 : q1 ≠ q9) (ne_q2_q9 : q2 ≠ q9) (ne_q5_q9 : q5 ≠ q9) (ne_q9_q13 : q9 ≠ q13) (ne_q9_q16 : q9 ≠ q16) (ge_q1 : n0 ≤ q1) (ge_q9 : n0 ≤ q9) (qH : Hs.size ≤ n0) (B0 : Ext Hs h0) :
    Does l mn1 prog_35_method_4_code 5 none [] ({ frames := 3, cells := 1, slots := 4, locals := 38 } : Room) Z #[(.ref q9), (.ref q16), (.ref fD)] h0 (fun v h L => v = none ∧ Fr n0 L ∧ Keep h0 h [q1, q9] ∧ Fld Z h q9 sn0 "left" "[J" (.ref q11) ∧ Fld Z h q9 sn0 "responseTimes" sn19 (.ref q12) ∧ Fld Z h q9 sn0 "watchers" sn17 (.ref q13) ∧ Fld Z h q9 sn0 "simulation" sn14 (.ref q2) ∧ Fld Z h q9 sn0 "window" sn15 (.ref q10) ∧ Fld Z h q9 sn0 "measurement" sn6 (.ref q5) ∧ Fld Z h q9 sn0 "within" "[D" (.ref q14) ∧ Fld Z h q9 sn0 "deliveredBy" "[J" (.ref q15) ∧ Fld Z h q9 sn0 "inNetwork" "J" (.long (y_53 - (1 : Int64))) ∧ Fld Z h q9 sn0 "produced" "J" (.long y_54) ∧ Fld Z h q9 sn0 sn18 "J" (.long (y_55 + y_81)) ∧ Fld Z h q9 sn0 sn20 "D" (.double y_56) ∧ Fld Z h q1 sn5 "allowed" "J" (.long (1000 : Int64)) ∧ Fld Z h q1 sn5 "spent" "J" (.long (2 : Int64))) := by
  refine Does.of (plainFor_of_name pn0) ?_
  intro p e s m below meth c s₁ hx hby hml hret hlk hZ hown hnm X0 e0
  have N0 := Fr.nil n0
  refine Goes.cast (g' := mkF m 0 #[SA q9, SA q16, SA fD, SU, SU] []) (ef_au56_leave m q9 q16 fD) ?_
  have mi_q1 : q1 ∈ [q1, q9] ∨ h0.size ≤ q1 := (Or.inl (List.mem_cons_self ..))
  have mi_q9 : q9 ∈ [q1, q9] ∨ h0.size ≤ q9 := (Or.inl (List.mem_cons_of_mem _ (List.mem_cons_self ..)))
  have K0 := Keep.refl h0 [q1, q9]
  refine gb s₁ (mkF m 2 #[SA q9, SA q16, SA fD, SU, SU] [(.ref q9), (.ref q9)]) (fun _ k => XS.aloadN X0.here hx rfl (hb hby d41_0) rfl rfl (XS.dup X0.here hx rfl (hb hby d41_1) rfl rfl k)) ?_
  refine own_g1 (getF X0 hx hZ hown (host := "") (Or.inl (ww hw 280 rfl)) Via.refl e0 u53 rfl rfl (hb hby d41_2)) fun T2645 X2645 e2645 => ?_
  refine gb T2645 (mkF m 6 #[SA q9, SA q16, SA fD, SU, SU] [(.long (1 : Int64)), (.long y_53), (.ref q9)]) (fun _ k => XS.lconst X2645.here hx rfl (hb hby d41_5)  k) ?_
  refine gb T2645 (mkF m 7 #[SA q9, SA q16, SA fD, SU, SU] [(.long (y_53 - (1 : Int64))), (.ref q9)]) (fun _ k => XS.lsub X2645.here hx rfl (hb hby d41_6) rfl k) ?_
  refine own_p1 (putF X2645 hx hZ hown (host := "") (Or.inl (ww hw 280 rfl)) Via.refl e2645 u53 u32 (Or.inl (ww hw 281 rfl)) (ww hw 162 rfl) (ty := .long) (by decide) rfl rfl rfl rfl (hb hby d41_7)) fun T2646 h2646 X2646 e2646 W2646 => ?_
  have N0 := Fr.snoc X2646 N0 ge_q9
  have B0 := own_extW B0 W2646 (Nat.le_trans qH ge_q9)
  have u22 := u22.wr W2646
  have u23 := u23.wr W2646
  have u26 := u26.wr W2646
  have u32 := u32.wr W2646
  have u40 := u40.wr W2646
  have u41 := u41.other W2646 (Or.inl (Ne.symm ne_q9_q13))
  have u42 := u42.other W2646 (Or.inl (Ne.symm ne_q9_q13))
  have u45 := own_oth u45 W2646 (Or.inr (ww hw 191 rfl)) (Or.inl (ww hw 281 rfl)) (by decide)
  have u46 := own_oth u46 W2646 (Or.inr (ww hw 204 rfl)) (Or.inl (ww hw 281 rfl)) (by decide)
  have u47 := own_oth u47 W2646 (Or.inr (ww hw 230 rfl)) (Or.inl (ww hw 281 rfl)) (by decide)
  have u48 := own_oth u48 W2646 (Or.inr (ww hw 232 rfl)) (Or.inl (ww hw 281 rfl)) (by decide)
  have u49 := own_oth u49 W2646 (Or.inr (ww hw 234 rfl)) (Or.inl (ww hw 281 rfl)) (by decide)
  have u50 := own_oth u50 W2646 (Or.inr (ww hw 236 rfl)) (Or.inl (ww hw 281 rfl)) (by decide)
  have u51 := own_oth u51 W2646 (Or.inr (ww hw 260 rfl)) (Or.inl (ww hw 281 rfl)) (by decide)
  have u52 := own_oth u52 W2646 (Or.inr (ww hw 262 rfl)) (Or.inl (ww hw 281 rfl)) (by decide)
  have u53 := u53.same W2646
  have u54 := own_oth u54 W2646 (Or.inl (ww hw 283 rfl)) (Or.inl (ww hw 281 rfl)) (by decide)
  have u55 := own_oth u55 W2646 (Or.inl (ww hw 348 rfl)) (Or.inl (ww hw 281 rfl)) (by decide)
  have u56 := own_oth u56 W2646 (Or.inl (ww hw 443 rfl)) (Or.inl (ww hw 281 rfl)) (by decide)
  have u57 := u57.wr W2646
  have u59 := u59.other W2646 (Or.inl (Ne.symm ne_q9_q16))
  have u60 := u60.other W2646 (Or.inl ne_q2_q9)
  have u62 := u62.other W2646 (Or.inl ne_q2_q9)
  have u69 := u69.other W2646 (Or.inl ne_q1_q9)
  have u70 := u70.other W2646 (Or.inl ne_q1_q9)
  have u81 := u81.other W2646 (Or.inl ne_q5_q9)
  have Z0 := own_zw Z0 W2646
  have K0 := K0.wr W2646 mi_q9
  refine gb T2646 (mkF m 11 #[SA q9, SA q16, SA fD, SU, SU] [(.ref fD)]) (fun _ k => XS.aloadN X2646.here hx rfl (hb hby d41_10) rfl rfl k) ?_
  refine own_g1 (getS X2646 hx hZ (host := "") hown (ww hw 346 rfl) Via.refl e2646 (u0.ext B0) rfl (hb hby d41_11)) fun T2647 X2647 e2647 => ?_
  refine gb T2647 (mkF m 17 #[SA q9, SA q16, SA fD, SU, SU] []) (fun _ k => Jvm.RoadKit.acmp (g := (mkF m 14 #[SA q9, SA q16, SA fD, SU, SU] [(.ref fD), (.ref fD)])) X2647 hx rfl rfl rfl (pc0 := 14) (pc' := 17) (same := true) rfl (hb hby d41_14) rfl (decide_eq_true (congrArg Value.ref rfl)) (by decide) (by decide) k) ?_
  refine gb T2647 (mkF m 19 #[SA q9, SA q16, SA fD, SU, SU] [(.ref q9), (.ref q9)]) (fun _ k => XS.aloadN X2647.here hx rfl (hb hby d41_17) rfl rfl (XS.dup X2647.here hx rfl (hb hby d41_18) rfl rfl k)) ?_
  refine own_g1 (getF X2647 hx hZ hown (host := "") (Or.inl (ww hw 347 rfl)) Via.refl e2647 u55 rfl rfl (hb hby d41_19)) fun T2648 X2648 e2648 => ?_
  refine gb T2648 (mkF m 23 #[SA q9, SA q16, SA fD, SU, SU] [(.ref q9), (.long y_55), (.ref q9)]) (fun _ k => XS.aloadN X2648.here hx rfl (hb hby d41_22) rfl rfl k) ?_
  refine own_g1 (getF X2648 hx hZ hown (host := "") (Or.inl (ww hw 235 rfl)) Via.refl e2648 u50 rfl rfl (hb hby d41_23)) fun T2649 X2649 e2649 => ?_
  refine own_c1 (callV X2649 hx hZ (y := mn32) hown (ww hw 349 rfl) (ww hw 350 rfl) (ww hw 352 rfl) (ww hw 351 rfl) (ww hw 353 rfl) (ww hw 55 rfl) (by decide) e2649 u26 (argsL := []) (rest := [(.long y_55), (.ref q9)]) (W := 3) (au48_inside l Z a0 hw q5 y_81 h2646 n0 Z0 u81) rfl (by decide) (by decide) (by decide) (by decide) rfl (by rw [hml]; rfl) (lenOf pd23 rfl) rfl (by show 2 * 0 + _ ≤ _; exact Nat.le_of_eq rfl) (hb hby d41_26)) fun v2651 T2651 L2651 X2651 hQ2651 => ?_
  obtain ⟨rfl, NL2651, hk2651⟩ := hQ2651
  have N0 := Fr.app N0 NL2651
  refine gb T2651 (mkF m 30 #[SA q9, SA q16, SA fD, SU, SU] [(.long (y_55 + y_81)), (.ref q9)]) (fun _ k => XS.ladd X2651.here hx rfl (hb hby d41_29) rfl k) ?_
  refine own_p1 (putF X2651 hx hZ hown (host := "") (Or.inl (ww hw 347 rfl)) Via.refl hk2651 u55 u32 (Or.inl (ww hw 348 rfl)) (ww hw 162 rfl) (ty := .long) (by decide) rfl rfl rfl rfl (hb hby d41_30)) fun T2652 h2652 X2652 e2652 W2652 => ?_
  have N0 := Fr.snoc X2652 N0 ge_q9
  have B0 := own_extW B0 W2652 (Nat.le_trans qH ge_q9)
  have u22 := u22.wr W2652
  have u23 := u23.wr W2652
  have u40 := u40.wr W2652
  have u41 := u41.other W2652 (Or.inl (Ne.symm ne_q9_q13))
  have u42 := u42.other W2652 (Or.inl (Ne.symm ne_q9_q13))
  have u45 := own_oth u45 W2652 (Or.inr (ww hw 191 rfl)) (Or.inl (ww hw 348 rfl)) (by decide)
  have u46 := own_oth u46 W2652 (Or.inr (ww hw 204 rfl)) (Or.inl (ww hw 348 rfl)) (by decide)
  have u47 := own_oth u47 W2652 (Or.inr (ww hw 230 rfl)) (Or.inl (ww hw 348 rfl)) (by decide)
  have u48 := own_oth u48 W2652 (Or.inr (ww hw 232 rfl)) (Or.inl (ww hw 348 rfl)) (by decide)
  have u49 := own_oth u49 W2652 (Or.inr (ww hw 234 rfl)) (Or.inl (ww hw 348 rfl)) (by decide)
  have u50 := own_oth u50 W2652 (Or.inr (ww hw 236 rfl)) (Or.inl (ww hw 348 rfl)) (by decide)
  have u51 := own_oth u51 W2652 (Or.inr (ww hw 260 rfl)) (Or.inl (ww hw 348 rfl)) (by decide)
  have u52 := own_oth u52 W2652 (Or.inr (ww hw 262 rfl)) (Or.inl (ww hw 348 rfl)) (by decide)
  have u53 := own_oth u53 W2652 (Or.inl (ww hw 281 rfl)) (Or.inl (ww hw 348 rfl)) (by decide)
  have u54 := own_oth u54 W2652 (Or.inl (ww hw 283 rfl)) (Or.inl (ww hw 348 rfl)) (by decide)
  have u55 := u55.same W2652
  have u56 := own_oth u56 W2652 (Or.inl (ww hw 443 rfl)) (Or.inl (ww hw 348 rfl)) (by decide)
  have u57 := u57.wr W2652
  have u59 := u59.other W2652 (Or.inl (Ne.symm ne_q9_q16))
  have u60 := u60.other W2652 (Or.inl ne_q2_q9)
  have u62 := u62.other W2652 (Or.inl ne_q2_q9)
  have u69 := u69.other W2652 (Or.inl ne_q1_q9)
  have u70 := u70.other W2652 (Or.inl ne_q1_q9)
  have Z0 := own_zw Z0 W2652
  have K0 := K0.wr W2652 mi_q9
  refine gb T2652 (mkF m 34 #[SA q9, SA q16, SA fD, SU, SU] [(.ref q16)]) (fun _ k => XS.aloadN X2652.here hx rfl (hb hby d41_33) rfl rfl k) ?_
  refine own_c1 (callV X2652 hx hZ (y := mn3) hown (ww hw 355 rfl) (ww hw 356 rfl) (ww hw 358 rfl) (ww hw 357 rfl) (ww hw 359 rfl) (ww hw 286 rfl) (by decide) e2652 u57 (argsL := []) (rest := []) (W := 0) (au49_measured l Z a0 hw q16 h2652 n0 Z0 u59) rfl (by decide) (by decide) (by decide) (by decide) rfl (by rw [hml]; rfl) (lenOf pd0 rfl) rfl (by show 2 * 0 + _ ≤ _; exact Nat.le_of_eq rfl) (hb hby d41_34)) fun v2654 T2654 L2654 X2654 hQ2654 => ?_
  obtain ⟨rfl, NL2654, hk2654⟩ := hQ2654
  have N0 := Fr.app N0 NL2654
  refine gb T2654 (mkF m 46 #[SA q9, SA q16, SA fD, SU, SU] []) (fun _ k => XS.ifYes X2654.here hx rfl (pc0 := 37) (pc' := 46) rfl (hb hby d41_37) rfl (by decide) (by decide) (by decide) k) ?_
  refine gb T2654 (mkF m 47 #[SA q9, SA q16, SA fD, SU, SU] [(.ref q9)]) (fun _ k => XS.aloadN X2654.here hx rfl (hb hby d41_46) rfl rfl k) ?_
  refine own_g1 (getF X2654 hx hZ hown (host := "") (Or.inl (ww hw 231 rfl)) Via.refl hk2654 u48 rfl rfl (hb hby d41_47)) fun T2655 X2655 e2655 => ?_
  refine gb T2655 (mkF m 51 #[SA q9, SA q16, SA fD, SU, SU] [(.ref q9), (.ref q2)]) (fun _ k => XS.aloadN X2655.here hx rfl (hb hby d41_50) rfl rfl k) ?_
  refine own_g1 (getF X2655 hx hZ hown (host := "") (Or.inl (ww hw 229 rfl)) Via.refl e2655 u47 rfl rfl (hb hby d41_51)) fun T2656 X2656 e2656 => ?_
  refine own_c1 (callF X2656 hx hZ (xi := mn5) (y := mn6) hown (ww hw 246 rfl) (ww hw 247 rfl) (ww hw 248 rfl) (by decide) (ww hw 360 rfl) (ww hw 361 rfl) (ww hw 362 rfl) (ww hw 363 rfl) (ww hw 364 rfl) (ww hw 365 rfl) (ww hw 207 rfl) (by decide) e2656 u40 (argsL := []) (rest := [(.ref q2)]) (W := 1) (au50_size l Z a0 hw q13 (0 : Int32) h2652 n0 Z0 u42) rfl (by decide) (by decide) (by decide) (by decide) rfl (by rw [hml]; rfl) (lenOf pd19 rfl) rfl (by show 2 * 0 + _ ≤ _; exact Nat.le_of_eq rfl) (hb hby d41_54)) fun v2657 T2657 L2657 X2657 hQ2657 => ?_
  obtain ⟨rfl, NL2657, hk2657⟩ := hQ2657
  have N0 := Fr.app N0 NL2657
  refine gb T2657 (mkF m 60 #[SA q9, SA q16, SA fD, SU, SU] [(.long (0 : Int64)), (.ref q2)]) (fun _ k => XS.i2l X2657.here hx rfl (hb hby d41_59) rfl k) ?_
  refine own_c1 (callV X2657 hx hZ (y := mn7) hown (ww hw 368 rfl) (ww hw 369 rfl) (ww hw 371 rfl) (ww hw 370 rfl) (ww hw 372 rfl) (ww hw 28 rfl) (by decide) hk2657 u23 (argsL := [(.long (0 : Int64))]) (rest := []) (W := 0) (au52_spend l Z a0 hw q2 q1 y_62 h2652 n0 Z0 u22 u60 u62 u69 u70 ge_q1) rfl (by decide) (by decide) (by decide) (by decide) rfl (by rw [hml]; rfl) (lenOf pd3 rfl) rfl (by show 2 * 0 + _ ≤ _; exact Nat.le_of_eq rfl) (hb hby d41_60)) fun v2661 T2661 L2661 X2661 hQ2661 => ?_
  obtain ⟨rfl, NL2661, K2661, f2658, f2659⟩ := hQ2661
  have N0 := Fr.app N0 NL2661
  have e2661 : T2661.heap = T2661.heap := rfl
  have B0 := own_extK B0 K2661 (allS (Nat.le_trans qH ge_q1) all0)
  have u40 := u40.keep K2661
  have u41 := u41.keep K2661 (ninS (Ne.symm ne_q1_q13) nin0)
  have u42 := u42.keep K2661 (ninS (Ne.symm ne_q1_q13) nin0)
  have u45 := u45.keep K2661 (ninS (Ne.symm ne_q1_q9) nin0)
  have u46 := u46.keep K2661 (ninS (Ne.symm ne_q1_q9) nin0)
  have u47 := u47.keep K2661 (ninS (Ne.symm ne_q1_q9) nin0)
  have u48 := u48.keep K2661 (ninS (Ne.symm ne_q1_q9) nin0)
  have u49 := u49.keep K2661 (ninS (Ne.symm ne_q1_q9) nin0)
  have u50 := u50.keep K2661 (ninS (Ne.symm ne_q1_q9) nin0)
  have u51 := u51.keep K2661 (ninS (Ne.symm ne_q1_q9) nin0)
  have u52 := u52.keep K2661 (ninS (Ne.symm ne_q1_q9) nin0)
  have u53 := u53.keep K2661 (ninS (Ne.symm ne_q1_q9) nin0)
  have u54 := u54.keep K2661 (ninS (Ne.symm ne_q1_q9) nin0)
  have u55 := u55.keep K2661 (ninS (Ne.symm ne_q1_q9) nin0)
  have u56 := u56.keep K2661 (ninS (Ne.symm ne_q1_q9) nin0)
  have Z0 := Nat.le_trans Z0 K2661.1
  have K0 := K0.trans K2661 (allS mi_q1 all0)
  refine gb T2661 (mkF m 64 #[SA q9, SA q16, SA fD, SU, SU] [(.ref q9)]) (fun _ k => XS.aloadN X2661.here hx rfl (hb hby d41_63) rfl rfl k) ?_
  refine own_g1 (getF X2661 hx hZ hown (host := "") (Or.inl (ww hw 229 rfl)) Via.refl e2661 u47 rfl rfl (hb hby d41_64)) fun T2662 X2662 e2662 => ?_
  refine own_c1 (callF X2662 hx hZ (xi := mn12) (y := mn8) hown (ww hw 378 rfl) (ww hw 379 rfl) (ww hw 380 rfl) (by decide) (ww hw 381 rfl) (ww hw 382 rfl) (ww hw 383 rfl) (ww hw 384 rfl) (ww hw 364 rfl) (ww hw 385 rfl) (ww hw 207 rfl) (by decide) e2662 u40 (argsL := []) (rest := []) (W := 0) (au54_iterator l Z a0 hw q13 y_41 T2661.heap n0 Z0 u41) rfl (by decide) (by decide) (by decide) (by decide) rfl (by rw [hml]; rfl) (lenOf pd28 rfl) rfl (by show 2 * 0 + _ ≤ _; exact Nat.le_of_eq rfl) (hb hby d41_67)) fun v2666 T2666 L2666 X2666 hQ2666 => ?_
  obtain ⟨o41_1, rfl, NL2666, K2666, sz2666_o41_1, f2663, f2664, f2665⟩ := hQ2666
  have N0 := Fr.app N0 NL2666
  have ge_o41_1 : n0 ≤ o41_1 := Nat.le_trans Z0 sz2666_o41_1
  have sz_o41_1 : h0.size ≤ o41_1 := Nat.le_trans K0.1 sz2666_o41_1
  have e2666 : T2666.heap = T2666.heap := rfl
  have B0 := own_extK B0 K2666 all0
  have u42 := u42.keep K2666 nin0
  have u45 := u45.keep K2666 nin0
  have u46 := u46.keep K2666 nin0
  have u47 := u47.keep K2666 nin0
  have u48 := u48.keep K2666 nin0
  have u49 := u49.keep K2666 nin0
  have u50 := u50.keep K2666 nin0
  have u51 := u51.keep K2666 nin0
  have u52 := u52.keep K2666 nin0
  have u53 := u53.keep K2666 nin0
  have u54 := u54.keep K2666 nin0
  have u55 := u55.keep K2666 nin0
  have u56 := u56.keep K2666 nin0
  have f2658 := f2658.keep K2666 nin0
  have f2659 := f2659.keep K2666 nin0
  have Z0 := Nat.le_trans Z0 K2666.1
  have K0 := K0.trans K2666 all0
  refine gb T2666 (mkF m 74 #[SA q9, SA q16, SA fD, SA o41_1, SU] [(.ref o41_1)]) (fun _ k => XS.astoreN X2666.here hx rfl (hb hby d41_72) rfl rfl (l' := #[SA q9, SA q16, SA fD, SA o41_1, SU]) rfl (XS.aloadN X2666.here hx rfl (hb hby d41_73) rfl rfl k)) ?_
  refine own_c1 (callF X2666 hx hZ (xi := mn13) (y := mn9) hown (ww hw 402 rfl) (ww hw 403 rfl) (ww hw 404 rfl) (by decide) (ww hw 405 rfl) (ww hw 406 rfl) (ww hw 407 rfl) (ww hw 408 rfl) (ww hw 409 rfl) (ww hw 410 rfl) (ww hw 388 rfl) (by decide) e2666 f2663 (argsL := []) (rest := []) (W := 0) (au55_hasNext l Z a0 hw o41_1 q13 T2666.heap n0 Z0 u42 f2664 f2665) rfl (by decide) (by decide) (by decide) (by decide) rfl (by rw [hml]; rfl) (lenOf pd0 rfl) rfl (by show 2 * 0 + _ ≤ _; exact Nat.le_of_eq rfl) (hb hby d41_74)) fun v2667 T2667 L2667 X2667 hQ2667 => ?_
  obtain ⟨rfl, NL2667, hk2667⟩ := hQ2667
  have N0 := Fr.app N0 NL2667
  refine gb T2667 (mkF m 104 #[SA q9, SA q16, SA fD, SA o41_1, SU] []) (fun _ k => XS.ifYes X2667.here hx rfl (pc0 := 79) (pc' := 104) rfl (hb hby d41_79) rfl (by decide) (by decide) (by decide) k) ?_
  exact outV X2667 hx hlk hret (hb hby d41_104) (by rw [hk2667]; exact ⟨rfl, N0, K0, u45, u46, u47, u48, u49, u50, u51, u52, u53, u54, u55, u56, f2658, f2659⟩) (by decide) (by decide)
set_option maxRecDepth 65536 in
set_option maxHeartbeats 40000000 in
theorem au57_leave (l : Launch) (Z : State) (a0 : Array Value) (hw : ∀ d ∈ tables_1, d.before a0 Z = true) (q9 q16 fE fD q1 q2 q13 q11 q12 q10 q5 q14 q15 : Addr) (y_41 : Int32) (y_53 y_54 y_55 : Int64) (y_56 y_62 : UInt64) (Hs : Heap) (h0 : Heap) (n0 : Nat) (Z0 : n0 ≤ h0.size) (u0 : Sta Z Hs sn8 "DELIVERED" sn25 (.ref fD)) (u22 : Exa Z h0 q1 sn5) (u23 : Exa Z h0 q2 sn2) (u32 : Exa Z h0 q9 sn0) (u40 : Exa Z h0 q13 sn9) (u41 : Fld Z h0 q13 sn23 "modCount" "I" (.int y_41)) (u42 : Fld Z h0 q13 sn9 "size" "I" (.int (0 : Int32))) (u45 : Fld Z h0 q9 sn0 "left" "[J" (.ref q11)) (u46 : Fld Z h0 q9 sn0 "responseTimes" sn19 (.ref q12)) (u47 : Fld Z h0 q9 sn0 "watchers" sn17 (.ref q13)) (u48 : Fld Z h0 q9 sn0 "simulation" sn14 (.ref q2)) (u49 : Fld Z h0 q9 sn0 "window" sn15 (.ref q10)) (u50 : Fld Z h0 q9 sn0 "measurement" sn6 (.ref q5)) (u51 : Fld Z h0 q9 sn0 "within" "[D" (.ref q14)) (u52 : Fld Z h0 q9 sn0 "deliveredBy" "[J" (.ref q15)) (u53 : Fld Z h0 q9 sn0 "inNetwork" "J" (.long y_53)) (u54 : Fld Z h0 q9 sn0 "produced" "J" (.long y_54)) (u55 : Fld Z h0 q9 sn0 sn18 "J" (.long y_55)) (u56 : Fld Z h0 q9 sn0 sn20 "D" (.double y_56)) (u57 : Exa Z h0 q16 sn7) (u59 : Fld Z h0 q16 sn7 "measured" "Z" (.int (0 : Int32))) (u60 : Fld Z h0 q2 sn2 "budget" sn16 (.ref q1)) (u62 : Fld Z h0 q2 sn2 "now" "D" (.double y_62)) (u69 : Fld Z h0 q1 sn5 "allowed" "J" (.long (1000 : Int64))) (u70 : Fld Z h0 q1 sn5 "spent" "J" (.long (2 : Int64))) (ne_fE_fD : fE ≠ fD) (ne_q1_q13 : q1 ≠ q13) (ne_q1_q9 : q1 ≠ q9) (ne_q2_q9 : q2 ≠ q9) (ne_q9_q13 : q9 ≠ q13) (ne_q9_q16 : q9 ≠ q16) (ge_q1 : n0 ≤ q1) (ge_q9 : n0 ≤ q9) (qH : Hs.size ≤ n0) (B0 : Ext Hs h0) :
    Does l mn1 prog_35_method_4_code 5 none [] ({ frames := 3, cells := 1, slots := 4, locals := 38 } : Room) Z #[(.ref q9), (.ref q16), (.ref fE)] h0 (fun v h L => v = none ∧ Fr n0 L ∧ Keep h0 h [q1, q9] ∧ Fld Z h q9 sn0 "left" "[J" (.ref q11) ∧ Fld Z h q9 sn0 "responseTimes" sn19 (.ref q12) ∧ Fld Z h q9 sn0 "watchers" sn17 (.ref q13) ∧ Fld Z h q9 sn0 "simulation" sn14 (.ref q2) ∧ Fld Z h q9 sn0 "window" sn15 (.ref q10) ∧ Fld Z h q9 sn0 "measurement" sn6 (.ref q5) ∧ Fld Z h q9 sn0 "within" "[D" (.ref q14) ∧ Fld Z h q9 sn0 "deliveredBy" "[J" (.ref q15) ∧ Fld Z h q9 sn0 "inNetwork" "J" (.long (y_53 - (1 : Int64))) ∧ Fld Z h q9 sn0 "produced" "J" (.long y_54) ∧ Fld Z h q9 sn0 sn18 "J" (.long y_55) ∧ Fld Z h q9 sn0 sn20 "D" (.double y_56) ∧ Fld Z h q1 sn5 "allowed" "J" (.long (1000 : Int64)) ∧ Fld Z h q1 sn5 "spent" "J" (.long (2 : Int64))) := by
  refine Does.of (plainFor_of_name pn0) ?_
  intro p e s m below meth c s₁ hx hby hml hret hlk hZ hown hnm X0 e0
  have N0 := Fr.nil n0
  refine Goes.cast (g' := mkF m 0 #[SA q9, SA q16, SA fE, SU, SU] []) (ef_au56_leave m q9 q16 fE) ?_
  have mi_q1 : q1 ∈ [q1, q9] ∨ h0.size ≤ q1 := (Or.inl (List.mem_cons_self ..))
  have mi_q9 : q9 ∈ [q1, q9] ∨ h0.size ≤ q9 := (Or.inl (List.mem_cons_of_mem _ (List.mem_cons_self ..)))
  have K0 := Keep.refl h0 [q1, q9]
  refine gb s₁ (mkF m 2 #[SA q9, SA q16, SA fE, SU, SU] [(.ref q9), (.ref q9)]) (fun _ k => XS.aloadN X0.here hx rfl (hb hby d41_0) rfl rfl (XS.dup X0.here hx rfl (hb hby d41_1) rfl rfl k)) ?_
  refine own_g1 (getF X0 hx hZ hown (host := "") (Or.inl (ww hw 280 rfl)) Via.refl e0 u53 rfl rfl (hb hby d41_2)) fun T2793 X2793 e2793 => ?_
  refine gb T2793 (mkF m 6 #[SA q9, SA q16, SA fE, SU, SU] [(.long (1 : Int64)), (.long y_53), (.ref q9)]) (fun _ k => XS.lconst X2793.here hx rfl (hb hby d41_5)  k) ?_
  refine gb T2793 (mkF m 7 #[SA q9, SA q16, SA fE, SU, SU] [(.long (y_53 - (1 : Int64))), (.ref q9)]) (fun _ k => XS.lsub X2793.here hx rfl (hb hby d41_6) rfl k) ?_
  refine own_p1 (putF X2793 hx hZ hown (host := "") (Or.inl (ww hw 280 rfl)) Via.refl e2793 u53 u32 (Or.inl (ww hw 281 rfl)) (ww hw 162 rfl) (ty := .long) (by decide) rfl rfl rfl rfl (hb hby d41_7)) fun T2794 h2794 X2794 e2794 W2794 => ?_
  have N0 := Fr.snoc X2794 N0 ge_q9
  have B0 := own_extW B0 W2794 (Nat.le_trans qH ge_q9)
  have u22 := u22.wr W2794
  have u23 := u23.wr W2794
  have u40 := u40.wr W2794
  have u41 := u41.other W2794 (Or.inl (Ne.symm ne_q9_q13))
  have u42 := u42.other W2794 (Or.inl (Ne.symm ne_q9_q13))
  have u45 := own_oth u45 W2794 (Or.inr (ww hw 191 rfl)) (Or.inl (ww hw 281 rfl)) (by decide)
  have u46 := own_oth u46 W2794 (Or.inr (ww hw 204 rfl)) (Or.inl (ww hw 281 rfl)) (by decide)
  have u47 := own_oth u47 W2794 (Or.inr (ww hw 230 rfl)) (Or.inl (ww hw 281 rfl)) (by decide)
  have u48 := own_oth u48 W2794 (Or.inr (ww hw 232 rfl)) (Or.inl (ww hw 281 rfl)) (by decide)
  have u49 := own_oth u49 W2794 (Or.inr (ww hw 234 rfl)) (Or.inl (ww hw 281 rfl)) (by decide)
  have u50 := own_oth u50 W2794 (Or.inr (ww hw 236 rfl)) (Or.inl (ww hw 281 rfl)) (by decide)
  have u51 := own_oth u51 W2794 (Or.inr (ww hw 260 rfl)) (Or.inl (ww hw 281 rfl)) (by decide)
  have u52 := own_oth u52 W2794 (Or.inr (ww hw 262 rfl)) (Or.inl (ww hw 281 rfl)) (by decide)
  have u53 := u53.same W2794
  have u54 := own_oth u54 W2794 (Or.inl (ww hw 283 rfl)) (Or.inl (ww hw 281 rfl)) (by decide)
  have u55 := own_oth u55 W2794 (Or.inl (ww hw 348 rfl)) (Or.inl (ww hw 281 rfl)) (by decide)
  have u56 := own_oth u56 W2794 (Or.inl (ww hw 443 rfl)) (Or.inl (ww hw 281 rfl)) (by decide)
  have u57 := u57.wr W2794
  have u59 := u59.other W2794 (Or.inl (Ne.symm ne_q9_q16))
  have u60 := u60.other W2794 (Or.inl ne_q2_q9)
  have u62 := u62.other W2794 (Or.inl ne_q2_q9)
  have u69 := u69.other W2794 (Or.inl ne_q1_q9)
  have u70 := u70.other W2794 (Or.inl ne_q1_q9)
  have Z0 := own_zw Z0 W2794
  have K0 := K0.wr W2794 mi_q9
  refine gb T2794 (mkF m 11 #[SA q9, SA q16, SA fE, SU, SU] [(.ref fE)]) (fun _ k => XS.aloadN X2794.here hx rfl (hb hby d41_10) rfl rfl k) ?_
  refine own_g1 (getS X2794 hx hZ (host := "") hown (ww hw 346 rfl) Via.refl e2794 (u0.ext B0) rfl (hb hby d41_11)) fun T2795 X2795 e2795 => ?_
  refine gb T2795 (mkF m 33 #[SA q9, SA q16, SA fE, SU, SU] []) (fun _ k => Jvm.RoadKit.acmp (g := (mkF m 14 #[SA q9, SA q16, SA fE, SU, SU] [(.ref fD), (.ref fE)])) X2795 hx rfl rfl rfl (pc0 := 14) (pc' := 33) (same := false) rfl (hb hby d41_14) rfl (decide_eq_false fun q => ne_fE_fD (Value.ref.inj q)) (by decide) (by decide) k) ?_
  refine gb T2795 (mkF m 34 #[SA q9, SA q16, SA fE, SU, SU] [(.ref q16)]) (fun _ k => XS.aloadN X2795.here hx rfl (hb hby d41_33) rfl rfl k) ?_
  refine own_c1 (callV X2795 hx hZ (y := mn3) hown (ww hw 355 rfl) (ww hw 356 rfl) (ww hw 358 rfl) (ww hw 357 rfl) (ww hw 359 rfl) (ww hw 286 rfl) (by decide) e2795 u57 (argsL := []) (rest := []) (W := 0) (au49_measured l Z a0 hw q16 h2794 n0 Z0 u59) rfl (by decide) (by decide) (by decide) (by decide) rfl (by rw [hml]; rfl) (lenOf pd0 rfl) rfl (by show 2 * 0 + _ ≤ _; exact Nat.le_of_eq rfl) (hb hby d41_34)) fun v2797 T2797 L2797 X2797 hQ2797 => ?_
  obtain ⟨rfl, NL2797, hk2797⟩ := hQ2797
  have N0 := Fr.app N0 NL2797
  refine gb T2797 (mkF m 46 #[SA q9, SA q16, SA fE, SU, SU] []) (fun _ k => XS.ifYes X2797.here hx rfl (pc0 := 37) (pc' := 46) rfl (hb hby d41_37) rfl (by decide) (by decide) (by decide) k) ?_
  refine gb T2797 (mkF m 47 #[SA q9, SA q16, SA fE, SU, SU] [(.ref q9)]) (fun _ k => XS.aloadN X2797.here hx rfl (hb hby d41_46) rfl rfl k) ?_
  refine own_g1 (getF X2797 hx hZ hown (host := "") (Or.inl (ww hw 231 rfl)) Via.refl hk2797 u48 rfl rfl (hb hby d41_47)) fun T2798 X2798 e2798 => ?_
  refine gb T2798 (mkF m 51 #[SA q9, SA q16, SA fE, SU, SU] [(.ref q9), (.ref q2)]) (fun _ k => XS.aloadN X2798.here hx rfl (hb hby d41_50) rfl rfl k) ?_
  refine own_g1 (getF X2798 hx hZ hown (host := "") (Or.inl (ww hw 229 rfl)) Via.refl e2798 u47 rfl rfl (hb hby d41_51)) fun T2799 X2799 e2799 => ?_
  refine own_c1 (callF X2799 hx hZ (xi := mn5) (y := mn6) hown (ww hw 246 rfl) (ww hw 247 rfl) (ww hw 248 rfl) (by decide) (ww hw 360 rfl) (ww hw 361 rfl) (ww hw 362 rfl) (ww hw 363 rfl) (ww hw 364 rfl) (ww hw 365 rfl) (ww hw 207 rfl) (by decide) e2799 u40 (argsL := []) (rest := [(.ref q2)]) (W := 1) (au50_size l Z a0 hw q13 (0 : Int32) h2794 n0 Z0 u42) rfl (by decide) (by decide) (by decide) (by decide) rfl (by rw [hml]; rfl) (lenOf pd19 rfl) rfl (by show 2 * 0 + _ ≤ _; exact Nat.le_of_eq rfl) (hb hby d41_54)) fun v2800 T2800 L2800 X2800 hQ2800 => ?_
  obtain ⟨rfl, NL2800, hk2800⟩ := hQ2800
  have N0 := Fr.app N0 NL2800
  refine gb T2800 (mkF m 60 #[SA q9, SA q16, SA fE, SU, SU] [(.long (0 : Int64)), (.ref q2)]) (fun _ k => XS.i2l X2800.here hx rfl (hb hby d41_59) rfl k) ?_
  refine own_c1 (callV X2800 hx hZ (y := mn7) hown (ww hw 368 rfl) (ww hw 369 rfl) (ww hw 371 rfl) (ww hw 370 rfl) (ww hw 372 rfl) (ww hw 28 rfl) (by decide) hk2800 u23 (argsL := [(.long (0 : Int64))]) (rest := []) (W := 0) (au52_spend l Z a0 hw q2 q1 y_62 h2794 n0 Z0 u22 u60 u62 u69 u70 ge_q1) rfl (by decide) (by decide) (by decide) (by decide) rfl (by rw [hml]; rfl) (lenOf pd3 rfl) rfl (by show 2 * 0 + _ ≤ _; exact Nat.le_of_eq rfl) (hb hby d41_60)) fun v2804 T2804 L2804 X2804 hQ2804 => ?_
  obtain ⟨rfl, NL2804, K2804, f2801, f2802⟩ := hQ2804
  have N0 := Fr.app N0 NL2804
  have e2804 : T2804.heap = T2804.heap := rfl
  have B0 := own_extK B0 K2804 (allS (Nat.le_trans qH ge_q1) all0)
  have u40 := u40.keep K2804
  have u41 := u41.keep K2804 (ninS (Ne.symm ne_q1_q13) nin0)
  have u42 := u42.keep K2804 (ninS (Ne.symm ne_q1_q13) nin0)
  have u45 := u45.keep K2804 (ninS (Ne.symm ne_q1_q9) nin0)
  have u46 := u46.keep K2804 (ninS (Ne.symm ne_q1_q9) nin0)
  have u47 := u47.keep K2804 (ninS (Ne.symm ne_q1_q9) nin0)
  have u48 := u48.keep K2804 (ninS (Ne.symm ne_q1_q9) nin0)
  have u49 := u49.keep K2804 (ninS (Ne.symm ne_q1_q9) nin0)
  have u50 := u50.keep K2804 (ninS (Ne.symm ne_q1_q9) nin0)
  have u51 := u51.keep K2804 (ninS (Ne.symm ne_q1_q9) nin0)
  have u52 := u52.keep K2804 (ninS (Ne.symm ne_q1_q9) nin0)
  have u53 := u53.keep K2804 (ninS (Ne.symm ne_q1_q9) nin0)
  have u54 := u54.keep K2804 (ninS (Ne.symm ne_q1_q9) nin0)
  have u55 := u55.keep K2804 (ninS (Ne.symm ne_q1_q9) nin0)
  have u56 := u56.keep K2804 (ninS (Ne.symm ne_q1_q9) nin0)
  have Z0 := Nat.le_trans Z0 K2804.1
  have K0 := K0.trans K2804 (allS mi_q1 all0)
  refine gb T2804 (mkF m 64 #[SA q9, SA q16, SA fE, SU, SU] [(.ref q9)]) (fun _ k => XS.aloadN X2804.here hx rfl (hb hby d41_63) rfl rfl k) ?_
  refine own_g1 (getF X2804 hx hZ hown (host := "") (Or.inl (ww hw 229 rfl)) Via.refl e2804 u47 rfl rfl (hb hby d41_64)) fun T2805 X2805 e2805 => ?_
  refine own_c1 (callF X2805 hx hZ (xi := mn12) (y := mn8) hown (ww hw 378 rfl) (ww hw 379 rfl) (ww hw 380 rfl) (by decide) (ww hw 381 rfl) (ww hw 382 rfl) (ww hw 383 rfl) (ww hw 384 rfl) (ww hw 364 rfl) (ww hw 385 rfl) (ww hw 207 rfl) (by decide) e2805 u40 (argsL := []) (rest := []) (W := 0) (au54_iterator l Z a0 hw q13 y_41 T2804.heap n0 Z0 u41) rfl (by decide) (by decide) (by decide) (by decide) rfl (by rw [hml]; rfl) (lenOf pd28 rfl) rfl (by show 2 * 0 + _ ≤ _; exact Nat.le_of_eq rfl) (hb hby d41_67)) fun v2809 T2809 L2809 X2809 hQ2809 => ?_
  obtain ⟨o41_1, rfl, NL2809, K2809, sz2809_o41_1, f2806, f2807, f2808⟩ := hQ2809
  have N0 := Fr.app N0 NL2809
  have ge_o41_1 : n0 ≤ o41_1 := Nat.le_trans Z0 sz2809_o41_1
  have sz_o41_1 : h0.size ≤ o41_1 := Nat.le_trans K0.1 sz2809_o41_1
  have e2809 : T2809.heap = T2809.heap := rfl
  have B0 := own_extK B0 K2809 all0
  have u42 := u42.keep K2809 nin0
  have u45 := u45.keep K2809 nin0
  have u46 := u46.keep K2809 nin0
  have u47 := u47.keep K2809 nin0
  have u48 := u48.keep K2809 nin0
  have u49 := u49.keep K2809 nin0
  have u50 := u50.keep K2809 nin0
  have u51 := u51.keep K2809 nin0
  have u52 := u52.keep K2809 nin0
  have u53 := u53.keep K2809 nin0
  have u54 := u54.keep K2809 nin0
  have u55 := u55.keep K2809 nin0
  have u56 := u56.keep K2809 nin0
  have f2801 := f2801.keep K2809 nin0
  have f2802 := f2802.keep K2809 nin0
  have Z0 := Nat.le_trans Z0 K2809.1
  have K0 := K0.trans K2809 all0
  refine gb T2809 (mkF m 74 #[SA q9, SA q16, SA fE, SA o41_1, SU] [(.ref o41_1)]) (fun _ k => XS.astoreN X2809.here hx rfl (hb hby d41_72) rfl rfl (l' := #[SA q9, SA q16, SA fE, SA o41_1, SU]) rfl (XS.aloadN X2809.here hx rfl (hb hby d41_73) rfl rfl k)) ?_
  refine own_c1 (callF X2809 hx hZ (xi := mn13) (y := mn9) hown (ww hw 402 rfl) (ww hw 403 rfl) (ww hw 404 rfl) (by decide) (ww hw 405 rfl) (ww hw 406 rfl) (ww hw 407 rfl) (ww hw 408 rfl) (ww hw 409 rfl) (ww hw 410 rfl) (ww hw 388 rfl) (by decide) e2809 f2806 (argsL := []) (rest := []) (W := 0) (au55_hasNext l Z a0 hw o41_1 q13 T2809.heap n0 Z0 u42 f2807 f2808) rfl (by decide) (by decide) (by decide) (by decide) rfl (by rw [hml]; rfl) (lenOf pd0 rfl) rfl (by show 2 * 0 + _ ≤ _; exact Nat.le_of_eq rfl) (hb hby d41_74)) fun v2810 T2810 L2810 X2810 hQ2810 => ?_
  obtain ⟨rfl, NL2810, hk2810⟩ := hQ2810
  have N0 := Fr.app N0 NL2810
  refine gb T2810 (mkF m 104 #[SA q9, SA q16, SA fE, SA o41_1, SU] []) (fun _ k => XS.ifYes X2810.here hx rfl (pc0 := 79) (pc' := 104) rfl (hb hby d41_79) rfl (by decide) (by decide) (by decide) k) ?_
  exact outV X2810 hx hlk hret (hb hby d41_104) (by rw [hk2810]; exact ⟨rfl, N0, K0, u45, u46, u47, u48, u49, u50, u51, u52, u53, u54, u55, u56, f2801, f2802⟩) (by decide) (by decide)
set_option maxRecDepth 65536 in
set_option maxHeartbeats 40000000 in
theorem au58_init (l : Launch) (Z : State) (a0 : Array Value) (hw : ∀ d ∈ tables_1, d.before a0 Z = true) (o30_1 : Addr) (y_87 : Int32) (y_a2 y_84 : Int64) (y_a3 y_a4 y_85 y_86 : UInt64) (h0 : Heap) (n0 : Nat) (Z0 : n0 ≤ h0.size) (u82 : Exa Z h0 o30_1 sn7) (u83 : Fld Z h0 o30_1 sn7 "origin" sn31 .null) (u84 : Fld Z h0 o30_1 sn7 "sequence" "J" (.long y_84)) (u85 : Fld Z h0 o30_1 sn7 "produced" "D" (.double y_85)) (u86 : Fld Z h0 o30_1 sn7 "deadline" "D" (.double y_86)) (u87 : Fld Z h0 o30_1 sn7 "measured" "Z" (.int y_87)) (ge_o30_1 : n0 ≤ o30_1) :
    Does l mn26 prog_40_method_1_code 9 none [] ({ frames := 1, cells := 0, slots := 0, locals := 12 } : Room) Z #[(.ref o30_1), .null, (.long y_a2), (.double y_a3), (.double y_a4), (.int (1 : Int32))] h0 (fun v h L => v = none ∧ Fr n0 L ∧ Keep h0 h [o30_1] ∧ Fld Z h o30_1 sn7 "produced" "D" (.double y_a3) ∧ Fld Z h o30_1 sn7 "measured" "Z" (.int (1 : Int32))) := by
  refine Does.of (plainFor_of_name pn16) ?_
  intro p e s m below meth c s₁ hx hby hml hret hlk hZ hown hnm X0 e0
  have N0 := Fr.nil n0
  refine Goes.cast (g' := mkF m 0 #[SA o30_1, SN, SJ y_a2, S2, SD y_a3, S2, SD y_a4, S2, SI 1] []) (ef_au46_init m o30_1 y_a2 y_a3 y_a4 (1 : Int32)) ?_
  have mi_o30_1 : o30_1 ∈ [o30_1] ∨ h0.size ≤ o30_1 := (Or.inl (List.mem_cons_self ..))
  have K0 := Keep.refl h0 [o30_1]
  refine gb s₁ (mkF m 1 #[SA o30_1, SN, SJ y_a2, S2, SD y_a3, S2, SD y_a4, S2, SI 1] [(.ref o30_1)]) (fun _ k => XS.aloadN X0.here hx rfl (hb hby d33_0) rfl rfl k) ?_
  obtain ⟨T2987, X2987, e2987, st2987⟩ := initO X0 hx hZ hown (ww hw 290 rfl) (ww hw 16 rfl) (ww hw 17 rfl) e0 (g := (mkF m 1 #[SA o30_1, SN, SJ y_a2, S2, SD y_a3, S2, SD y_a4, S2, SI 1] [(.ref o30_1)])) rfl (by rw [hml]; rfl) rfl (hb hby d33_1) (by decide) (W := 0) (by show 2 * 0 + _ ≤ _; exact Nat.le_of_eq rfl) (by decide)
  refine gb T2987 (mkF m 4 #[SA o30_1, SN, SJ y_a2, S2, SD y_a3, S2, SD y_a4, S2, SI 1] []) st2987 ?_
  refine gb T2987 (mkF m 6 #[SA o30_1, SN, SJ y_a2, S2, SD y_a3, S2, SD y_a4, S2, SI 1] [.null, (.ref o30_1)]) (fun _ k => XS.aloadN X2987.here hx rfl (hb hby d33_4) rfl rfl (XS.aloadN X2987.here hx rfl (hb hby d33_5) rfl rfl k)) ?_
  refine own_p1 (putF X2987 hx hZ hown (host := "") (Or.inl (ww hw 291 rfl)) Via.refl e2987 u83 u82 (Or.inr ⟨(ww hw 292 rfl), rfl, hnm⟩) (ww hw 285 rfl) (ty := (.object sn32)) (by decide) rfl rfl rfl rfl (hb hby d33_6)) fun T2988 h2988 X2988 e2988 W2988 => ?_
  have N0 := Fr.snoc X2988 N0 ge_o30_1
  have u82 := u82.wr W2988
  have u84 := own_oth u84 W2988 (Or.inr (ww hw 294 rfl)) (Or.inr (ww hw 292 rfl)) (by decide)
  have u85 := own_oth u85 W2988 (Or.inr (ww hw 296 rfl)) (Or.inr (ww hw 292 rfl)) (by decide)
  have u86 := own_oth u86 W2988 (Or.inr (ww hw 298 rfl)) (Or.inr (ww hw 292 rfl)) (by decide)
  have u87 := own_oth u87 W2988 (Or.inr (ww hw 300 rfl)) (Or.inr (ww hw 292 rfl)) (by decide)
  have Z0 := own_zw Z0 W2988
  have K0 := K0.wr W2988 mi_o30_1
  refine gb T2988 (mkF m 11 #[SA o30_1, SN, SJ y_a2, S2, SD y_a3, S2, SD y_a4, S2, SI 1] [(.long y_a2), (.ref o30_1)]) (fun _ k => XS.aloadN X2988.here hx rfl (hb hby d33_9) rfl rfl (XS.lloadN X2988.here hx rfl (hb hby d33_10) rfl k)) ?_
  refine own_p1 (putF X2988 hx hZ hown (host := "") (Or.inl (ww hw 293 rfl)) Via.refl e2988 u84 u82 (Or.inr ⟨(ww hw 294 rfl), rfl, hnm⟩) (ww hw 285 rfl) (ty := .long) (by decide) rfl rfl rfl rfl (hb hby d33_11)) fun T2989 h2989 X2989 e2989 W2989 => ?_
  have N0 := Fr.snoc X2989 N0 ge_o30_1
  have u82 := u82.wr W2989
  have u85 := own_oth u85 W2989 (Or.inr (ww hw 296 rfl)) (Or.inr (ww hw 294 rfl)) (by decide)
  have u86 := own_oth u86 W2989 (Or.inr (ww hw 298 rfl)) (Or.inr (ww hw 294 rfl)) (by decide)
  have u87 := own_oth u87 W2989 (Or.inr (ww hw 300 rfl)) (Or.inr (ww hw 294 rfl)) (by decide)
  have Z0 := own_zw Z0 W2989
  have K0 := K0.wr W2989 mi_o30_1
  refine gb T2989 (mkF m 17 #[SA o30_1, SN, SJ y_a2, S2, SD y_a3, S2, SD y_a4, S2, SI 1] [(.double y_a3), (.ref o30_1)]) (fun _ k => XS.aloadN X2989.here hx rfl (hb hby d33_14) rfl rfl (XS.dload X2989.here hx rfl (hb hby d33_15) rfl k)) ?_
  refine own_p1 (putF X2989 hx hZ hown (host := "") (Or.inl (ww hw 295 rfl)) Via.refl e2989 u85 u82 (Or.inr ⟨(ww hw 296 rfl), rfl, hnm⟩) (ww hw 285 rfl) (ty := .double) (by decide) rfl rfl rfl rfl (hb hby d33_17)) fun T2990 h2990 X2990 e2990 W2990 => ?_
  have N0 := Fr.snoc X2990 N0 ge_o30_1
  have u82 := u82.wr W2990
  have u85 := u85.same W2990
  have u86 := own_oth u86 W2990 (Or.inr (ww hw 298 rfl)) (Or.inr (ww hw 296 rfl)) (by decide)
  have u87 := own_oth u87 W2990 (Or.inr (ww hw 300 rfl)) (Or.inr (ww hw 296 rfl)) (by decide)
  have Z0 := own_zw Z0 W2990
  have K0 := K0.wr W2990 mi_o30_1
  refine gb T2990 (mkF m 23 #[SA o30_1, SN, SJ y_a2, S2, SD y_a3, S2, SD y_a4, S2, SI 1] [(.double y_a4), (.ref o30_1)]) (fun _ k => XS.aloadN X2990.here hx rfl (hb hby d33_20) rfl rfl (XS.dload X2990.here hx rfl (hb hby d33_21) rfl k)) ?_
  refine own_p1 (putF X2990 hx hZ hown (host := "") (Or.inl (ww hw 297 rfl)) Via.refl e2990 u86 u82 (Or.inr ⟨(ww hw 298 rfl), rfl, hnm⟩) (ww hw 285 rfl) (ty := .double) (by decide) rfl rfl rfl rfl (hb hby d33_23)) fun T2991 h2991 X2991 e2991 W2991 => ?_
  have N0 := Fr.snoc X2991 N0 ge_o30_1
  have u82 := u82.wr W2991
  have u85 := own_oth u85 W2991 (Or.inr (ww hw 296 rfl)) (Or.inr (ww hw 298 rfl)) (by decide)
  have u87 := own_oth u87 W2991 (Or.inr (ww hw 300 rfl)) (Or.inr (ww hw 298 rfl)) (by decide)
  have Z0 := own_zw Z0 W2991
  have K0 := K0.wr W2991 mi_o30_1
  refine gb T2991 (mkF m 29 #[SA o30_1, SN, SJ y_a2, S2, SD y_a3, S2, SD y_a4, S2, SI 1] [(.int (1 : Int32)), (.ref o30_1)]) (fun _ k => XS.aloadN X2991.here hx rfl (hb hby d33_26) rfl rfl (XS.iload X2991.here hx rfl (hb hby d33_27) rfl k)) ?_
  obtain ⟨T2992, h2992, X2992, e2992, W2992, st2992⟩ := putFN X2991 hx hZ hown (ww hw 299 rfl) Via.refl e2991 u87 u82 (Or.inr ⟨(ww hw 300 rfl), rfl, hnm⟩) (ww hw 285 rfl) (ty := .boolean) (v' := (.int (1 : Int32))) (by decide) rfl (by decide) (g := (mkF m 29 #[SA o30_1, SN, SJ y_a2, S2, SD y_a3, S2, SD y_a4, S2, SI 1] [(.int (1 : Int32)), (.ref o30_1)])) rfl rfl (hb hby d33_29)
  have N0 := Fr.snoc X2992 N0 ge_o30_1
  have u85 := own_oth u85 W2992 (Or.inr (ww hw 296 rfl)) (Or.inr (ww hw 300 rfl)) (by decide)
  have u87 := u87.same W2992
  have Z0 := own_zw Z0 W2992
  have K0 := K0.wr W2992 mi_o30_1
  refine gb T2992 (mkF m 32 #[SA o30_1, SN, SJ y_a2, S2, SD y_a3, S2, SD y_a4, S2, SI 1] []) st2992 ?_
  exact outV X2992 hx hlk hret (hb hby d33_32) (by rw [e2992]; exact ⟨rfl, N0, K0, u85, u87⟩) (by decide) (by decide)
set_option maxRecDepth 65536 in
set_option maxHeartbeats 40000000 in
theorem au59_produce (l : Launch) (Z : State) (a0 : Array Value) (hw : ∀ d ∈ tables_1, d.before a0 Z = true) (q9 q2 q5 q11 q12 q13 q10 q14 q15 : Addr) (y_a2 y_53 y_54 y_55 : Int64) (y_56 : UInt64) (h0 : Heap) (n0 : Nat) (Z0 : n0 ≤ h0.size) (u23 : Exa Z h0 q2 sn2) (u26 : Exa Z h0 q5 sn12) (u32 : Exa Z h0 q9 sn0) (u45 : Fld Z h0 q9 sn0 "left" "[J" (.ref q11)) (u46 : Fld Z h0 q9 sn0 "responseTimes" sn19 (.ref q12)) (u47 : Fld Z h0 q9 sn0 "watchers" sn17 (.ref q13)) (u48 : Fld Z h0 q9 sn0 "simulation" sn14 (.ref q2)) (u49 : Fld Z h0 q9 sn0 "window" sn15 (.ref q10)) (u50 : Fld Z h0 q9 sn0 "measurement" sn6 (.ref q5)) (u51 : Fld Z h0 q9 sn0 "within" "[D" (.ref q14)) (u52 : Fld Z h0 q9 sn0 "deliveredBy" "[J" (.ref q15)) (u53 : Fld Z h0 q9 sn0 "inNetwork" "J" (.long y_53)) (u54 : Fld Z h0 q9 sn0 "produced" "J" (.long y_54)) (u55 : Fld Z h0 q9 sn0 sn18 "J" (.long y_55)) (u56 : Fld Z h0 q9 sn0 sn20 "D" (.double y_56)) (u62 : Fld Z h0 q2 sn2 "now" "D" (.double (4607182418800017409 : UInt64))) (u80 : Fld Z h0 q5 sn12 "begun" "J" (.long (1 : Int64))) (ge_q9 : n0 ≤ q9) :
    Does l mn15 prog_35_method_3_code 10 (some (.object sn7)) [] ({ frames := 2, cells := 1, slots := 5, locals := 33 } : Room) Z #[(.ref q9), .null, (.long y_a2), (.double (4607182418800017408 : UInt64))] h0 (fun v h L => ∃ (o30_1 : Addr), v = some (.ref o30_1) ∧ Fr n0 L ∧ Keep h0 h [q9] ∧ h0.size ≤ o30_1 ∧ Fld Z h q9 sn0 "left" "[J" (.ref q11) ∧ Fld Z h q9 sn0 "responseTimes" sn19 (.ref q12) ∧ Fld Z h q9 sn0 "watchers" sn17 (.ref q13) ∧ Fld Z h q9 sn0 "simulation" sn14 (.ref q2) ∧ Fld Z h q9 sn0 "window" sn15 (.ref q10) ∧ Fld Z h q9 sn0 "measurement" sn6 (.ref q5) ∧ Fld Z h q9 sn0 "within" "[D" (.ref q14) ∧ Fld Z h q9 sn0 "deliveredBy" "[J" (.ref q15) ∧ Fld Z h q9 sn0 "inNetwork" "J" (.long (y_53 + (1 : Int64))) ∧ Fld Z h q9 sn0 "produced" "J" (.long (y_54 + (1 : Int64))) ∧ Fld Z h q9 sn0 sn18 "J" (.long y_55) ∧ Fld Z h q9 sn0 sn20 "D" (.double y_56) ∧ Exa Z h o30_1 sn7 ∧ Fld Z h o30_1 sn7 "produced" "D" (.double (4607182418800017409 : UInt64)) ∧ Fld Z h o30_1 sn7 "measured" "Z" (.int (1 : Int32))) := by
  refine Does.of (plainFor_of_name pn0) ?_
  intro p e s m below meth c s₁ hx hby hml hret hlk hZ hown hnm X0 e0
  have N0 := Fr.nil n0
  refine Goes.cast (g' := mkF m 0 #[SA q9, SN, SJ y_a2, S2, SD 4607182418800017408, S2, SU, SU, SU, SU] []) (ef_au47_produce m q9 y_a2 (4607182418800017408 : UInt64)) ?_
  have mi_q9 : q9 ∈ [q9] ∨ h0.size ≤ q9 := (Or.inl (List.mem_cons_self ..))
  have K0 := Keep.refl h0 [q9]
  refine gb s₁ (mkF m 1 #[SA q9, SN, SJ y_a2, S2, SD 4607182418800017408, S2, SU, SU, SU, SU] [(.ref q9)]) (fun _ k => XS.aloadN X0.here hx rfl (hb hby d30_0) rfl rfl k) ?_
  refine own_g1 (getF X0 hx hZ hown (host := "") (Or.inl (ww hw 231 rfl)) Via.refl e0 u48 rfl rfl (hb hby d30_1)) fun T3034 X3034 e3034 => ?_
  refine own_c1 (callV X3034 hx hZ (y := mn2) hown (ww hw 268 rfl) (ww hw 269 rfl) (ww hw 271 rfl) (ww hw 270 rfl) (ww hw 272 rfl) (ww hw 28 rfl) (by decide) e3034 u23 (argsL := []) (rest := []) (W := 0) (au0_now l Z a0 hw q2 (4607182418800017409 : UInt64) h0 n0 Z0 u62) rfl (by decide) (by decide) (by decide) (by decide) rfl (by rw [hml]; rfl) (lenOf pd1 rfl) rfl (by show 2 * 0 + _ ≤ _; exact Nat.le_of_eq rfl) (hb hby d30_4)) fun v3036 T3036 L3036 X3036 hQ3036 => ?_
  obtain ⟨rfl, NL3036, hk3036⟩ := hQ3036
  have N0 := Fr.app N0 NL3036
  refine gb T3036 (mkF m 10 #[SA q9, SN, SJ y_a2, S2, SD 4607182418800017408, S2, SD 4607182418800017409, S2, SU, SU] [(.ref q9)]) (fun _ k => XS.dstore X3036.here hx rfl (hb hby d30_7) rfl (l' := #[SA q9, SN, SJ y_a2, S2, SD 4607182418800017408, S2, SD 4607182418800017409, S2, SU, SU]) rfl (XS.aloadN X3036.here hx rfl (hb hby d30_9) rfl rfl k)) ?_
  refine own_g1 (getF X3036 hx hZ hown (host := "") (Or.inl (ww hw 235 rfl)) Via.refl hk3036 u50 rfl rfl (hb hby d30_10)) fun T3037 X3037 e3037 => ?_
  refine own_c1 (callV X3037 hx hZ (y := mn31) hown (ww hw 273 rfl) (ww hw 274 rfl) (ww hw 276 rfl) (ww hw 275 rfl) (ww hw 277 rfl) (ww hw 55 rfl) (by decide) e3037 u26 (argsL := []) (rest := []) (W := 0) (au45_begun l Z a0 hw q5 (1 : Int64) h0 n0 Z0 u80) rfl (by decide) (by decide) (by decide) (by decide) rfl (by rw [hml]; rfl) (lenOf pd23 rfl) rfl (by show 2 * 0 + _ ≤ _; exact Nat.le_of_eq rfl) (hb hby d30_13)) fun v3039 T3039 L3039 X3039 hQ3039 => ?_
  obtain ⟨rfl, NL3039, hk3039⟩ := hQ3039
  have N0 := Fr.app N0 NL3039
  refine gb T3039 (mkF m 20 #[SA q9, SN, SJ y_a2, S2, SD 4607182418800017408, S2, SD 4607182418800017409, S2, SJ 1, S2] [(.ref q9), (.ref q9)]) (fun _ k => XS.lstore X3039.here hx rfl (hb hby d30_16) rfl (l' := #[SA q9, SN, SJ y_a2, S2, SD 4607182418800017408, S2, SD 4607182418800017409, S2, SJ 1, S2]) rfl (XS.aloadN X3039.here hx rfl (hb hby d30_18) rfl rfl (XS.dup X3039.here hx rfl (hb hby d30_19) rfl rfl k))) ?_
  refine own_g1 (getF X3039 hx hZ hown (host := "") (Or.inl (ww hw 280 rfl)) Via.refl hk3039 u53 rfl rfl (hb hby d30_20)) fun T3040 X3040 e3040 => ?_
  refine gb T3040 (mkF m 24 #[SA q9, SN, SJ y_a2, S2, SD 4607182418800017408, S2, SD 4607182418800017409, S2, SJ 1, S2] [(.long (1 : Int64)), (.long y_53), (.ref q9)]) (fun _ k => XS.lconst X3040.here hx rfl (hb hby d30_23)  k) ?_
  refine gb T3040 (mkF m 25 #[SA q9, SN, SJ y_a2, S2, SD 4607182418800017408, S2, SD 4607182418800017409, S2, SJ 1, S2] [(.long (y_53 + (1 : Int64))), (.ref q9)]) (fun _ k => XS.ladd X3040.here hx rfl (hb hby d30_24) rfl k) ?_
  refine own_p1 (putF X3040 hx hZ hown (host := "") (Or.inl (ww hw 280 rfl)) Via.refl e3040 u53 u32 (Or.inl (ww hw 281 rfl)) (ww hw 162 rfl) (ty := .long) (by decide) rfl rfl rfl rfl (hb hby d30_25)) fun T3041 h3041 X3041 e3041 W3041 => ?_
  have N0 := Fr.snoc X3041 N0 ge_q9
  have u32 := u32.wr W3041
  have u45 := own_oth u45 W3041 (Or.inr (ww hw 191 rfl)) (Or.inl (ww hw 281 rfl)) (by decide)
  have u46 := own_oth u46 W3041 (Or.inr (ww hw 204 rfl)) (Or.inl (ww hw 281 rfl)) (by decide)
  have u47 := own_oth u47 W3041 (Or.inr (ww hw 230 rfl)) (Or.inl (ww hw 281 rfl)) (by decide)
  have u48 := own_oth u48 W3041 (Or.inr (ww hw 232 rfl)) (Or.inl (ww hw 281 rfl)) (by decide)
  have u49 := own_oth u49 W3041 (Or.inr (ww hw 234 rfl)) (Or.inl (ww hw 281 rfl)) (by decide)
  have u50 := own_oth u50 W3041 (Or.inr (ww hw 236 rfl)) (Or.inl (ww hw 281 rfl)) (by decide)
  have u51 := own_oth u51 W3041 (Or.inr (ww hw 260 rfl)) (Or.inl (ww hw 281 rfl)) (by decide)
  have u52 := own_oth u52 W3041 (Or.inr (ww hw 262 rfl)) (Or.inl (ww hw 281 rfl)) (by decide)
  have u53 := u53.same W3041
  have u54 := own_oth u54 W3041 (Or.inl (ww hw 283 rfl)) (Or.inl (ww hw 281 rfl)) (by decide)
  have u55 := own_oth u55 W3041 (Or.inl (ww hw 348 rfl)) (Or.inl (ww hw 281 rfl)) (by decide)
  have u56 := own_oth u56 W3041 (Or.inl (ww hw 443 rfl)) (Or.inl (ww hw 281 rfl)) (by decide)
  have Z0 := own_zw Z0 W3041
  have K0 := K0.wr W3041 mi_q9
  refine gb T3041 (mkF m 30 #[SA q9, SN, SJ y_a2, S2, SD 4607182418800017408, S2, SD 4607182418800017409, S2, SJ 1, S2] [(.ref q9), (.ref q9)]) (fun _ k => XS.aloadN X3041.here hx rfl (hb hby d30_28) rfl rfl (XS.dup X3041.here hx rfl (hb hby d30_29) rfl rfl k)) ?_
  refine own_g1 (getF X3041 hx hZ hown (host := "") (Or.inl (ww hw 282 rfl)) Via.refl e3041 u54 rfl rfl (hb hby d30_30)) fun T3042 X3042 e3042 => ?_
  refine gb T3042 (mkF m 35 #[SA q9, SN, SJ y_a2, S2, SD 4607182418800017408, S2, SD 4607182418800017409, S2, SJ 1, S2] [(.long (1 : Int64)), (.long y_54), (.ref q9)]) (fun _ k => XS.lload X3042.here hx rfl (hb hby d30_33) rfl k) ?_
  refine gb T3042 (mkF m 36 #[SA q9, SN, SJ y_a2, S2, SD 4607182418800017408, S2, SD 4607182418800017409, S2, SJ 1, S2] [(.long (y_54 + (1 : Int64))), (.ref q9)]) (fun _ k => XS.ladd X3042.here hx rfl (hb hby d30_35) rfl k) ?_
  refine own_p1 (putF X3042 hx hZ hown (host := "") (Or.inl (ww hw 282 rfl)) Via.refl e3042 u54 u32 (Or.inl (ww hw 283 rfl)) (ww hw 162 rfl) (ty := .long) (by decide) rfl rfl rfl rfl (hb hby d30_36)) fun T3043 h3043 X3043 e3043 W3043 => ?_
  have N0 := Fr.snoc X3043 N0 ge_q9
  have u45 := own_oth u45 W3043 (Or.inr (ww hw 191 rfl)) (Or.inl (ww hw 283 rfl)) (by decide)
  have u46 := own_oth u46 W3043 (Or.inr (ww hw 204 rfl)) (Or.inl (ww hw 283 rfl)) (by decide)
  have u47 := own_oth u47 W3043 (Or.inr (ww hw 230 rfl)) (Or.inl (ww hw 283 rfl)) (by decide)
  have u48 := own_oth u48 W3043 (Or.inr (ww hw 232 rfl)) (Or.inl (ww hw 283 rfl)) (by decide)
  have u49 := own_oth u49 W3043 (Or.inr (ww hw 234 rfl)) (Or.inl (ww hw 283 rfl)) (by decide)
  have u50 := own_oth u50 W3043 (Or.inr (ww hw 236 rfl)) (Or.inl (ww hw 283 rfl)) (by decide)
  have u51 := own_oth u51 W3043 (Or.inr (ww hw 260 rfl)) (Or.inl (ww hw 283 rfl)) (by decide)
  have u52 := own_oth u52 W3043 (Or.inr (ww hw 262 rfl)) (Or.inl (ww hw 283 rfl)) (by decide)
  have u53 := own_oth u53 W3043 (Or.inl (ww hw 281 rfl)) (Or.inl (ww hw 283 rfl)) (by decide)
  have u54 := u54.same W3043
  have u55 := own_oth u55 W3043 (Or.inl (ww hw 348 rfl)) (Or.inl (ww hw 283 rfl)) (by decide)
  have u56 := own_oth u56 W3043 (Or.inl (ww hw 443 rfl)) (Or.inl (ww hw 283 rfl)) (by decide)
  have Z0 := own_zw Z0 W3043
  have K0 := K0.wr W3043 mi_q9
  obtain ⟨T3044, h3044, X3044, e3044, E3044, A3044, D3044, -, st3044⟩ := newO X3043 hx hZ hown (ww hw 284 rfl) (ww hw 285 rfl) (ww hw 286 rfl) e3043 (g := (mkF m 39 #[SA q9, SN, SJ y_a2, S2, SD 4607182418800017408, S2, SD 4607182418800017409, S2, SJ 1, S2] [])) rfl (hb hby d30_39) (by decide) (by decide)
  obtain ⟨o30_1, g3044⟩ : ∃ z, z = h3043.size := ⟨_, rfl⟩
  rw [← g3044] at A3044 D3044 st3044
  have ne_q9_o30_1 : q9 ≠ o30_1 := own_nb u45.lt g3044
  have ge_o30_1 : n0 ≤ o30_1 := Nat.le_trans Z0 (Nat.le_of_eq g3044.symm)
  have sz_o30_1 : h0.size ≤ o30_1 := Nat.le_trans K0.1 (Nat.le_of_eq g3044.symm)
  have u45 := u45.ext E3044
  have u46 := u46.ext E3044
  have u47 := u47.ext E3044
  have u48 := u48.ext E3044
  have u49 := u49.ext E3044
  have u50 := u50.ext E3044
  have u51 := u51.ext E3044
  have u52 := u52.ext E3044
  have u53 := u53.ext E3044
  have u54 := u54.ext E3044
  have u55 := u55.ext E3044
  have u56 := u56.ext E3044
  have Z0 := Nat.le_trans Z0 E3044.1
  have K0 := K0.ext E3044
  have E_o30_1 := A3044
  have f3045 : Fld Z h3044 o30_1 sn7 "origin" sn31 .null := D3044 (Or.inr (ww hw 292 rfl)) (ty := (.object sn32)) (by decide)
  have f3046 : Fld Z h3044 o30_1 sn7 "sequence" "J" (.long (0 : Int64)) := D3044 (Or.inr (ww hw 294 rfl)) (ty := .long) (by decide)
  have f3047 : Fld Z h3044 o30_1 sn7 "produced" "D" (.double (0 : UInt64)) := D3044 (Or.inr (ww hw 296 rfl)) (ty := .double) (by decide)
  have f3048 : Fld Z h3044 o30_1 sn7 "deadline" "D" (.double (0 : UInt64)) := D3044 (Or.inr (ww hw 298 rfl)) (ty := .double) (by decide)
  have f3049 : Fld Z h3044 o30_1 sn7 "measured" "Z" (.int (0 : Int32)) := D3044 (Or.inr (ww hw 300 rfl)) (ty := .boolean) (by decide)
  refine gb T3044 (mkF m 42 #[SA q9, SN, SJ y_a2, S2, SD 4607182418800017408, S2, SD 4607182418800017409, S2, SJ 1, S2] [(.ref o30_1)]) st3044 ?_
  refine gb T3044 (mkF m 51 #[SA q9, SN, SJ y_a2, S2, SD 4607182418800017408, S2, SD 4607182418800017409, S2, SJ 1, S2] [(.double (4607182418800017408 : UInt64)), (.double (4607182418800017409 : UInt64)), (.double (4607182418800017409 : UInt64)), (.long y_a2), .null, (.ref o30_1), (.ref o30_1)]) (fun _ k => XS.dup X3044.here hx rfl (hb hby d30_42) rfl rfl (XS.aloadN X3044.here hx rfl (hb hby d30_43) rfl rfl (XS.lloadN X3044.here hx rfl (hb hby d30_44) rfl (XS.dload X3044.here hx rfl (hb hby d30_45) rfl (XS.dload X3044.here hx rfl (hb hby d30_47) rfl (XS.dload X3044.here hx rfl (hb hby d30_49) rfl k)))))) ?_
  refine gb T3044 (mkF m 52 #[SA q9, SN, SJ y_a2, S2, SD 4607182418800017408, S2, SD 4607182418800017409, S2, SJ 1, S2] [(.double (4611686018427387904 : UInt64)), (.double (4607182418800017409 : UInt64)), (.long y_a2), .null, (.ref o30_1), (.ref o30_1)]) (fun _ k => XS.daddS X3044.here hx rfl (hb hby d30_51) rfl (by decide +kernel) (by decide +kernel : FP.dadd (4607182418800017409 : UInt64) (4607182418800017408 : UInt64) = (4611686018427387904 : UInt64)) k) ?_
  refine gb T3044 (mkF m 55 #[SA q9, SN, SJ y_a2, S2, SD 4607182418800017408, S2, SD 4607182418800017409, S2, SJ 1, S2] [(.long (0 : Int64)), (.long (1 : Int64)), (.double (4611686018427387904 : UInt64)), (.double (4607182418800017409 : UInt64)), (.long y_a2), .null, (.ref o30_1), (.ref o30_1)]) (fun _ k => XS.lload X3044.here hx rfl (hb hby d30_52) rfl (XS.lconst X3044.here hx rfl (hb hby d30_54)  k)) ?_
  refine gb T3044 (mkF m 56 #[SA q9, SN, SJ y_a2, S2, SD 4607182418800017408, S2, SD 4607182418800017409, S2, SJ 1, S2] [(.int (1 : Int32)), (.double (4611686018427387904 : UInt64)), (.double (4607182418800017409 : UInt64)), (.long y_a2), .null, (.ref o30_1), (.ref o30_1)]) (fun _ k => XS.lcmpS X3044.here hx rfl (hb hby d30_55) rfl (by decide) k) ?_
  refine gb T3044 (mkF m 59 #[SA q9, SN, SJ y_a2, S2, SD 4607182418800017408, S2, SD 4607182418800017409, S2, SJ 1, S2] [(.double (4611686018427387904 : UInt64)), (.double (4607182418800017409 : UInt64)), (.long y_a2), .null, (.ref o30_1), (.ref o30_1)]) (fun _ k => XS.ifNo X3044.here hx rfl (hb hby d30_56) rfl (by decide) k) ?_
  refine gb T3044 (mkF m 60 #[SA q9, SN, SJ y_a2, S2, SD 4607182418800017408, S2, SD 4607182418800017409, S2, SJ 1, S2] [(.int (1 : Int32)), (.double (4611686018427387904 : UInt64)), (.double (4607182418800017409 : UInt64)), (.long y_a2), .null, (.ref o30_1), (.ref o30_1)]) (fun _ k => XS.iconst X3044.here hx rfl (hb hby d30_59)  k) ?_
  refine gb T3044 (mkF m 64 #[SA q9, SN, SJ y_a2, S2, SD 4607182418800017408, S2, SD 4607182418800017409, S2, SJ 1, S2] [(.int (1 : Int32)), (.double (4611686018427387904 : UInt64)), (.double (4607182418800017409 : UInt64)), (.long y_a2), .null, (.ref o30_1), (.ref o30_1)]) (fun _ k => XS.goto X3044.here hx rfl (pc0 := 60) (pc' := 64) rfl (hb hby d30_60) (by decide) (by decide) k) ?_
  refine own_c1 (callI X3044 hx hZ (y := mn26) rfl hown (ww hw 287 rfl) (ww hw 288 rfl) (ww hw 289 rfl) (ww hw 286 rfl) (by decide) e3044 (a := o30_1) (argsL := [.null, (.long y_a2), (.double (4607182418800017409 : UInt64)), (.double (4611686018427387904 : UInt64)), (.int (1 : Int32))]) (rest := [(.ref o30_1)]) (W := 1) (au58_init l Z a0 hw o30_1 (0 : Int32) y_a2 (0 : Int64) (4607182418800017409 : UInt64) (4611686018427387904 : UInt64) (0 : UInt64) (0 : UInt64) h3044 n0 Z0 E_o30_1 f3045 f3046 f3047 f3048 f3049 ge_o30_1) rfl (by decide) (by decide) (by decide) (by decide) rfl (by rw [hml]; rfl) (lenOf pd24 rfl) rfl (by show 2 * 0 + _ ≤ _; exact Nat.le_of_eq rfl) (hb hby d30_64)) fun v3052 T3052 L3052 X3052 hQ3052 => ?_
  obtain ⟨rfl, NL3052, K3052, f3050, f3051⟩ := hQ3052
  have N0 := Fr.app N0 NL3052
  have e3052 : T3052.heap = T3052.heap := rfl
  have u45 := u45.keep K3052 (ninS ne_q9_o30_1 nin0)
  have u46 := u46.keep K3052 (ninS ne_q9_o30_1 nin0)
  have u47 := u47.keep K3052 (ninS ne_q9_o30_1 nin0)
  have u48 := u48.keep K3052 (ninS ne_q9_o30_1 nin0)
  have u49 := u49.keep K3052 (ninS ne_q9_o30_1 nin0)
  have u50 := u50.keep K3052 (ninS ne_q9_o30_1 nin0)
  have u51 := u51.keep K3052 (ninS ne_q9_o30_1 nin0)
  have u52 := u52.keep K3052 (ninS ne_q9_o30_1 nin0)
  have u53 := u53.keep K3052 (ninS ne_q9_o30_1 nin0)
  have u54 := u54.keep K3052 (ninS ne_q9_o30_1 nin0)
  have u55 := u55.keep K3052 (ninS ne_q9_o30_1 nin0)
  have u56 := u56.keep K3052 (ninS ne_q9_o30_1 nin0)
  have E_o30_1 := E_o30_1.keep K3052
  have Z0 := Nat.le_trans Z0 K3052.1
  have K0 := K0.trans K3052 (allS (Or.inr sz_o30_1) all0)
  exact outA X3052 hx hlk hret rfl rfl rfl (hb hby d30_67) (by rw [e3052]; exact ⟨o30_1, rfl, N0, K0, sz_o30_1, u45, u46, u47, u48, u49, u50, u51, u52, u53, u54, u55, u56, E_o30_1, f3050, f3051⟩) (by decide) (by decide)
set_option maxRecDepth 65536 in
set_option maxHeartbeats 40000000 in
theorem au60_measured (l : Launch) (Z : State) (a0 : Array Value) (hw : ∀ d ∈ tables_1, d.before a0 Z = true) (q18 : Addr) (h0 : Heap) (n0 : Nat) (Z0 : n0 ≤ h0.size) (u84 : Fld Z h0 q18 sn7 "measured" "Z" (.int (1 : Int32))) :
    Does l mn3 prog_40_method_6_code 1 (some .boolean) [] ({ frames := 0, cells := 0, slots := 0, locals := 0 } : Room) Z #[(.ref q18)] h0 (fun v h L => v = some (.int (1 : Int32)) ∧ Fr n0 L ∧ h = h0) := by
  refine Does.of (plainFor_of_name pn16) ?_
  intro p e s m below meth c s₁ hx hby hml hret hlk hZ hown hnm X0 e0
  have N0 := Fr.nil n0
  refine Goes.cast (g' := mkF m 0 #[SA q18] []) (ef_au0_now m q18) ?_
  have K0 := Keep.refl h0 []
  refine gb s₁ (mkF m 1 #[SA q18] [(.ref q18)]) (fun _ k => XS.aloadN X0.here hx rfl (hb hby d43_0) rfl rfl k) ?_
  refine own_g1 (getF X0 hx hZ hown (host := "") (Or.inl (ww hw 299 rfl)) Via.refl e0 u84 rfl rfl (hb hby d43_1)) fun T3157 X3157 e3157 => ?_
  exact outZ X3157 hx hlk hret (hb hby d43_4) (by rw [e3157]; exact ⟨rfl, N0, rfl⟩) (by decide) (by decide)
theorem d52_0 : decode jdk_37_method_2_code 0 = .ok (.aload_n 0, 1) := by decide +kernel
theorem d52_1 : decode jdk_37_method_2_code 1 = .ok (.getfield 7, 3) := by decide +kernel
theorem d52_4 : decode jdk_37_method_2_code 4 = .ok (.ireturn, 1) := by decide +kernel
set_option maxRecDepth 65536 in
set_option maxHeartbeats 40000000 in
theorem au61_ordinal (l : Launch) (Z : State) (a0 : Array Value) (hw : ∀ d ∈ tables_1, d.before a0 Z = true) (fD : Addr) (y_14 : Int32) (Hs : Heap) (h0 : Heap) (n0 : Nat) (Z0 : n0 ≤ h0.size) (u14 : Fld Z Hs fD sn22 "ordinal" "I" (.int y_14)) (qH : Hs.size ≤ n0) (B0 : Ext Hs h0) :
    Does l mn16 jdk_37_method_2_code 1 (some .int) [] ({ frames := 0, cells := 0, slots := 0, locals := 0 } : Room) Z #[(.ref fD)] h0 (fun v h L => v = some (.int y_14) ∧ Fr n0 L ∧ h = h0) := by
  refine Does.of (plainFor_of_name pn18) ?_
  intro p e s m below meth c s₁ hx hby hml hret hlk hZ hown hnm X0 e0
  have N0 := Fr.nil n0
  refine Goes.cast (g' := mkF m 0 #[SA fD] []) (ef_au0_now m fD) ?_
  have K0 := Keep.refl h0 []
  refine gb s₁ (mkF m 1 #[SA fD] [(.ref fD)]) (fun _ k => XS.aloadN X0.here hx rfl (hb hby d52_0) rfl rfl k) ?_
  refine own_g1 (getF X0 hx hZ hown (host := "") (Or.inl (ww hw 435 rfl)) Via.refl e0 (u14.ext B0) rfl rfl (hb hby d52_1)) fun T3164 X3164 e3164 => ?_
  exact outI X3164 hx hlk hret (hb hby d52_4) (by rw [e3164]; exact ⟨rfl, N0, rfl⟩) (by decide) (by decide)
theorem d53_0 : decode prog_40_method_4_code 0 = .ok (.aload_n 0, 1) := by decide +kernel
theorem d53_1 : decode prog_40_method_4_code 1 = .ok (.getfield 17, 3) := by decide +kernel
theorem d53_4 : decode prog_40_method_4_code 4 = .ok (.dreturn, 1) := by decide +kernel
set_option maxRecDepth 65536 in
set_option maxHeartbeats 40000000 in
theorem au62_produced (l : Launch) (Z : State) (a0 : Array Value) (hw : ∀ d ∈ tables_1, d.before a0 Z = true) (q18 : Addr) (y_83 : UInt64) (h0 : Heap) (n0 : Nat) (Z0 : n0 ≤ h0.size) (u83 : Fld Z h0 q18 sn7 "produced" "D" (.double y_83)) :
    Does l mn50 prog_40_method_4_code 1 (some .double) [] ({ frames := 0, cells := 0, slots := 0, locals := 0 } : Room) Z #[(.ref q18)] h0 (fun v h L => v = some (.double y_83) ∧ Fr n0 L ∧ h = h0) := by
  refine Does.of (plainFor_of_name pn16) ?_
  intro p e s m below meth c s₁ hx hby hml hret hlk hZ hown hnm X0 e0
  have N0 := Fr.nil n0
  refine Goes.cast (g' := mkF m 0 #[SA q18] []) (ef_au0_now m q18) ?_
  have K0 := Keep.refl h0 []
  refine gb s₁ (mkF m 1 #[SA q18] [(.ref q18)]) (fun _ k => XS.aloadN X0.here hx rfl (hb hby d53_0) rfl rfl k) ?_
  refine own_g1 (getF X0 hx hZ hown (host := "") (Or.inl (ww hw 295 rfl)) Via.refl e0 u83 rfl rfl (hb hby d53_1)) fun T3188 X3188 e3188 => ?_
  exact outD X3188 hx hlk hret (hb hby d53_4) (by rw [e3188]; exact ⟨rfl, N0, rfl⟩) (by decide) (by decide)
theorem d54_0 : decode prog_54_method_2_code 0 = .ok (.dload_n 1, 1) := by decide +kernel
theorem d54_1 : decode prog_54_method_2_code 1 = .ok (.dconst 0, 1) := by decide +kernel
theorem d54_2 : decode prog_54_method_2_code 2 = .ok (.dcmp .l, 1) := by decide +kernel
theorem d54_3 : decode prog_54_method_2_code 3 = .ok (.ifCond .lt 11, 3) := by decide +kernel
theorem d54_6 : decode prog_54_method_2_code 6 = .ok (.dload_n 1, 1) := by decide +kernel
theorem d54_7 : decode prog_54_method_2_code 7 = .ok (.ldc2_w 17, 3) := by decide +kernel
theorem d54_10 : decode prog_54_method_2_code 10 = .ok (.dcmp .g, 1) := by decide +kernel
theorem d54_11 : decode prog_54_method_2_code 11 = .ok (.ifCond .lt 17, 3) := by decide +kernel
theorem d54_28 : decode prog_54_method_2_code 28 = .ok (.aload_n 0, 1) := by decide +kernel
theorem d54_29 : decode prog_54_method_2_code 29 = .ok (.dup, 1) := by decide +kernel
theorem d54_30 : decode prog_54_method_2_code 30 = .ok (.getfield 28, 3) := by decide +kernel
theorem d54_33 : decode prog_54_method_2_code 33 = .ok (.lconst 1, 1) := by decide +kernel
theorem d54_34 : decode prog_54_method_2_code 34 = .ok (.ladd, 1) := by decide +kernel
theorem d54_35 : decode prog_54_method_2_code 35 = .ok (.putfield 28, 3) := by decide +kernel
theorem d54_38 : decode prog_54_method_2_code 38 = .ok (.dload_n 1, 1) := by decide +kernel
theorem d54_39 : decode prog_54_method_2_code 39 = .ok (.dconst 0, 1) := by decide +kernel
theorem d54_40 : decode prog_54_method_2_code 40 = .ok (.dcmp .l, 1) := by decide +kernel
theorem d54_41 : decode prog_54_method_2_code 41 = .ok (.ifCond .ne 14, 3) := by decide +kernel
theorem d54_44 : decode prog_54_method_2_code 44 = .ok (.aload_n 0, 1) := by decide +kernel
theorem d54_45 : decode prog_54_method_2_code 45 = .ok (.dup, 1) := by decide +kernel
theorem d54_46 : decode prog_54_method_2_code 46 = .ok (.getfield 32, 3) := by decide +kernel
theorem d54_49 : decode prog_54_method_2_code 49 = .ok (.lconst 1, 1) := by decide +kernel
theorem d54_50 : decode prog_54_method_2_code 50 = .ok (.ladd, 1) := by decide +kernel
theorem d54_51 : decode prog_54_method_2_code 51 = .ok (.putfield 32, 3) := by decide +kernel
theorem d54_54 : decode prog_54_method_2_code 54 = .ok (.return_, 1) := by decide +kernel
theorem ef_au63_add (m : MethodId) (x0 : Addr) (x1 : UInt64) : entryFrame m #[(.ref x0), (.double x1)] 6 = mkF m 0 #[SA x0, SD x1, S2, SU, SU, SU] [] := by first | (simp [entryFrame, mkF, argsToLocals, Value.category, maxLocals]; done) | rfl
set_option maxRecDepth 65536 in
set_option maxHeartbeats 40000000 in
theorem au63_add (l : Launch) (Z : State) (a0 : Array Value) (hw : ∀ d ∈ tables_1, d.before a0 Z = true) (q12 : Addr) (y_38 y_39 : Int64) (h0 : Heap) (n0 : Nat) (Z0 : n0 ≤ h0.size) (u37 : Exa Z h0 q12 sn11) (u38 : Fld Z h0 q12 sn11 "count" "J" (.long y_38)) (u39 : Fld Z h0 q12 sn11 "zeros" "J" (.long y_39)) (ge_q12 : n0 ≤ q12) :
    Does l mn51 prog_54_method_2_code 6 none [] ({ frames := 0, cells := 0, slots := 0, locals := 0 } : Room) Z #[(.ref q12), (.double (0 : UInt64))] h0 (fun v h L => v = none ∧ Fr n0 L ∧ Keep h0 h [q12] ∧ Fld Z h q12 sn11 "count" "J" (.long (y_38 + (1 : Int64))) ∧ Fld Z h q12 sn11 "zeros" "J" (.long (y_39 + (1 : Int64)))) := by
  refine Does.of (plainFor_of_name pn10) ?_
  intro p e s m below meth c s₁ hx hby hml hret hlk hZ hown hnm X0 e0
  have N0 := Fr.nil n0
  refine Goes.cast (g' := mkF m 0 #[SA q12, SD 0, S2, SU, SU, SU] []) (ef_au63_add m q12 (0 : UInt64)) ?_
  have mi_q12 : q12 ∈ [q12] ∨ h0.size ≤ q12 := (Or.inl (List.mem_cons_self ..))
  have K0 := Keep.refl h0 [q12]
  refine gb s₁ (mkF m 2 #[SA q12, SD 0, S2, SU, SU, SU] [(.double (0 : UInt64)), (.double (0 : UInt64))]) (fun _ k => XS.dloadN X0.here hx rfl (hb hby d54_0) rfl (XS.dconst0 X0.here hx rfl (hb hby d54_1) rfl k)) ?_
  refine gb s₁ (mkF m 3 #[SA q12, SD 0, S2, SU, SU, SU] [(.int (0 : Int32))]) (fun _ k => XS.dcmpS X0.here hx rfl (hb hby d54_2) rfl (by decide +kernel) k) ?_
  refine gb s₁ (mkF m 6 #[SA q12, SD 0, S2, SU, SU, SU] []) (fun _ k => XS.ifNo X0.here hx rfl (hb hby d54_3) rfl (by decide) k) ?_
  refine gb s₁ (mkF m 7 #[SA q12, SD 0, S2, SU, SU, SU] [(.double (0 : UInt64))]) (fun _ k => XS.dloadN X0.here hx rfl (hb hby d54_6) rfl k) ?_
  refine gb s₁ (mkF m 10 #[SA q12, SD 0, S2, SU, SU, SU] [(.double (9218868437227405312 : UInt64)), (.double (0 : UInt64))]) (X0.ldc2DoubleC hx hown (mvT hZ (ww hw 449 rfl)) (g := (mkF m 7 #[SA q12, SD 0, S2, SU, SU, SU] [(.double (0 : UInt64))])) rfl (hb hby d54_7)) ?_
  refine gb s₁ (mkF m 11 #[SA q12, SD 0, S2, SU, SU, SU] [(.int (-1 : Int32))]) (fun _ k => XS.dcmpS X0.here hx rfl (hb hby d54_10) rfl (by decide +kernel) k) ?_
  refine gb s₁ (mkF m 28 #[SA q12, SD 0, S2, SU, SU, SU] []) (fun _ k => XS.ifYes X0.here hx rfl (pc0 := 11) (pc' := 28) rfl (hb hby d54_11) rfl (by decide) (by decide) (by decide) k) ?_
  refine gb s₁ (mkF m 30 #[SA q12, SD 0, S2, SU, SU, SU] [(.ref q12), (.ref q12)]) (fun _ k => XS.aloadN X0.here hx rfl (hb hby d54_28) rfl rfl (XS.dup X0.here hx rfl (hb hby d54_29) rfl rfl k)) ?_
  refine own_g1 (getF X0 hx hZ hown (host := "") (Or.inl (ww hw 450 rfl)) Via.refl e0 u38 rfl rfl (hb hby d54_30)) fun T3325 X3325 e3325 => ?_
  refine gb T3325 (mkF m 34 #[SA q12, SD 0, S2, SU, SU, SU] [(.long (1 : Int64)), (.long y_38), (.ref q12)]) (fun _ k => XS.lconst X3325.here hx rfl (hb hby d54_33)  k) ?_
  refine gb T3325 (mkF m 35 #[SA q12, SD 0, S2, SU, SU, SU] [(.long (y_38 + (1 : Int64))), (.ref q12)]) (fun _ k => XS.ladd X3325.here hx rfl (hb hby d54_34) rfl k) ?_
  refine own_p1 (putF X3325 hx hZ hown (host := "") (Or.inl (ww hw 450 rfl)) Via.refl e3325 u38 u37 (Or.inl (ww hw 451 rfl)) (ww hw 193 rfl) (ty := .long) (by decide) rfl rfl rfl rfl (hb hby d54_35)) fun T3326 h3326 X3326 e3326 W3326 => ?_
  have N0 := Fr.snoc X3326 N0 ge_q12
  have u37 := u37.wr W3326
  have u38 := u38.same W3326
  have u39 := own_oth u39 W3326 (Or.inl (ww hw 453 rfl)) (Or.inl (ww hw 451 rfl)) (by decide)
  have Z0 := own_zw Z0 W3326
  have K0 := K0.wr W3326 mi_q12
  refine gb T3326 (mkF m 40 #[SA q12, SD 0, S2, SU, SU, SU] [(.double (0 : UInt64)), (.double (0 : UInt64))]) (fun _ k => XS.dloadN X3326.here hx rfl (hb hby d54_38) rfl (XS.dconst0 X3326.here hx rfl (hb hby d54_39) rfl k)) ?_
  refine gb T3326 (mkF m 41 #[SA q12, SD 0, S2, SU, SU, SU] [(.int (0 : Int32))]) (fun _ k => XS.dcmpS X3326.here hx rfl (hb hby d54_40) rfl (by decide +kernel) k) ?_
  refine gb T3326 (mkF m 44 #[SA q12, SD 0, S2, SU, SU, SU] []) (fun _ k => XS.ifNo X3326.here hx rfl (hb hby d54_41) rfl (by decide) k) ?_
  refine gb T3326 (mkF m 46 #[SA q12, SD 0, S2, SU, SU, SU] [(.ref q12), (.ref q12)]) (fun _ k => XS.aloadN X3326.here hx rfl (hb hby d54_44) rfl rfl (XS.dup X3326.here hx rfl (hb hby d54_45) rfl rfl k)) ?_
  refine own_g1 (getF X3326 hx hZ hown (host := "") (Or.inl (ww hw 452 rfl)) Via.refl e3326 u39 rfl rfl (hb hby d54_46)) fun T3327 X3327 e3327 => ?_
  refine gb T3327 (mkF m 50 #[SA q12, SD 0, S2, SU, SU, SU] [(.long (1 : Int64)), (.long y_39), (.ref q12)]) (fun _ k => XS.lconst X3327.here hx rfl (hb hby d54_49)  k) ?_
  refine gb T3327 (mkF m 51 #[SA q12, SD 0, S2, SU, SU, SU] [(.long (y_39 + (1 : Int64))), (.ref q12)]) (fun _ k => XS.ladd X3327.here hx rfl (hb hby d54_50) rfl k) ?_
  refine own_p1 (putF X3327 hx hZ hown (host := "") (Or.inl (ww hw 452 rfl)) Via.refl e3327 u39 u37 (Or.inl (ww hw 453 rfl)) (ww hw 193 rfl) (ty := .long) (by decide) rfl rfl rfl rfl (hb hby d54_51)) fun T3328 h3328 X3328 e3328 W3328 => ?_
  have N0 := Fr.snoc X3328 N0 ge_q12
  have u38 := own_oth u38 W3328 (Or.inl (ww hw 451 rfl)) (Or.inl (ww hw 453 rfl)) (by decide)
  have u39 := u39.same W3328
  have Z0 := own_zw Z0 W3328
  have K0 := K0.wr W3328 mi_q12
  exact outV X3328 hx hlk hret (hb hby d54_54) (by rw [e3328]; exact ⟨rfl, N0, K0, u38, u39⟩) (by decide) (by decide)
theorem d51_0 : decode prog_35_method_6_code 0 = .ok (.aload_n 0, 1) := by decide +kernel
theorem d51_1 : decode prog_35_method_6_code 1 = .ok (.getfield 13, 3) := by decide +kernel
theorem d51_4 : decode prog_35_method_6_code 4 = .ok (.aload_n 2, 1) := by decide +kernel
theorem d51_5 : decode prog_35_method_6_code 5 = .ok (.invokevirtual 150, 3) := by decide +kernel
theorem d51_8 : decode prog_35_method_6_code 8 = .ok (.dup2, 1) := by decide +kernel
theorem d51_9 : decode prog_35_method_6_code 9 = .ok (.laload, 1) := by decide +kernel
theorem d51_10 : decode prog_35_method_6_code 10 = .ok (.lconst 1, 1) := by decide +kernel
theorem d51_11 : decode prog_35_method_6_code 11 = .ok (.ladd, 1) := by decide +kernel
theorem d51_12 : decode prog_35_method_6_code 12 = .ok (.lastore, 1) := by decide +kernel
theorem d51_13 : decode prog_35_method_6_code 13 = .ok (.aload_n 2, 1) := by decide +kernel
theorem d51_14 : decode prog_35_method_6_code 14 = .ok (.getstatic 105, 3) := by decide +kernel
theorem d51_17 : decode prog_35_method_6_code 17 = .ok (.if_acmp .ne 76, 3) := by decide +kernel
theorem d51_20 : decode prog_35_method_6_code 20 = .ok (.aload_n 0, 1) := by decide +kernel
theorem d51_21 : decode prog_35_method_6_code 21 = .ok (.getfield 33, 3) := by decide +kernel
theorem d51_24 : decode prog_35_method_6_code 24 = .ok (.invokevirtual 82, 3) := by decide +kernel
theorem d51_27 : decode prog_35_method_6_code 27 = .ok (.aload_n 1, 1) := by decide +kernel
theorem d51_28 : decode prog_35_method_6_code 28 = .ok (.invokevirtual 153, 3) := by decide +kernel
theorem d51_31 : decode prog_35_method_6_code 31 = .ok (.dsub, 1) := by decide +kernel
theorem d51_32 : decode prog_35_method_6_code 32 = .ok (.dstore_n 3, 1) := by decide +kernel
theorem d51_33 : decode prog_35_method_6_code 33 = .ok (.aload_n 0, 1) := by decide +kernel
theorem d51_34 : decode prog_35_method_6_code 34 = .ok (.dup, 1) := by decide +kernel
theorem d51_35 : decode prog_35_method_6_code 35 = .ok (.getfield 155, 3) := by decide +kernel
theorem d51_38 : decode prog_35_method_6_code 38 = .ok (.dload_n 3, 1) := by decide +kernel
theorem d51_39 : decode prog_35_method_6_code 39 = .ok (.dadd, 1) := by decide +kernel
theorem d51_40 : decode prog_35_method_6_code 40 = .ok (.putfield 155, 3) := by decide +kernel
theorem d51_43 : decode prog_35_method_6_code 43 = .ok (.aload_n 0, 1) := by decide +kernel
theorem d51_44 : decode prog_35_method_6_code 44 = .ok (.getfield 22, 3) := by decide +kernel
theorem d51_47 : decode prog_35_method_6_code 47 = .ok (.dload_n 3, 1) := by decide +kernel
theorem d51_48 : decode prog_35_method_6_code 48 = .ok (.invokevirtual 159, 3) := by decide +kernel
theorem d51_51 : decode prog_35_method_6_code 51 = .ok (.iconst 0, 1) := by decide +kernel
theorem d51_52 : decode prog_35_method_6_code 52 = .ok (.istore 5, 2) := by decide +kernel
theorem d51_54 : decode prog_35_method_6_code 54 = .ok (.iload 5, 2) := by decide +kernel
theorem d51_56 : decode prog_35_method_6_code 56 = .ok (.aload_n 0, 1) := by decide +kernel
theorem d51_57 : decode prog_35_method_6_code 57 = .ok (.getfield 61, 3) := by decide +kernel
theorem d51_60 : decode prog_35_method_6_code 60 = .ok (.arraylength, 1) := by decide +kernel
theorem d51_61 : decode prog_35_method_6_code 61 = .ok (.if_icmp .ge 21, 3) := by decide +kernel
theorem d51_82 : decode prog_35_method_6_code 82 = .ok (.aload_n 0, 1) := by decide +kernel
theorem d51_83 : decode prog_35_method_6_code 83 = .ok (.getfield 74, 3) := by decide +kernel
theorem d51_86 : decode prog_35_method_6_code 86 = .ok (.iload 5, 2) := by decide +kernel
theorem d51_88 : decode prog_35_method_6_code 88 = .ok (.dup2, 1) := by decide +kernel
theorem d51_89 : decode prog_35_method_6_code 89 = .ok (.laload, 1) := by decide +kernel
theorem d51_90 : decode prog_35_method_6_code 90 = .ok (.lconst 1, 1) := by decide +kernel
theorem d51_91 : decode prog_35_method_6_code 91 = .ok (.ladd, 1) := by decide +kernel
theorem d51_92 : decode prog_35_method_6_code 92 = .ok (.lastore, 1) := by decide +kernel
theorem d51_93 : decode prog_35_method_6_code 93 = .ok (.return_, 1) := by decide +kernel
theorem ef_au64_count (m : MethodId) (x0 : Addr) (x1 : Addr) (x2 : Addr) : entryFrame m #[(.ref x0), (.ref x1), (.ref x2)] 6 = mkF m 0 #[SA x0, SA x1, SA x2, SU, SU, SU] [] := by first | (simp [entryFrame, mkF, argsToLocals, Value.category, maxLocals]; done) | rfl
set_option maxRecDepth 65536 in
set_option maxHeartbeats 40000000 in
theorem au64_count (l : Launch) (Z : State) (a0 : Array Value) (hw : ∀ d ∈ tables_1, d.before a0 Z = true) (q9 q18 fD q2 q11 q12 q14 q15 q13 q10 q5 : Addr) (y_38 y_39 y_78 y_79 y_80 : Int64) (Hs : Heap) (h0 : Heap) (n0 : Nat) (Z0 : n0 ≤ h0.size) (u0 : Sta Z Hs sn8 "DELIVERED" sn25 (.ref fD)) (u7 : Exa Z Hs fD sn8) (u14 : Fld Z Hs fD sn22 "ordinal" "I" (.int (0 : Int32))) (u23 : Exa Z h0 q2 sn2) (u32 : Exa Z h0 q9 sn0) (u36 : Sar Z h0 q11 .long [(.long (0 : Int64)), (.long (0 : Int64)), (.long (0 : Int64)), (.long (0 : Int64))]) (u37 : Exa Z h0 q12 sn11) (u38 : Fld Z h0 q12 sn11 "count" "J" (.long y_38)) (u39 : Fld Z h0 q12 sn11 "zeros" "J" (.long y_39)) (u43 : Sar Z h0 q14 .double []) (u44 : Sar Z h0 q15 .long [(.long (0 : Int64))]) (u50 : Fld Z h0 q2 sn2 "now" "D" (.double (4607182418800017409 : UInt64))) (u70 : Fld Z h0 q9 sn0 "left" "[J" (.ref q11)) (u71 : Fld Z h0 q9 sn0 "responseTimes" sn19 (.ref q12)) (u72 : Fld Z h0 q9 sn0 "watchers" sn17 (.ref q13)) (u73 : Fld Z h0 q9 sn0 "simulation" sn14 (.ref q2)) (u74 : Fld Z h0 q9 sn0 "window" sn15 (.ref q10)) (u75 : Fld Z h0 q9 sn0 "measurement" sn6 (.ref q5)) (u76 : Fld Z h0 q9 sn0 "within" "[D" (.ref q14)) (u77 : Fld Z h0 q9 sn0 "deliveredBy" "[J" (.ref q15)) (u78 : Fld Z h0 q9 sn0 "inNetwork" "J" (.long y_78)) (u79 : Fld Z h0 q9 sn0 "produced" "J" (.long y_79)) (u80 : Fld Z h0 q9 sn0 sn18 "J" (.long y_80)) (u81 : Fld Z h0 q9 sn0 sn20 "D" (.double (0 : UInt64))) (u82 : Exa Z h0 q18 sn7) (u83 : Fld Z h0 q18 sn7 "produced" "D" (.double (4607182418800017409 : UInt64))) (ne_q11_q12 : q11 ≠ q12) (ne_q11_q14 : q11 ≠ q14) (ne_q11_q15 : q11 ≠ q15) (ne_q11_q18 : q11 ≠ q18) (ne_q12_q14 : q12 ≠ q14) (ne_q12_q15 : q12 ≠ q15) (ne_q2_q11 : q2 ≠ q11) (ne_q9_q11 : q9 ≠ q11) (ne_q9_q12 : q9 ≠ q12) (ne_q9_q14 : q9 ≠ q14) (ne_q9_q15 : q9 ≠ q15) (ge_q9 : n0 ≤ q9) (ge_q11 : n0 ≤ q11) (ge_q12 : n0 ≤ q12) (ge_q15 : n0 ≤ q15) (qH : Hs.size ≤ n0) (B0 : Ext Hs h0) :
    Does l mn4 prog_35_method_6_code 6 none [] ({ frames := 1, cells := 0, slots := 0, locals := 17 } : Room) Z #[(.ref q9), (.ref q18), (.ref fD)] h0 (fun v h L => v = none ∧ Fr n0 L ∧ Keep h0 h [q9, q11, q12, q15] ∧ Sar Z h q11 .long [(.long (1 : Int64)), (.long (0 : Int64)), (.long (0 : Int64)), (.long (0 : Int64))] ∧ Sar Z h q15 .long [(.long (1 : Int64))] ∧ Fld Z h q9 sn0 "left" "[J" (.ref q11) ∧ Fld Z h q9 sn0 "responseTimes" sn19 (.ref q12) ∧ Fld Z h q9 sn0 "watchers" sn17 (.ref q13) ∧ Fld Z h q9 sn0 "simulation" sn14 (.ref q2) ∧ Fld Z h q9 sn0 "window" sn15 (.ref q10) ∧ Fld Z h q9 sn0 "measurement" sn6 (.ref q5) ∧ Fld Z h q9 sn0 "within" "[D" (.ref q14) ∧ Fld Z h q9 sn0 "deliveredBy" "[J" (.ref q15) ∧ Fld Z h q9 sn0 "inNetwork" "J" (.long y_78) ∧ Fld Z h q9 sn0 "produced" "J" (.long y_79) ∧ Fld Z h q9 sn0 sn18 "J" (.long y_80) ∧ Fld Z h q9 sn0 sn20 "D" (.double (0 : UInt64)) ∧ Fld Z h q12 sn11 "count" "J" (.long (y_38 + (1 : Int64))) ∧ Fld Z h q12 sn11 "zeros" "J" (.long (y_39 + (1 : Int64)))) := by
  refine Does.of (plainFor_of_name pn0) ?_
  intro p e s m below meth c s₁ hx hby hml hret hlk hZ hown hnm X0 e0
  have N0 := Fr.nil n0
  refine Goes.cast (g' := mkF m 0 #[SA q9, SA q18, SA fD, SU, SU, SU] []) (ef_au64_count m q9 q18 fD) ?_
  have mi_q9 : q9 ∈ [q9, q11, q12, q15] ∨ h0.size ≤ q9 := (Or.inl (List.mem_cons_self ..))
  have mi_q11 : q11 ∈ [q9, q11, q12, q15] ∨ h0.size ≤ q11 := (Or.inl (List.mem_cons_of_mem _ (List.mem_cons_self ..)))
  have mi_q12 : q12 ∈ [q9, q11, q12, q15] ∨ h0.size ≤ q12 := (Or.inl (List.mem_cons_of_mem _ (List.mem_cons_of_mem _ (List.mem_cons_self ..))))
  have mi_q15 : q15 ∈ [q9, q11, q12, q15] ∨ h0.size ≤ q15 := (Or.inl (List.mem_cons_of_mem _ (List.mem_cons_of_mem _ (List.mem_cons_of_mem _ (List.mem_cons_self ..)))))
  have K0 := Keep.refl h0 [q9, q11, q12, q15]
  refine gb s₁ (mkF m 1 #[SA q9, SA q18, SA fD, SU, SU, SU] [(.ref q9)]) (fun _ k => XS.aloadN X0.here hx rfl (hb hby d51_0) rfl rfl k) ?_
  refine own_g1 (getF X0 hx hZ hown (host := "") (Or.inl (ww hw 190 rfl)) Via.refl e0 u70 rfl rfl (hb hby d51_1)) fun T3374 X3374 e3374 => ?_
  refine gb T3374 (mkF m 5 #[SA q9, SA q18, SA fD, SU, SU, SU] [(.ref fD), (.ref q11)]) (fun _ k => XS.aloadN X3374.here hx rfl (hb hby d51_4) rfl rfl k) ?_
  refine own_c1 (callVU X3374 hx hZ (owner := sn22) (xi := mn27) (y := mn16) hown (ww hw 428 rfl) (ww hw 429 rfl) (ww hw 430 rfl) (by decide) (ww hw 432 rfl) (ww hw 431 rfl) (ww hw 434 rfl) (ww hw 433 rfl) e3374 (u7.ext B0) (argsL := []) (rest := [(.ref q11)]) (W := 1) (au61_ordinal l Z a0 hw fD (0 : Int32) Hs h0 n0 Z0 u14 qH B0) rfl (by decide) (by decide) (by decide) (by decide) rfl (by rw [hml]; rfl) (lenOf pd19 rfl) rfl (by show 2 * 0 + _ ≤ _; exact Nat.le_of_eq rfl) (hb hby d51_5)) fun v3375 T3375 L3375 X3375 hQ3375 => ?_
  obtain ⟨rfl, NL3375, hk3375⟩ := hQ3375
  have N0 := Fr.app N0 NL3375
  refine gb T3375 (mkF m 9 #[SA q9, SA q18, SA fD, SU, SU, SU] [(.int (0 : Int32)), (.ref q11), (.int (0 : Int32)), (.ref q11)]) (fun _ k => XT.dup2 X3375.here hx rfl (hb hby d51_8) rfl rfl rfl k) ?_
  refine gb T3375 (mkF m 10 #[SA q9, SA q18, SA fD, SU, SU, SU] [(.long (0 : Int64)), (.int (0 : Int32)), (.ref q11)]) (ldJS X3375 hx hZ hk3375 u36 (v := (.long (0 : Int64))) (j := (0 : Int32)) 0 (by decide) rfl (g := (mkF m 9 #[SA q9, SA q18, SA fD, SU, SU, SU] [(.int (0 : Int32)), (.ref q11), (.int (0 : Int32)), (.ref q11)])) rfl rfl (hb hby d51_9)) ?_
  refine gb T3375 (mkF m 11 #[SA q9, SA q18, SA fD, SU, SU, SU] [(.long (1 : Int64)), (.long (0 : Int64)), (.int (0 : Int32)), (.ref q11)]) (fun _ k => XS.lconst X3375.here hx rfl (hb hby d51_10)  k) ?_
  refine gb T3375 (mkF m 12 #[SA q9, SA q18, SA fD, SU, SU, SU] [(.long (1 : Int64)), (.int (0 : Int32)), (.ref q11)]) (fun _ k => XS.ladd X3375.here hx rfl (hb hby d51_11) rfl k) ?_
  obtain ⟨T3376, h3376, X3376, e3376, W3376, V3376, st3376⟩ := stJS X3375 hx hZ hk3375 u36 (j := (0 : Int32)) 0 (by decide) (by show 0 < 4; decide) (g := (mkF m 12 #[SA q9, SA q18, SA fD, SU, SU, SU] [(.long (1 : Int64)), (.int (0 : Int32)), (.ref q11)])) rfl rfl (hb hby d51_12)
  have N0 := Fr.snoc X3376 N0 ge_q11
  have B0 := own_extW B0 W3376 (Nat.le_trans qH ge_q11)
  have u23 := u23.wr W3376
  have u32 := u32.wr W3376
  have u37 := u37.wr W3376
  have u38 := u38.other W3376 (Or.inl (Ne.symm ne_q11_q12))
  have u39 := u39.other W3376 (Or.inl (Ne.symm ne_q11_q12))
  have u43 := u43.other W3376 (Ne.symm ne_q11_q14)
  have u44 := u44.other W3376 (Ne.symm ne_q11_q15)
  have u50 := u50.other W3376 (Or.inl ne_q2_q11)
  have u70 := u70.other W3376 (Or.inl ne_q9_q11)
  have u71 := u71.other W3376 (Or.inl ne_q9_q11)
  have u72 := u72.other W3376 (Or.inl ne_q9_q11)
  have u73 := u73.other W3376 (Or.inl ne_q9_q11)
  have u74 := u74.other W3376 (Or.inl ne_q9_q11)
  have u75 := u75.other W3376 (Or.inl ne_q9_q11)
  have u76 := u76.other W3376 (Or.inl ne_q9_q11)
  have u77 := u77.other W3376 (Or.inl ne_q9_q11)
  have u78 := u78.other W3376 (Or.inl ne_q9_q11)
  have u79 := u79.other W3376 (Or.inl ne_q9_q11)
  have u80 := u80.other W3376 (Or.inl ne_q9_q11)
  have u81 := u81.other W3376 (Or.inl ne_q9_q11)
  have u82 := u82.wr W3376
  have u83 := u83.other W3376 (Or.inl (Ne.symm ne_q11_q18))
  have Z0 := own_zw Z0 W3376
  have K0 := K0.wr W3376 mi_q11
  have u36 : Sar Z h3376 q11 .long [(.long (1 : Int64)), (.long (0 : Int64)), (.long (0 : Int64)), (.long (0 : Int64))] := V3376
  refine gb T3376 (mkF m 13 #[SA q9, SA q18, SA fD, SU, SU, SU] []) st3376 ?_
  refine gb T3376 (mkF m 14 #[SA q9, SA q18, SA fD, SU, SU, SU] [(.ref fD)]) (fun _ k => XS.aloadN X3376.here hx rfl (hb hby d51_13) rfl rfl k) ?_
  refine own_g1 (getS X3376 hx hZ (host := "") hown (ww hw 346 rfl) Via.refl e3376 (u0.ext B0) rfl (hb hby d51_14)) fun T3377 X3377 e3377 => ?_
  refine gb T3377 (mkF m 20 #[SA q9, SA q18, SA fD, SU, SU, SU] []) (fun _ k => Jvm.RoadKit.acmp (g := (mkF m 17 #[SA q9, SA q18, SA fD, SU, SU, SU] [(.ref fD), (.ref fD)])) X3377 hx rfl rfl rfl (pc0 := 17) (pc' := 20) (same := true) rfl (hb hby d51_17) rfl (decide_eq_true (congrArg Value.ref rfl)) (by decide) (by decide) k) ?_
  refine gb T3377 (mkF m 21 #[SA q9, SA q18, SA fD, SU, SU, SU] [(.ref q9)]) (fun _ k => XS.aloadN X3377.here hx rfl (hb hby d51_20) rfl rfl k) ?_
  refine own_g1 (getF X3377 hx hZ hown (host := "") (Or.inl (ww hw 231 rfl)) Via.refl e3377 u73 rfl rfl (hb hby d51_21)) fun T3378 X3378 e3378 => ?_
  refine own_c1 (callV X3378 hx hZ (y := mn2) hown (ww hw 268 rfl) (ww hw 269 rfl) (ww hw 271 rfl) (ww hw 270 rfl) (ww hw 272 rfl) (ww hw 28 rfl) (by decide) e3378 u23 (argsL := []) (rest := []) (W := 0) (au0_now l Z a0 hw q2 (4607182418800017409 : UInt64) h3376 n0 Z0 u50) rfl (by decide) (by decide) (by decide) (by decide) rfl (by rw [hml]; rfl) (lenOf pd1 rfl) rfl (by show 2 * 0 + _ ≤ _; exact Nat.le_of_eq rfl) (hb hby d51_24)) fun v3380 T3380 L3380 X3380 hQ3380 => ?_
  obtain ⟨rfl, NL3380, hk3380⟩ := hQ3380
  have N0 := Fr.app N0 NL3380
  refine gb T3380 (mkF m 28 #[SA q9, SA q18, SA fD, SU, SU, SU] [(.ref q18), (.double (4607182418800017409 : UInt64))]) (fun _ k => XS.aloadN X3380.here hx rfl (hb hby d51_27) rfl rfl k) ?_
  refine own_c1 (callV X3380 hx hZ (y := mn50) hown (ww hw 437 rfl) (ww hw 438 rfl) (ww hw 440 rfl) (ww hw 439 rfl) (ww hw 441 rfl) (ww hw 286 rfl) (by decide) hk3380 u82 (argsL := []) (rest := [(.double (4607182418800017409 : UInt64))]) (W := 2) (au62_produced l Z a0 hw q18 (4607182418800017409 : UInt64) h3376 n0 Z0 u83) rfl (by decide) (by decide) (by decide) (by decide) rfl (by rw [hml]; rfl) (lenOf pd1 rfl) rfl (by show 2 * 0 + _ ≤ _; exact Nat.le_of_eq rfl) (hb hby d51_28)) fun v3382 T3382 L3382 X3382 hQ3382 => ?_
  obtain ⟨rfl, NL3382, hk3382⟩ := hQ3382
  have N0 := Fr.app N0 NL3382
  refine gb T3382 (mkF m 32 #[SA q9, SA q18, SA fD, SU, SU, SU] [(.double (0 : UInt64))]) (fun _ k => XS.dsubS X3382.here hx rfl (hb hby d51_31) rfl (by decide +kernel) (by decide +kernel : FP.dsub (4607182418800017409 : UInt64) (4607182418800017409 : UInt64) = (0 : UInt64)) k) ?_
  refine gb T3382 (mkF m 35 #[SA q9, SA q18, SA fD, SD 0, S2, SU] [(.ref q9), (.ref q9)]) (fun _ k => XS.dstoreN X3382.here hx rfl (hb hby d51_32) rfl (l' := #[SA q9, SA q18, SA fD, SD 0, S2, SU]) rfl (XS.aloadN X3382.here hx rfl (hb hby d51_33) rfl rfl (XS.dup X3382.here hx rfl (hb hby d51_34) rfl rfl k))) ?_
  refine own_g1 (getF X3382 hx hZ hown (host := "") (Or.inl (ww hw 442 rfl)) Via.refl hk3382 u81 rfl rfl (hb hby d51_35)) fun T3383 X3383 e3383 => ?_
  refine gb T3383 (mkF m 39 #[SA q9, SA q18, SA fD, SD 0, S2, SU] [(.double (0 : UInt64)), (.double (0 : UInt64)), (.ref q9)]) (fun _ k => XS.dloadN X3383.here hx rfl (hb hby d51_38) rfl k) ?_
  refine gb T3383 (mkF m 40 #[SA q9, SA q18, SA fD, SD 0, S2, SU] [(.double (0 : UInt64)), (.ref q9)]) (fun _ k => XS.daddS X3383.here hx rfl (hb hby d51_39) rfl (by decide +kernel) (by decide +kernel : FP.dadd (0 : UInt64) (0 : UInt64) = (0 : UInt64)) k) ?_
  refine own_p1 (putF X3383 hx hZ hown (host := "") (Or.inl (ww hw 442 rfl)) Via.refl e3383 u81 u32 (Or.inl (ww hw 443 rfl)) (ww hw 162 rfl) (ty := .double) (by decide) rfl rfl rfl rfl (hb hby d51_40)) fun T3384 h3384 X3384 e3384 W3384 => ?_
  have N0 := Fr.snoc X3384 N0 ge_q9
  have B0 := own_extW B0 W3384 (Nat.le_trans qH ge_q9)
  have u36 := u36.other W3384 (Ne.symm ne_q9_q11)
  have u37 := u37.wr W3384
  have u38 := u38.other W3384 (Or.inl (Ne.symm ne_q9_q12))
  have u39 := u39.other W3384 (Or.inl (Ne.symm ne_q9_q12))
  have u43 := u43.other W3384 (Ne.symm ne_q9_q14)
  have u44 := u44.other W3384 (Ne.symm ne_q9_q15)
  have u70 := own_oth u70 W3384 (Or.inr (ww hw 191 rfl)) (Or.inl (ww hw 443 rfl)) (by decide)
  have u71 := own_oth u71 W3384 (Or.inr (ww hw 204 rfl)) (Or.inl (ww hw 443 rfl)) (by decide)
  have u72 := own_oth u72 W3384 (Or.inr (ww hw 230 rfl)) (Or.inl (ww hw 443 rfl)) (by decide)
  have u73 := own_oth u73 W3384 (Or.inr (ww hw 232 rfl)) (Or.inl (ww hw 443 rfl)) (by decide)
  have u74 := own_oth u74 W3384 (Or.inr (ww hw 234 rfl)) (Or.inl (ww hw 443 rfl)) (by decide)
  have u75 := own_oth u75 W3384 (Or.inr (ww hw 236 rfl)) (Or.inl (ww hw 443 rfl)) (by decide)
  have u76 := own_oth u76 W3384 (Or.inr (ww hw 260 rfl)) (Or.inl (ww hw 443 rfl)) (by decide)
  have u77 := own_oth u77 W3384 (Or.inr (ww hw 262 rfl)) (Or.inl (ww hw 443 rfl)) (by decide)
  have u78 := own_oth u78 W3384 (Or.inl (ww hw 281 rfl)) (Or.inl (ww hw 443 rfl)) (by decide)
  have u79 := own_oth u79 W3384 (Or.inl (ww hw 283 rfl)) (Or.inl (ww hw 443 rfl)) (by decide)
  have u80 := own_oth u80 W3384 (Or.inl (ww hw 348 rfl)) (Or.inl (ww hw 443 rfl)) (by decide)
  have u81 := u81.same W3384
  have Z0 := own_zw Z0 W3384
  have K0 := K0.wr W3384 mi_q9
  refine gb T3384 (mkF m 44 #[SA q9, SA q18, SA fD, SD 0, S2, SU] [(.ref q9)]) (fun _ k => XS.aloadN X3384.here hx rfl (hb hby d51_43) rfl rfl k) ?_
  refine own_g1 (getF X3384 hx hZ hown (host := "") (Or.inl (ww hw 203 rfl)) Via.refl e3384 u71 rfl rfl (hb hby d51_44)) fun T3385 X3385 e3385 => ?_
  refine gb T3385 (mkF m 48 #[SA q9, SA q18, SA fD, SD 0, S2, SU] [(.double (0 : UInt64)), (.ref q12)]) (fun _ k => XS.dloadN X3385.here hx rfl (hb hby d51_47) rfl k) ?_
  refine own_c1 (callV X3385 hx hZ (y := mn51) hown (ww hw 444 rfl) (ww hw 445 rfl) (ww hw 447 rfl) (ww hw 446 rfl) (ww hw 448 rfl) (ww hw 194 rfl) (by decide) e3385 u37 (argsL := [(.double (0 : UInt64))]) (rest := []) (W := 0) (au63_add l Z a0 hw q12 y_38 y_39 h3384 n0 Z0 u37 u38 u39 ge_q12) rfl (by decide) (by decide) (by decide) (by decide) rfl (by rw [hml]; rfl) (lenOf pd22 rfl) rfl (by show 2 * 0 + _ ≤ _; exact Nat.le_of_eq rfl) (hb hby d51_48)) fun v3389 T3389 L3389 X3389 hQ3389 => ?_
  obtain ⟨rfl, NL3389, K3389, f3386, f3387⟩ := hQ3389
  have N0 := Fr.app N0 NL3389
  have e3389 : T3389.heap = T3389.heap := rfl
  have B0 := own_extK B0 K3389 (allS (Nat.le_trans qH ge_q12) all0)
  have u36 := u36.keep K3389 (ninS ne_q11_q12 nin0)
  have u43 := u43.keep K3389 (ninS (Ne.symm ne_q12_q14) nin0)
  have u44 := u44.keep K3389 (ninS (Ne.symm ne_q12_q15) nin0)
  have u70 := u70.keep K3389 (ninS ne_q9_q12 nin0)
  have u71 := u71.keep K3389 (ninS ne_q9_q12 nin0)
  have u72 := u72.keep K3389 (ninS ne_q9_q12 nin0)
  have u73 := u73.keep K3389 (ninS ne_q9_q12 nin0)
  have u74 := u74.keep K3389 (ninS ne_q9_q12 nin0)
  have u75 := u75.keep K3389 (ninS ne_q9_q12 nin0)
  have u76 := u76.keep K3389 (ninS ne_q9_q12 nin0)
  have u77 := u77.keep K3389 (ninS ne_q9_q12 nin0)
  have u78 := u78.keep K3389 (ninS ne_q9_q12 nin0)
  have u79 := u79.keep K3389 (ninS ne_q9_q12 nin0)
  have u80 := u80.keep K3389 (ninS ne_q9_q12 nin0)
  have u81 := u81.keep K3389 (ninS ne_q9_q12 nin0)
  have Z0 := Nat.le_trans Z0 K3389.1
  have K0 := K0.trans K3389 (allS mi_q12 all0)
  refine gb T3389 (mkF m 57 #[SA q9, SA q18, SA fD, SD 0, S2, SI 0] [(.ref q9), (.int (0 : Int32))]) (fun _ k => XS.iconst X3389.here hx rfl (hb hby d51_51)  (XS.istore X3389.here hx rfl (hb hby d51_52) rfl (l' := #[SA q9, SA q18, SA fD, SD 0, S2, SI 0]) rfl (XS.iload X3389.here hx rfl (hb hby d51_54) rfl (XS.aloadN X3389.here hx rfl (hb hby d51_56) rfl rfl k)))) ?_
  refine own_g1 (getF X3389 hx hZ hown (host := "") (Or.inl (ww hw 259 rfl)) Via.refl e3389 u76 rfl rfl (hb hby d51_57)) fun T3390 X3390 e3390 => ?_
  refine gb T3390 (mkF m 61 #[SA q9, SA q18, SA fD, SD 0, S2, SI 0] [(.int (0 : Int32)), (.int (0 : Int32))]) (lenS X3390 hx hZ e3390 u43 (n := (0 : Int32)) rfl (g := (mkF m 60 #[SA q9, SA q18, SA fD, SD 0, S2, SI 0] [(.ref q14), (.int (0 : Int32))])) rfl rfl (hb hby d51_60)) ?_
  refine gb T3390 (mkF m 82 #[SA q9, SA q18, SA fD, SD 0, S2, SI 0] []) (fun _ k => XS.icmpYes X3390.here hx rfl (pc0 := 61) (pc' := 82) rfl (hb hby d51_61) rfl (by decide) (by decide) (by decide) k) ?_
  refine gb T3390 (mkF m 83 #[SA q9, SA q18, SA fD, SD 0, S2, SI 0] [(.ref q9)]) (fun _ k => XS.aloadN X3390.here hx rfl (hb hby d51_82) rfl rfl k) ?_
  refine own_g1 (getF X3390 hx hZ hown (host := "") (Or.inl (ww hw 261 rfl)) Via.refl e3390 u77 rfl rfl (hb hby d51_83)) fun T3391 X3391 e3391 => ?_
  refine gb T3391 (mkF m 88 #[SA q9, SA q18, SA fD, SD 0, S2, SI 0] [(.int (0 : Int32)), (.ref q15)]) (fun _ k => XS.iload X3391.here hx rfl (hb hby d51_86) rfl k) ?_
  refine gb T3391 (mkF m 89 #[SA q9, SA q18, SA fD, SD 0, S2, SI 0] [(.int (0 : Int32)), (.ref q15), (.int (0 : Int32)), (.ref q15)]) (fun _ k => XT.dup2 X3391.here hx rfl (hb hby d51_88) rfl rfl rfl k) ?_
  refine gb T3391 (mkF m 90 #[SA q9, SA q18, SA fD, SD 0, S2, SI 0] [(.long (0 : Int64)), (.int (0 : Int32)), (.ref q15)]) (ldJS X3391 hx hZ e3391 u44 (v := (.long (0 : Int64))) (j := (0 : Int32)) 0 (by decide) rfl (g := (mkF m 89 #[SA q9, SA q18, SA fD, SD 0, S2, SI 0] [(.int (0 : Int32)), (.ref q15), (.int (0 : Int32)), (.ref q15)])) rfl rfl (hb hby d51_89)) ?_
  refine gb T3391 (mkF m 91 #[SA q9, SA q18, SA fD, SD 0, S2, SI 0] [(.long (1 : Int64)), (.long (0 : Int64)), (.int (0 : Int32)), (.ref q15)]) (fun _ k => XS.lconst X3391.here hx rfl (hb hby d51_90)  k) ?_
  refine gb T3391 (mkF m 92 #[SA q9, SA q18, SA fD, SD 0, S2, SI 0] [(.long (1 : Int64)), (.int (0 : Int32)), (.ref q15)]) (fun _ k => XS.ladd X3391.here hx rfl (hb hby d51_91) rfl k) ?_
  obtain ⟨T3392, h3392, X3392, e3392, W3392, V3392, st3392⟩ := stJS X3391 hx hZ e3391 u44 (j := (0 : Int32)) 0 (by decide) (by show 0 < 1; decide) (g := (mkF m 92 #[SA q9, SA q18, SA fD, SD 0, S2, SI 0] [(.long (1 : Int64)), (.int (0 : Int32)), (.ref q15)])) rfl rfl (hb hby d51_92)
  have N0 := Fr.snoc X3392 N0 ge_q15
  have B0 := own_extW B0 W3392 (Nat.le_trans qH ge_q15)
  have u36 := u36.other W3392 ne_q11_q15
  have u70 := u70.other W3392 (Or.inl ne_q9_q15)
  have u71 := u71.other W3392 (Or.inl ne_q9_q15)
  have u72 := u72.other W3392 (Or.inl ne_q9_q15)
  have u73 := u73.other W3392 (Or.inl ne_q9_q15)
  have u74 := u74.other W3392 (Or.inl ne_q9_q15)
  have u75 := u75.other W3392 (Or.inl ne_q9_q15)
  have u76 := u76.other W3392 (Or.inl ne_q9_q15)
  have u77 := u77.other W3392 (Or.inl ne_q9_q15)
  have u78 := u78.other W3392 (Or.inl ne_q9_q15)
  have u79 := u79.other W3392 (Or.inl ne_q9_q15)
  have u80 := u80.other W3392 (Or.inl ne_q9_q15)
  have u81 := u81.other W3392 (Or.inl ne_q9_q15)
  have f3386 := f3386.other W3392 (Or.inl ne_q12_q15)
  have f3387 := f3387.other W3392 (Or.inl ne_q12_q15)
  have Z0 := own_zw Z0 W3392
  have K0 := K0.wr W3392 mi_q15
  have u44 : Sar Z h3392 q15 .long [(.long (1 : Int64))] := V3392
  refine gb T3392 (mkF m 93 #[SA q9, SA q18, SA fD, SD 0, S2, SI 0] []) st3392 ?_
  exact outV X3392 hx hlk hret (hb hby d51_93) (by rw [e3392]; exact ⟨rfl, N0, K0, u36, u44, u70, u71, u72, u73, u74, u75, u76, u77, u78, u79, u80, u81, f3386, f3387⟩) (by decide) (by decide)
set_option maxRecDepth 65536 in
set_option maxHeartbeats 40000000 in
theorem au65_leave (l : Launch) (Z : State) (a0 : Array Value) (hw : ∀ d ∈ tables_1, d.before a0 Z = true) (q9 q18 fD q1 q2 q5 q11 q12 q13 q14 q15 q10 : Addr) (y_41 : Int32) (y_38 y_39 y_69 y_78 y_79 y_80 : Int64) (Hs : Heap) (h0 : Heap) (n0 : Nat) (Z0 : n0 ≤ h0.size) (u0 : Sta Z Hs sn8 "DELIVERED" sn25 (.ref fD)) (u7 : Exa Z Hs fD sn8) (u14 : Fld Z Hs fD sn22 "ordinal" "I" (.int (0 : Int32))) (u22 : Exa Z h0 q1 sn5) (u23 : Exa Z h0 q2 sn2) (u26 : Exa Z h0 q5 sn12) (u32 : Exa Z h0 q9 sn0) (u36 : Sar Z h0 q11 .long [(.long (0 : Int64)), (.long (0 : Int64)), (.long (0 : Int64)), (.long (0 : Int64))]) (u37 : Exa Z h0 q12 sn11) (u38 : Fld Z h0 q12 sn11 "count" "J" (.long y_38)) (u39 : Fld Z h0 q12 sn11 "zeros" "J" (.long y_39)) (u40 : Exa Z h0 q13 sn9) (u41 : Fld Z h0 q13 sn23 "modCount" "I" (.int y_41)) (u42 : Fld Z h0 q13 sn9 "size" "I" (.int (0 : Int32))) (u43 : Sar Z h0 q14 .double []) (u44 : Sar Z h0 q15 .long [(.long (0 : Int64))]) (u48 : Fld Z h0 q2 sn2 "budget" sn16 (.ref q1)) (u50 : Fld Z h0 q2 sn2 "now" "D" (.double (4607182418800017409 : UInt64))) (u57 : Fld Z h0 q1 sn5 "allowed" "J" (.long (1000 : Int64))) (u58 : Fld Z h0 q1 sn5 "spent" "J" (.long (2 : Int64))) (u69 : Fld Z h0 q5 sn12 "inside" "J" (.long y_69)) (u70 : Fld Z h0 q9 sn0 "left" "[J" (.ref q11)) (u71 : Fld Z h0 q9 sn0 "responseTimes" sn19 (.ref q12)) (u72 : Fld Z h0 q9 sn0 "watchers" sn17 (.ref q13)) (u73 : Fld Z h0 q9 sn0 "simulation" sn14 (.ref q2)) (u74 : Fld Z h0 q9 sn0 "window" sn15 (.ref q10)) (u75 : Fld Z h0 q9 sn0 "measurement" sn6 (.ref q5)) (u76 : Fld Z h0 q9 sn0 "within" "[D" (.ref q14)) (u77 : Fld Z h0 q9 sn0 "deliveredBy" "[J" (.ref q15)) (u78 : Fld Z h0 q9 sn0 "inNetwork" "J" (.long y_78)) (u79 : Fld Z h0 q9 sn0 "produced" "J" (.long y_79)) (u80 : Fld Z h0 q9 sn0 sn18 "J" (.long y_80)) (u81 : Fld Z h0 q9 sn0 sn20 "D" (.double (0 : UInt64))) (u82 : Exa Z h0 q18 sn7) (u83 : Fld Z h0 q18 sn7 "produced" "D" (.double (4607182418800017409 : UInt64))) (u84 : Fld Z h0 q18 sn7 "measured" "Z" (.int (1 : Int32))) (ne_q1_q11 : q1 ≠ q11) (ne_q1_q12 : q1 ≠ q12) (ne_q1_q13 : q1 ≠ q13) (ne_q1_q15 : q1 ≠ q15) (ne_q1_q9 : q1 ≠ q9) (ne_q11_q12 : q11 ≠ q12) (ne_q11_q13 : q11 ≠ q13) (ne_q11_q14 : q11 ≠ q14) (ne_q11_q15 : q11 ≠ q15) (ne_q11_q18 : q11 ≠ q18) (ne_q12_q13 : q12 ≠ q13) (ne_q12_q14 : q12 ≠ q14) (ne_q12_q15 : q12 ≠ q15) (ne_q13_q15 : q13 ≠ q15) (ne_q2_q11 : q2 ≠ q11) (ne_q2_q12 : q2 ≠ q12) (ne_q2_q15 : q2 ≠ q15) (ne_q2_q9 : q2 ≠ q9) (ne_q5_q9 : q5 ≠ q9) (ne_q9_q11 : q9 ≠ q11) (ne_q9_q12 : q9 ≠ q12) (ne_q9_q13 : q9 ≠ q13) (ne_q9_q14 : q9 ≠ q14) (ne_q9_q15 : q9 ≠ q15) (ne_q9_q18 : q9 ≠ q18) (ge_q1 : n0 ≤ q1) (ge_q9 : n0 ≤ q9) (ge_q11 : n0 ≤ q11) (ge_q12 : n0 ≤ q12) (ge_q15 : n0 ≤ q15) (qH : Hs.size ≤ n0) (B0 : Ext Hs h0) :
    Does l mn1 prog_35_method_4_code 5 none [] ({ frames := 3, cells := 1, slots := 4, locals := 38 } : Room) Z #[(.ref q9), (.ref q18), (.ref fD)] h0 (fun v h L => v = none ∧ Fr n0 L ∧ Keep h0 h [q1, q9, q11, q12, q15] ∧ Sar Z h q11 .long [(.long (1 : Int64)), (.long (0 : Int64)), (.long (0 : Int64)), (.long (0 : Int64))] ∧ Sar Z h q15 .long [(.long (1 : Int64))] ∧ Fld Z h q9 sn0 "left" "[J" (.ref q11) ∧ Fld Z h q9 sn0 "responseTimes" sn19 (.ref q12) ∧ Fld Z h q9 sn0 "watchers" sn17 (.ref q13) ∧ Fld Z h q9 sn0 "simulation" sn14 (.ref q2) ∧ Fld Z h q9 sn0 "window" sn15 (.ref q10) ∧ Fld Z h q9 sn0 "measurement" sn6 (.ref q5) ∧ Fld Z h q9 sn0 "within" "[D" (.ref q14) ∧ Fld Z h q9 sn0 "deliveredBy" "[J" (.ref q15) ∧ Fld Z h q9 sn0 "inNetwork" "J" (.long (y_78 - (1 : Int64))) ∧ Fld Z h q9 sn0 "produced" "J" (.long y_79) ∧ Fld Z h q9 sn0 sn18 "J" (.long (y_80 + y_69)) ∧ Fld Z h q9 sn0 sn20 "D" (.double (0 : UInt64)) ∧ Fld Z h q12 sn11 "count" "J" (.long (y_38 + (1 : Int64))) ∧ Fld Z h q12 sn11 "zeros" "J" (.long (y_39 + (1 : Int64))) ∧ Fld Z h q1 sn5 "allowed" "J" (.long (1000 : Int64)) ∧ Fld Z h q1 sn5 "spent" "J" (.long (2 : Int64))) := by
  refine Does.of (plainFor_of_name pn0) ?_
  intro p e s m below meth c s₁ hx hby hml hret hlk hZ hown hnm X0 e0
  have N0 := Fr.nil n0
  refine Goes.cast (g' := mkF m 0 #[SA q9, SA q18, SA fD, SU, SU] []) (ef_au56_leave m q9 q18 fD) ?_
  have mi_q1 : q1 ∈ [q1, q9, q11, q12, q15] ∨ h0.size ≤ q1 := (Or.inl (List.mem_cons_self ..))
  have mi_q9 : q9 ∈ [q1, q9, q11, q12, q15] ∨ h0.size ≤ q9 := (Or.inl (List.mem_cons_of_mem _ (List.mem_cons_self ..)))
  have mi_q11 : q11 ∈ [q1, q9, q11, q12, q15] ∨ h0.size ≤ q11 := (Or.inl (List.mem_cons_of_mem _ (List.mem_cons_of_mem _ (List.mem_cons_self ..))))
  have mi_q12 : q12 ∈ [q1, q9, q11, q12, q15] ∨ h0.size ≤ q12 := (Or.inl (List.mem_cons_of_mem _ (List.mem_cons_of_mem _ (List.mem_cons_of_mem _ (List.mem_cons_self ..)))))
  have mi_q15 : q15 ∈ [q1, q9, q11, q12, q15] ∨ h0.size ≤ q15 := (Or.inl (List.mem_cons_of_mem _ (List.mem_cons_of_mem _ (List.mem_cons_of_mem _ (List.mem_cons_of_mem _ (List.mem_cons_self ..))))))
  have K0 := Keep.refl h0 [q1, q9, q11, q12, q15]
  refine gb s₁ (mkF m 2 #[SA q9, SA q18, SA fD, SU, SU] [(.ref q9), (.ref q9)]) (fun _ k => XS.aloadN X0.here hx rfl (hb hby d41_0) rfl rfl (XS.dup X0.here hx rfl (hb hby d41_1) rfl rfl k)) ?_
  refine own_g1 (getF X0 hx hZ hown (host := "") (Or.inl (ww hw 280 rfl)) Via.refl e0 u78 rfl rfl (hb hby d41_2)) fun T3619 X3619 e3619 => ?_
  refine gb T3619 (mkF m 6 #[SA q9, SA q18, SA fD, SU, SU] [(.long (1 : Int64)), (.long y_78), (.ref q9)]) (fun _ k => XS.lconst X3619.here hx rfl (hb hby d41_5)  k) ?_
  refine gb T3619 (mkF m 7 #[SA q9, SA q18, SA fD, SU, SU] [(.long (y_78 - (1 : Int64))), (.ref q9)]) (fun _ k => XS.lsub X3619.here hx rfl (hb hby d41_6) rfl k) ?_
  refine own_p1 (putF X3619 hx hZ hown (host := "") (Or.inl (ww hw 280 rfl)) Via.refl e3619 u78 u32 (Or.inl (ww hw 281 rfl)) (ww hw 162 rfl) (ty := .long) (by decide) rfl rfl rfl rfl (hb hby d41_7)) fun T3620 h3620 X3620 e3620 W3620 => ?_
  have N0 := Fr.snoc X3620 N0 ge_q9
  have B0 := own_extW B0 W3620 (Nat.le_trans qH ge_q9)
  have u22 := u22.wr W3620
  have u23 := u23.wr W3620
  have u26 := u26.wr W3620
  have u32 := u32.wr W3620
  have u36 := u36.other W3620 (Ne.symm ne_q9_q11)
  have u37 := u37.wr W3620
  have u38 := u38.other W3620 (Or.inl (Ne.symm ne_q9_q12))
  have u39 := u39.other W3620 (Or.inl (Ne.symm ne_q9_q12))
  have u40 := u40.wr W3620
  have u41 := u41.other W3620 (Or.inl (Ne.symm ne_q9_q13))
  have u42 := u42.other W3620 (Or.inl (Ne.symm ne_q9_q13))
  have u43 := u43.other W3620 (Ne.symm ne_q9_q14)
  have u44 := u44.other W3620 (Ne.symm ne_q9_q15)
  have u48 := u48.other W3620 (Or.inl ne_q2_q9)
  have u50 := u50.other W3620 (Or.inl ne_q2_q9)
  have u57 := u57.other W3620 (Or.inl ne_q1_q9)
  have u58 := u58.other W3620 (Or.inl ne_q1_q9)
  have u69 := u69.other W3620 (Or.inl ne_q5_q9)
  have u70 := own_oth u70 W3620 (Or.inr (ww hw 191 rfl)) (Or.inl (ww hw 281 rfl)) (by decide)
  have u71 := own_oth u71 W3620 (Or.inr (ww hw 204 rfl)) (Or.inl (ww hw 281 rfl)) (by decide)
  have u72 := own_oth u72 W3620 (Or.inr (ww hw 230 rfl)) (Or.inl (ww hw 281 rfl)) (by decide)
  have u73 := own_oth u73 W3620 (Or.inr (ww hw 232 rfl)) (Or.inl (ww hw 281 rfl)) (by decide)
  have u74 := own_oth u74 W3620 (Or.inr (ww hw 234 rfl)) (Or.inl (ww hw 281 rfl)) (by decide)
  have u75 := own_oth u75 W3620 (Or.inr (ww hw 236 rfl)) (Or.inl (ww hw 281 rfl)) (by decide)
  have u76 := own_oth u76 W3620 (Or.inr (ww hw 260 rfl)) (Or.inl (ww hw 281 rfl)) (by decide)
  have u77 := own_oth u77 W3620 (Or.inr (ww hw 262 rfl)) (Or.inl (ww hw 281 rfl)) (by decide)
  have u78 := u78.same W3620
  have u79 := own_oth u79 W3620 (Or.inl (ww hw 283 rfl)) (Or.inl (ww hw 281 rfl)) (by decide)
  have u80 := own_oth u80 W3620 (Or.inl (ww hw 348 rfl)) (Or.inl (ww hw 281 rfl)) (by decide)
  have u81 := own_oth u81 W3620 (Or.inl (ww hw 443 rfl)) (Or.inl (ww hw 281 rfl)) (by decide)
  have u82 := u82.wr W3620
  have u83 := u83.other W3620 (Or.inl (Ne.symm ne_q9_q18))
  have u84 := u84.other W3620 (Or.inl (Ne.symm ne_q9_q18))
  have Z0 := own_zw Z0 W3620
  have K0 := K0.wr W3620 mi_q9
  refine gb T3620 (mkF m 11 #[SA q9, SA q18, SA fD, SU, SU] [(.ref fD)]) (fun _ k => XS.aloadN X3620.here hx rfl (hb hby d41_10) rfl rfl k) ?_
  refine own_g1 (getS X3620 hx hZ (host := "") hown (ww hw 346 rfl) Via.refl e3620 (u0.ext B0) rfl (hb hby d41_11)) fun T3621 X3621 e3621 => ?_
  refine gb T3621 (mkF m 17 #[SA q9, SA q18, SA fD, SU, SU] []) (fun _ k => Jvm.RoadKit.acmp (g := (mkF m 14 #[SA q9, SA q18, SA fD, SU, SU] [(.ref fD), (.ref fD)])) X3621 hx rfl rfl rfl (pc0 := 14) (pc' := 17) (same := true) rfl (hb hby d41_14) rfl (decide_eq_true (congrArg Value.ref rfl)) (by decide) (by decide) k) ?_
  refine gb T3621 (mkF m 19 #[SA q9, SA q18, SA fD, SU, SU] [(.ref q9), (.ref q9)]) (fun _ k => XS.aloadN X3621.here hx rfl (hb hby d41_17) rfl rfl (XS.dup X3621.here hx rfl (hb hby d41_18) rfl rfl k)) ?_
  refine own_g1 (getF X3621 hx hZ hown (host := "") (Or.inl (ww hw 347 rfl)) Via.refl e3621 u80 rfl rfl (hb hby d41_19)) fun T3622 X3622 e3622 => ?_
  refine gb T3622 (mkF m 23 #[SA q9, SA q18, SA fD, SU, SU] [(.ref q9), (.long y_80), (.ref q9)]) (fun _ k => XS.aloadN X3622.here hx rfl (hb hby d41_22) rfl rfl k) ?_
  refine own_g1 (getF X3622 hx hZ hown (host := "") (Or.inl (ww hw 235 rfl)) Via.refl e3622 u75 rfl rfl (hb hby d41_23)) fun T3623 X3623 e3623 => ?_
  refine own_c1 (callV X3623 hx hZ (y := mn32) hown (ww hw 349 rfl) (ww hw 350 rfl) (ww hw 352 rfl) (ww hw 351 rfl) (ww hw 353 rfl) (ww hw 55 rfl) (by decide) e3623 u26 (argsL := []) (rest := [(.long y_80), (.ref q9)]) (W := 3) (au48_inside l Z a0 hw q5 y_69 h3620 n0 Z0 u69) rfl (by decide) (by decide) (by decide) (by decide) rfl (by rw [hml]; rfl) (lenOf pd23 rfl) rfl (by show 2 * 0 + _ ≤ _; exact Nat.le_of_eq rfl) (hb hby d41_26)) fun v3625 T3625 L3625 X3625 hQ3625 => ?_
  obtain ⟨rfl, NL3625, hk3625⟩ := hQ3625
  have N0 := Fr.app N0 NL3625
  refine gb T3625 (mkF m 30 #[SA q9, SA q18, SA fD, SU, SU] [(.long (y_80 + y_69)), (.ref q9)]) (fun _ k => XS.ladd X3625.here hx rfl (hb hby d41_29) rfl k) ?_
  refine own_p1 (putF X3625 hx hZ hown (host := "") (Or.inl (ww hw 347 rfl)) Via.refl hk3625 u80 u32 (Or.inl (ww hw 348 rfl)) (ww hw 162 rfl) (ty := .long) (by decide) rfl rfl rfl rfl (hb hby d41_30)) fun T3626 h3626 X3626 e3626 W3626 => ?_
  have N0 := Fr.snoc X3626 N0 ge_q9
  have B0 := own_extW B0 W3626 (Nat.le_trans qH ge_q9)
  have u22 := u22.wr W3626
  have u23 := u23.wr W3626
  have u32 := u32.wr W3626
  have u36 := u36.other W3626 (Ne.symm ne_q9_q11)
  have u37 := u37.wr W3626
  have u38 := u38.other W3626 (Or.inl (Ne.symm ne_q9_q12))
  have u39 := u39.other W3626 (Or.inl (Ne.symm ne_q9_q12))
  have u40 := u40.wr W3626
  have u41 := u41.other W3626 (Or.inl (Ne.symm ne_q9_q13))
  have u42 := u42.other W3626 (Or.inl (Ne.symm ne_q9_q13))
  have u43 := u43.other W3626 (Ne.symm ne_q9_q14)
  have u44 := u44.other W3626 (Ne.symm ne_q9_q15)
  have u48 := u48.other W3626 (Or.inl ne_q2_q9)
  have u50 := u50.other W3626 (Or.inl ne_q2_q9)
  have u57 := u57.other W3626 (Or.inl ne_q1_q9)
  have u58 := u58.other W3626 (Or.inl ne_q1_q9)
  have u70 := own_oth u70 W3626 (Or.inr (ww hw 191 rfl)) (Or.inl (ww hw 348 rfl)) (by decide)
  have u71 := own_oth u71 W3626 (Or.inr (ww hw 204 rfl)) (Or.inl (ww hw 348 rfl)) (by decide)
  have u72 := own_oth u72 W3626 (Or.inr (ww hw 230 rfl)) (Or.inl (ww hw 348 rfl)) (by decide)
  have u73 := own_oth u73 W3626 (Or.inr (ww hw 232 rfl)) (Or.inl (ww hw 348 rfl)) (by decide)
  have u74 := own_oth u74 W3626 (Or.inr (ww hw 234 rfl)) (Or.inl (ww hw 348 rfl)) (by decide)
  have u75 := own_oth u75 W3626 (Or.inr (ww hw 236 rfl)) (Or.inl (ww hw 348 rfl)) (by decide)
  have u76 := own_oth u76 W3626 (Or.inr (ww hw 260 rfl)) (Or.inl (ww hw 348 rfl)) (by decide)
  have u77 := own_oth u77 W3626 (Or.inr (ww hw 262 rfl)) (Or.inl (ww hw 348 rfl)) (by decide)
  have u78 := own_oth u78 W3626 (Or.inl (ww hw 281 rfl)) (Or.inl (ww hw 348 rfl)) (by decide)
  have u79 := own_oth u79 W3626 (Or.inl (ww hw 283 rfl)) (Or.inl (ww hw 348 rfl)) (by decide)
  have u80 := u80.same W3626
  have u81 := own_oth u81 W3626 (Or.inl (ww hw 443 rfl)) (Or.inl (ww hw 348 rfl)) (by decide)
  have u82 := u82.wr W3626
  have u83 := u83.other W3626 (Or.inl (Ne.symm ne_q9_q18))
  have u84 := u84.other W3626 (Or.inl (Ne.symm ne_q9_q18))
  have Z0 := own_zw Z0 W3626
  have K0 := K0.wr W3626 mi_q9
  refine gb T3626 (mkF m 34 #[SA q9, SA q18, SA fD, SU, SU] [(.ref q18)]) (fun _ k => XS.aloadN X3626.here hx rfl (hb hby d41_33) rfl rfl k) ?_
  refine own_c1 (callV X3626 hx hZ (y := mn3) hown (ww hw 355 rfl) (ww hw 356 rfl) (ww hw 358 rfl) (ww hw 357 rfl) (ww hw 359 rfl) (ww hw 286 rfl) (by decide) e3626 u82 (argsL := []) (rest := []) (W := 0) (au60_measured l Z a0 hw q18 h3626 n0 Z0 u84) rfl (by decide) (by decide) (by decide) (by decide) rfl (by rw [hml]; rfl) (lenOf pd0 rfl) rfl (by show 2 * 0 + _ ≤ _; exact Nat.le_of_eq rfl) (hb hby d41_34)) fun v3628 T3628 L3628 X3628 hQ3628 => ?_
  obtain ⟨rfl, NL3628, hk3628⟩ := hQ3628
  have N0 := Fr.app N0 NL3628
  refine gb T3628 (mkF m 40 #[SA q9, SA q18, SA fD, SU, SU] []) (fun _ k => XS.ifNo X3628.here hx rfl (hb hby d41_37) rfl (by decide) k) ?_
  refine gb T3628 (mkF m 43 #[SA q9, SA q18, SA fD, SU, SU] [(.ref fD), (.ref q18), (.ref q9)]) (fun _ k => XS.aloadN X3628.here hx rfl (hb hby d41_40) rfl rfl (XS.aloadN X3628.here hx rfl (hb hby d41_41) rfl rfl (XS.aloadN X3628.here hx rfl (hb hby d41_42) rfl rfl k))) ?_
  refine own_c1 (callP X3628 hx hZ (y := mn4) hown (ww hw 424 rfl) (ww hw 425 rfl) (ww hw 426 rfl) (ww hw 427 rfl) (ww hw 163 rfl) (ww hw 162 rfl) (by decide) hk3628 u32 (argsL := [(.ref q18), (.ref fD)]) (rest := []) (W := 0) (au64_count l Z a0 hw q9 q18 fD q2 q11 q12 q14 q15 q13 q10 q5 y_38 y_39 (y_78 - (1 : Int64)) y_79 (y_80 + y_69) Hs h3626 n0 Z0 u0 u7 u14 u23 u32 u36 u37 u38 u39 u43 u44 u50 u70 u71 u72 u73 u74 u75 u76 u77 u78 u79 u80 u81 u82 u83 ne_q11_q12 ne_q11_q14 ne_q11_q15 ne_q11_q18 ne_q12_q14 ne_q12_q15 ne_q2_q11 ne_q9_q11 ne_q9_q12 ne_q9_q14 ne_q9_q15 ge_q9 ge_q11 ge_q12 ge_q15 qH B0) rfl (by decide) (by decide) (by decide) (by decide) rfl (by rw [hml]; rfl) (lenOf pd29 rfl) rfl (by show 2 * 0 + _ ≤ _; exact Nat.le_of_eq rfl) (hb hby d41_43)) fun v3645 T3645 L3645 X3645 hQ3645 => ?_
  obtain ⟨rfl, NL3645, K3645, f3629, f3630, f3631, f3632, f3633, f3634, f3635, f3636, f3637, f3638, f3639, f3640, f3641, f3642, f3643, f3644⟩ := hQ3645
  have N0 := Fr.app N0 NL3645
  have e3645 : T3645.heap = T3645.heap := rfl
  have B0 := own_extK B0 K3645 (allS (Nat.le_trans qH ge_q9) (allS (Nat.le_trans qH ge_q11) (allS (Nat.le_trans qH ge_q12) (allS (Nat.le_trans qH ge_q15) all0))))
  have u22 := u22.keep K3645
  have u23 := u23.keep K3645
  have u40 := u40.keep K3645
  have nin_q13 := (ninS (Ne.symm ne_q9_q13) (ninS (Ne.symm ne_q11_q13) (ninS (Ne.symm ne_q12_q13) (ninS ne_q13_q15 nin0))))
  have u41 := u41.keep K3645 nin_q13
  have u42 := u42.keep K3645 nin_q13
  have nin_q2 := (ninS ne_q2_q9 (ninS ne_q2_q11 (ninS ne_q2_q12 (ninS ne_q2_q15 nin0))))
  have u48 := u48.keep K3645 nin_q2
  have u50 := u50.keep K3645 nin_q2
  have nin_q1 := (ninS ne_q1_q9 (ninS ne_q1_q11 (ninS ne_q1_q12 (ninS ne_q1_q15 nin0))))
  have u57 := u57.keep K3645 nin_q1
  have u58 := u58.keep K3645 nin_q1
  have Z0 := Nat.le_trans Z0 K3645.1
  have K0 := K0.trans K3645 (allS mi_q9 (allS mi_q11 (allS mi_q12 (allS mi_q15 all0))))
  refine gb T3645 (mkF m 47 #[SA q9, SA q18, SA fD, SU, SU] [(.ref q9)]) (fun _ k => XS.aloadN X3645.here hx rfl (hb hby d41_46) rfl rfl k) ?_
  refine own_g1 (getF X3645 hx hZ hown (host := "") (Or.inl (ww hw 231 rfl)) Via.refl e3645 f3634 rfl rfl (hb hby d41_47)) fun T3646 X3646 e3646 => ?_
  refine gb T3646 (mkF m 51 #[SA q9, SA q18, SA fD, SU, SU] [(.ref q9), (.ref q2)]) (fun _ k => XS.aloadN X3646.here hx rfl (hb hby d41_50) rfl rfl k) ?_
  refine own_g1 (getF X3646 hx hZ hown (host := "") (Or.inl (ww hw 229 rfl)) Via.refl e3646 f3633 rfl rfl (hb hby d41_51)) fun T3647 X3647 e3647 => ?_
  refine own_c1 (callF X3647 hx hZ (xi := mn5) (y := mn6) hown (ww hw 246 rfl) (ww hw 247 rfl) (ww hw 248 rfl) (by decide) (ww hw 360 rfl) (ww hw 361 rfl) (ww hw 362 rfl) (ww hw 363 rfl) (ww hw 364 rfl) (ww hw 365 rfl) (ww hw 207 rfl) (by decide) e3647 u40 (argsL := []) (rest := [(.ref q2)]) (W := 1) (au50_size l Z a0 hw q13 (0 : Int32) T3645.heap n0 Z0 u42) rfl (by decide) (by decide) (by decide) (by decide) rfl (by rw [hml]; rfl) (lenOf pd19 rfl) rfl (by show 2 * 0 + _ ≤ _; exact Nat.le_of_eq rfl) (hb hby d41_54)) fun v3648 T3648 L3648 X3648 hQ3648 => ?_
  obtain ⟨rfl, NL3648, hk3648⟩ := hQ3648
  have N0 := Fr.app N0 NL3648
  refine gb T3648 (mkF m 60 #[SA q9, SA q18, SA fD, SU, SU] [(.long (0 : Int64)), (.ref q2)]) (fun _ k => XS.i2l X3648.here hx rfl (hb hby d41_59) rfl k) ?_
  refine own_c1 (callV X3648 hx hZ (y := mn7) hown (ww hw 368 rfl) (ww hw 369 rfl) (ww hw 371 rfl) (ww hw 370 rfl) (ww hw 372 rfl) (ww hw 28 rfl) (by decide) hk3648 u23 (argsL := [(.long (0 : Int64))]) (rest := []) (W := 0) (au52_spend l Z a0 hw q2 q1 (4607182418800017409 : UInt64) T3645.heap n0 Z0 u22 u48 u50 u57 u58 ge_q1) rfl (by decide) (by decide) (by decide) (by decide) rfl (by rw [hml]; rfl) (lenOf pd3 rfl) rfl (by show 2 * 0 + _ ≤ _; exact Nat.le_of_eq rfl) (hb hby d41_60)) fun v3652 T3652 L3652 X3652 hQ3652 => ?_
  obtain ⟨rfl, NL3652, K3652, f3649, f3650⟩ := hQ3652
  have N0 := Fr.app N0 NL3652
  have e3652 : T3652.heap = T3652.heap := rfl
  have B0 := own_extK B0 K3652 (allS (Nat.le_trans qH ge_q1) all0)
  have u40 := u40.keep K3652
  have u41 := u41.keep K3652 (ninS (Ne.symm ne_q1_q13) nin0)
  have u42 := u42.keep K3652 (ninS (Ne.symm ne_q1_q13) nin0)
  have f3629 := f3629.keep K3652 (ninS (Ne.symm ne_q1_q11) nin0)
  have f3630 := f3630.keep K3652 (ninS (Ne.symm ne_q1_q15) nin0)
  have f3631 := f3631.keep K3652 (ninS (Ne.symm ne_q1_q9) nin0)
  have f3632 := f3632.keep K3652 (ninS (Ne.symm ne_q1_q9) nin0)
  have f3633 := f3633.keep K3652 (ninS (Ne.symm ne_q1_q9) nin0)
  have f3634 := f3634.keep K3652 (ninS (Ne.symm ne_q1_q9) nin0)
  have f3635 := f3635.keep K3652 (ninS (Ne.symm ne_q1_q9) nin0)
  have f3636 := f3636.keep K3652 (ninS (Ne.symm ne_q1_q9) nin0)
  have f3637 := f3637.keep K3652 (ninS (Ne.symm ne_q1_q9) nin0)
  have f3638 := f3638.keep K3652 (ninS (Ne.symm ne_q1_q9) nin0)
  have f3639 := f3639.keep K3652 (ninS (Ne.symm ne_q1_q9) nin0)
  have f3640 := f3640.keep K3652 (ninS (Ne.symm ne_q1_q9) nin0)
  have f3641 := f3641.keep K3652 (ninS (Ne.symm ne_q1_q9) nin0)
  have f3642 := f3642.keep K3652 (ninS (Ne.symm ne_q1_q9) nin0)
  have f3643 := f3643.keep K3652 (ninS (Ne.symm ne_q1_q12) nin0)
  have f3644 := f3644.keep K3652 (ninS (Ne.symm ne_q1_q12) nin0)
  have Z0 := Nat.le_trans Z0 K3652.1
  have K0 := K0.trans K3652 (allS mi_q1 all0)
  refine gb T3652 (mkF m 64 #[SA q9, SA q18, SA fD, SU, SU] [(.ref q9)]) (fun _ k => XS.aloadN X3652.here hx rfl (hb hby d41_63) rfl rfl k) ?_
  refine own_g1 (getF X3652 hx hZ hown (host := "") (Or.inl (ww hw 229 rfl)) Via.refl e3652 f3633 rfl rfl (hb hby d41_64)) fun T3653 X3653 e3653 => ?_
  refine own_c1 (callF X3653 hx hZ (xi := mn12) (y := mn8) hown (ww hw 378 rfl) (ww hw 379 rfl) (ww hw 380 rfl) (by decide) (ww hw 381 rfl) (ww hw 382 rfl) (ww hw 383 rfl) (ww hw 384 rfl) (ww hw 364 rfl) (ww hw 385 rfl) (ww hw 207 rfl) (by decide) e3653 u40 (argsL := []) (rest := []) (W := 0) (au54_iterator l Z a0 hw q13 y_41 T3652.heap n0 Z0 u41) rfl (by decide) (by decide) (by decide) (by decide) rfl (by rw [hml]; rfl) (lenOf pd28 rfl) rfl (by show 2 * 0 + _ ≤ _; exact Nat.le_of_eq rfl) (hb hby d41_67)) fun v3657 T3657 L3657 X3657 hQ3657 => ?_
  obtain ⟨o41_1, rfl, NL3657, K3657, sz3657_o41_1, f3654, f3655, f3656⟩ := hQ3657
  have N0 := Fr.app N0 NL3657
  have ge_o41_1 : n0 ≤ o41_1 := Nat.le_trans Z0 sz3657_o41_1
  have sz_o41_1 : h0.size ≤ o41_1 := Nat.le_trans K0.1 sz3657_o41_1
  have e3657 : T3657.heap = T3657.heap := rfl
  have B0 := own_extK B0 K3657 all0
  have u42 := u42.keep K3657 nin0
  have f3629 := f3629.keep K3657 nin0
  have f3630 := f3630.keep K3657 nin0
  have f3631 := f3631.keep K3657 nin0
  have f3632 := f3632.keep K3657 nin0
  have f3633 := f3633.keep K3657 nin0
  have f3634 := f3634.keep K3657 nin0
  have f3635 := f3635.keep K3657 nin0
  have f3636 := f3636.keep K3657 nin0
  have f3637 := f3637.keep K3657 nin0
  have f3638 := f3638.keep K3657 nin0
  have f3639 := f3639.keep K3657 nin0
  have f3640 := f3640.keep K3657 nin0
  have f3641 := f3641.keep K3657 nin0
  have f3642 := f3642.keep K3657 nin0
  have f3643 := f3643.keep K3657 nin0
  have f3644 := f3644.keep K3657 nin0
  have f3649 := f3649.keep K3657 nin0
  have f3650 := f3650.keep K3657 nin0
  have Z0 := Nat.le_trans Z0 K3657.1
  have K0 := K0.trans K3657 all0
  refine gb T3657 (mkF m 74 #[SA q9, SA q18, SA fD, SA o41_1, SU] [(.ref o41_1)]) (fun _ k => XS.astoreN X3657.here hx rfl (hb hby d41_72) rfl rfl (l' := #[SA q9, SA q18, SA fD, SA o41_1, SU]) rfl (XS.aloadN X3657.here hx rfl (hb hby d41_73) rfl rfl k)) ?_
  refine own_c1 (callF X3657 hx hZ (xi := mn13) (y := mn9) hown (ww hw 402 rfl) (ww hw 403 rfl) (ww hw 404 rfl) (by decide) (ww hw 405 rfl) (ww hw 406 rfl) (ww hw 407 rfl) (ww hw 408 rfl) (ww hw 409 rfl) (ww hw 410 rfl) (ww hw 388 rfl) (by decide) e3657 f3654 (argsL := []) (rest := []) (W := 0) (au55_hasNext l Z a0 hw o41_1 q13 T3657.heap n0 Z0 u42 f3655 f3656) rfl (by decide) (by decide) (by decide) (by decide) rfl (by rw [hml]; rfl) (lenOf pd0 rfl) rfl (by show 2 * 0 + _ ≤ _; exact Nat.le_of_eq rfl) (hb hby d41_74)) fun v3658 T3658 L3658 X3658 hQ3658 => ?_
  obtain ⟨rfl, NL3658, hk3658⟩ := hQ3658
  have N0 := Fr.app N0 NL3658
  refine gb T3658 (mkF m 104 #[SA q9, SA q18, SA fD, SA o41_1, SU] []) (fun _ k => XS.ifYes X3658.here hx rfl (pc0 := 79) (pc' := 104) rfl (hb hby d41_79) rfl (by decide) (by decide) (by decide) k) ?_
  exact outV X3658 hx hlk hret (hb hby d41_104) (by rw [hk3658]; exact ⟨rfl, N0, K0, f3629, f3630, f3631, f3632, f3633, f3634, f3635, f3636, f3637, f3638, f3639, f3640, f3641, f3642, f3643, f3644, f3649, f3650⟩) (by decide) (by decide)
set_option maxRecDepth 65536 in
set_option maxHeartbeats 40000000 in
theorem au66_count (l : Launch) (Z : State) (a0 : Array Value) (hw : ∀ d ∈ tables_1, d.before a0 Z = true) (q9 q18 fE fD q11 : Addr) (Hs : Heap) (h0 : Heap) (n0 : Nat) (Z0 : n0 ≤ h0.size) (u0 : Sta Z Hs sn8 "DELIVERED" sn25 (.ref fD)) (u8 : Exa Z Hs fE sn8) (u15 : Fld Z Hs fE sn22 "ordinal" "I" (.int (1 : Int32))) (u36 : Sar Z h0 q11 .long [(.long (0 : Int64)), (.long (0 : Int64)), (.long (0 : Int64)), (.long (0 : Int64))]) (u70 : Fld Z h0 q9 sn0 "left" "[J" (.ref q11)) (ne_fE_fD : fE ≠ fD) (ge_q11 : n0 ≤ q11) (qH : Hs.size ≤ n0) (B0 : Ext Hs h0) :
    Does l mn4 prog_35_method_6_code 6 none [] ({ frames := 1, cells := 0, slots := 0, locals := 13 } : Room) Z #[(.ref q9), (.ref q18), (.ref fE)] h0 (fun v h L => v = none ∧ Fr n0 L ∧ Keep h0 h [q11] ∧ Sar Z h q11 .long [(.long (0 : Int64)), (.long (1 : Int64)), (.long (0 : Int64)), (.long (0 : Int64))]) := by
  refine Does.of (plainFor_of_name pn0) ?_
  intro p e s m below meth c s₁ hx hby hml hret hlk hZ hown hnm X0 e0
  have N0 := Fr.nil n0
  refine Goes.cast (g' := mkF m 0 #[SA q9, SA q18, SA fE, SU, SU, SU] []) (ef_au64_count m q9 q18 fE) ?_
  have mi_q11 : q11 ∈ [q11] ∨ h0.size ≤ q11 := (Or.inl (List.mem_cons_self ..))
  have K0 := Keep.refl h0 [q11]
  refine gb s₁ (mkF m 1 #[SA q9, SA q18, SA fE, SU, SU, SU] [(.ref q9)]) (fun _ k => XS.aloadN X0.here hx rfl (hb hby d51_0) rfl rfl k) ?_
  refine own_g1 (getF X0 hx hZ hown (host := "") (Or.inl (ww hw 190 rfl)) Via.refl e0 u70 rfl rfl (hb hby d51_1)) fun T3710 X3710 e3710 => ?_
  refine gb T3710 (mkF m 5 #[SA q9, SA q18, SA fE, SU, SU, SU] [(.ref fE), (.ref q11)]) (fun _ k => XS.aloadN X3710.here hx rfl (hb hby d51_4) rfl rfl k) ?_
  refine own_c1 (callVU X3710 hx hZ (owner := sn22) (xi := mn27) (y := mn16) hown (ww hw 428 rfl) (ww hw 429 rfl) (ww hw 430 rfl) (by decide) (ww hw 432 rfl) (ww hw 431 rfl) (ww hw 434 rfl) (ww hw 433 rfl) e3710 (u8.ext B0) (argsL := []) (rest := [(.ref q11)]) (W := 1) (au61_ordinal l Z a0 hw fE (1 : Int32) Hs h0 n0 Z0 u15 qH B0) rfl (by decide) (by decide) (by decide) (by decide) rfl (by rw [hml]; rfl) (lenOf pd19 rfl) rfl (by show 2 * 0 + _ ≤ _; exact Nat.le_of_eq rfl) (hb hby d51_5)) fun v3711 T3711 L3711 X3711 hQ3711 => ?_
  obtain ⟨rfl, NL3711, hk3711⟩ := hQ3711
  have N0 := Fr.app N0 NL3711
  refine gb T3711 (mkF m 9 #[SA q9, SA q18, SA fE, SU, SU, SU] [(.int (1 : Int32)), (.ref q11), (.int (1 : Int32)), (.ref q11)]) (fun _ k => XT.dup2 X3711.here hx rfl (hb hby d51_8) rfl rfl rfl k) ?_
  refine gb T3711 (mkF m 10 #[SA q9, SA q18, SA fE, SU, SU, SU] [(.long (0 : Int64)), (.int (1 : Int32)), (.ref q11)]) (ldJS X3711 hx hZ hk3711 u36 (v := (.long (0 : Int64))) (j := (1 : Int32)) 1 (by decide) rfl (g := (mkF m 9 #[SA q9, SA q18, SA fE, SU, SU, SU] [(.int (1 : Int32)), (.ref q11), (.int (1 : Int32)), (.ref q11)])) rfl rfl (hb hby d51_9)) ?_
  refine gb T3711 (mkF m 11 #[SA q9, SA q18, SA fE, SU, SU, SU] [(.long (1 : Int64)), (.long (0 : Int64)), (.int (1 : Int32)), (.ref q11)]) (fun _ k => XS.lconst X3711.here hx rfl (hb hby d51_10)  k) ?_
  refine gb T3711 (mkF m 12 #[SA q9, SA q18, SA fE, SU, SU, SU] [(.long (1 : Int64)), (.int (1 : Int32)), (.ref q11)]) (fun _ k => XS.ladd X3711.here hx rfl (hb hby d51_11) rfl k) ?_
  obtain ⟨T3712, h3712, X3712, e3712, W3712, V3712, st3712⟩ := stJS X3711 hx hZ hk3711 u36 (j := (1 : Int32)) 1 (by decide) (by show 1 < 4; decide) (g := (mkF m 12 #[SA q9, SA q18, SA fE, SU, SU, SU] [(.long (1 : Int64)), (.int (1 : Int32)), (.ref q11)])) rfl rfl (hb hby d51_12)
  have N0 := Fr.snoc X3712 N0 ge_q11
  have B0 := own_extW B0 W3712 (Nat.le_trans qH ge_q11)
  have Z0 := own_zw Z0 W3712
  have K0 := K0.wr W3712 mi_q11
  have u36 : Sar Z h3712 q11 .long [(.long (0 : Int64)), (.long (1 : Int64)), (.long (0 : Int64)), (.long (0 : Int64))] := V3712
  refine gb T3712 (mkF m 13 #[SA q9, SA q18, SA fE, SU, SU, SU] []) st3712 ?_
  refine gb T3712 (mkF m 14 #[SA q9, SA q18, SA fE, SU, SU, SU] [(.ref fE)]) (fun _ k => XS.aloadN X3712.here hx rfl (hb hby d51_13) rfl rfl k) ?_
  refine own_g1 (getS X3712 hx hZ (host := "") hown (ww hw 346 rfl) Via.refl e3712 (u0.ext B0) rfl (hb hby d51_14)) fun T3713 X3713 e3713 => ?_
  refine gb T3713 (mkF m 93 #[SA q9, SA q18, SA fE, SU, SU, SU] []) (fun _ k => Jvm.RoadKit.acmp (g := (mkF m 17 #[SA q9, SA q18, SA fE, SU, SU, SU] [(.ref fD), (.ref fE)])) X3713 hx rfl rfl rfl (pc0 := 17) (pc' := 93) (same := false) rfl (hb hby d51_17) rfl (decide_eq_false fun q => ne_fE_fD (Value.ref.inj q)) (by decide) (by decide) k) ?_
  exact outV X3713 hx hlk hret (hb hby d51_93) (by rw [e3713]; exact ⟨rfl, N0, K0, u36⟩) (by decide) (by decide)
set_option maxRecDepth 65536 in
set_option maxHeartbeats 40000000 in
theorem au67_leave (l : Launch) (Z : State) (a0 : Array Value) (hw : ∀ d ∈ tables_1, d.before a0 Z = true) (q9 q18 fE fD q1 q2 q11 q13 q12 q10 q5 q14 q15 : Addr) (y_41 : Int32) (y_78 y_79 y_80 : Int64) (y_50 y_81 : UInt64) (Hs : Heap) (h0 : Heap) (n0 : Nat) (Z0 : n0 ≤ h0.size) (u0 : Sta Z Hs sn8 "DELIVERED" sn25 (.ref fD)) (u8 : Exa Z Hs fE sn8) (u15 : Fld Z Hs fE sn22 "ordinal" "I" (.int (1 : Int32))) (u22 : Exa Z h0 q1 sn5) (u23 : Exa Z h0 q2 sn2) (u32 : Exa Z h0 q9 sn0) (u36 : Sar Z h0 q11 .long [(.long (0 : Int64)), (.long (0 : Int64)), (.long (0 : Int64)), (.long (0 : Int64))]) (u40 : Exa Z h0 q13 sn9) (u41 : Fld Z h0 q13 sn23 "modCount" "I" (.int y_41)) (u42 : Fld Z h0 q13 sn9 "size" "I" (.int (0 : Int32))) (u48 : Fld Z h0 q2 sn2 "budget" sn16 (.ref q1)) (u50 : Fld Z h0 q2 sn2 "now" "D" (.double y_50)) (u57 : Fld Z h0 q1 sn5 "allowed" "J" (.long (1000 : Int64))) (u58 : Fld Z h0 q1 sn5 "spent" "J" (.long (2 : Int64))) (u70 : Fld Z h0 q9 sn0 "left" "[J" (.ref q11)) (u71 : Fld Z h0 q9 sn0 "responseTimes" sn19 (.ref q12)) (u72 : Fld Z h0 q9 sn0 "watchers" sn17 (.ref q13)) (u73 : Fld Z h0 q9 sn0 "simulation" sn14 (.ref q2)) (u74 : Fld Z h0 q9 sn0 "window" sn15 (.ref q10)) (u75 : Fld Z h0 q9 sn0 "measurement" sn6 (.ref q5)) (u76 : Fld Z h0 q9 sn0 "within" "[D" (.ref q14)) (u77 : Fld Z h0 q9 sn0 "deliveredBy" "[J" (.ref q15)) (u78 : Fld Z h0 q9 sn0 "inNetwork" "J" (.long y_78)) (u79 : Fld Z h0 q9 sn0 "produced" "J" (.long y_79)) (u80 : Fld Z h0 q9 sn0 sn18 "J" (.long y_80)) (u81 : Fld Z h0 q9 sn0 sn20 "D" (.double y_81)) (u82 : Exa Z h0 q18 sn7) (u84 : Fld Z h0 q18 sn7 "measured" "Z" (.int (1 : Int32))) (ne_fE_fD : fE ≠ fD) (ne_q1_q11 : q1 ≠ q11) (ne_q1_q13 : q1 ≠ q13) (ne_q1_q9 : q1 ≠ q9) (ne_q11_q13 : q11 ≠ q13) (ne_q2_q11 : q2 ≠ q11) (ne_q2_q9 : q2 ≠ q9) (ne_q9_q11 : q9 ≠ q11) (ne_q9_q13 : q9 ≠ q13) (ne_q9_q18 : q9 ≠ q18) (ge_q1 : n0 ≤ q1) (ge_q9 : n0 ≤ q9) (ge_q11 : n0 ≤ q11) (qH : Hs.size ≤ n0) (B0 : Ext Hs h0) :
    Does l mn1 prog_35_method_4_code 5 none [] ({ frames := 3, cells := 1, slots := 4, locals := 38 } : Room) Z #[(.ref q9), (.ref q18), (.ref fE)] h0 (fun v h L => v = none ∧ Fr n0 L ∧ Keep h0 h [q1, q9, q11] ∧ Fld Z h q9 sn0 "left" "[J" (.ref q11) ∧ Fld Z h q9 sn0 "responseTimes" sn19 (.ref q12) ∧ Fld Z h q9 sn0 "watchers" sn17 (.ref q13) ∧ Fld Z h q9 sn0 "simulation" sn14 (.ref q2) ∧ Fld Z h q9 sn0 "window" sn15 (.ref q10) ∧ Fld Z h q9 sn0 "measurement" sn6 (.ref q5) ∧ Fld Z h q9 sn0 "within" "[D" (.ref q14) ∧ Fld Z h q9 sn0 "deliveredBy" "[J" (.ref q15) ∧ Fld Z h q9 sn0 "inNetwork" "J" (.long (y_78 - (1 : Int64))) ∧ Fld Z h q9 sn0 "produced" "J" (.long y_79) ∧ Fld Z h q9 sn0 sn18 "J" (.long y_80) ∧ Fld Z h q9 sn0 sn20 "D" (.double y_81) ∧ Sar Z h q11 .long [(.long (0 : Int64)), (.long (1 : Int64)), (.long (0 : Int64)), (.long (0 : Int64))] ∧ Fld Z h q1 sn5 "allowed" "J" (.long (1000 : Int64)) ∧ Fld Z h q1 sn5 "spent" "J" (.long (2 : Int64))) := by
  refine Does.of (plainFor_of_name pn0) ?_
  intro p e s m below meth c s₁ hx hby hml hret hlk hZ hown hnm X0 e0
  have N0 := Fr.nil n0
  refine Goes.cast (g' := mkF m 0 #[SA q9, SA q18, SA fE, SU, SU] []) (ef_au56_leave m q9 q18 fE) ?_
  have mi_q1 : q1 ∈ [q1, q9, q11] ∨ h0.size ≤ q1 := (Or.inl (List.mem_cons_self ..))
  have mi_q9 : q9 ∈ [q1, q9, q11] ∨ h0.size ≤ q9 := (Or.inl (List.mem_cons_of_mem _ (List.mem_cons_self ..)))
  have mi_q11 : q11 ∈ [q1, q9, q11] ∨ h0.size ≤ q11 := (Or.inl (List.mem_cons_of_mem _ (List.mem_cons_of_mem _ (List.mem_cons_self ..))))
  have K0 := Keep.refl h0 [q1, q9, q11]
  refine gb s₁ (mkF m 2 #[SA q9, SA q18, SA fE, SU, SU] [(.ref q9), (.ref q9)]) (fun _ k => XS.aloadN X0.here hx rfl (hb hby d41_0) rfl rfl (XS.dup X0.here hx rfl (hb hby d41_1) rfl rfl k)) ?_
  refine own_g1 (getF X0 hx hZ hown (host := "") (Or.inl (ww hw 280 rfl)) Via.refl e0 u78 rfl rfl (hb hby d41_2)) fun T3825 X3825 e3825 => ?_
  refine gb T3825 (mkF m 6 #[SA q9, SA q18, SA fE, SU, SU] [(.long (1 : Int64)), (.long y_78), (.ref q9)]) (fun _ k => XS.lconst X3825.here hx rfl (hb hby d41_5)  k) ?_
  refine gb T3825 (mkF m 7 #[SA q9, SA q18, SA fE, SU, SU] [(.long (y_78 - (1 : Int64))), (.ref q9)]) (fun _ k => XS.lsub X3825.here hx rfl (hb hby d41_6) rfl k) ?_
  refine own_p1 (putF X3825 hx hZ hown (host := "") (Or.inl (ww hw 280 rfl)) Via.refl e3825 u78 u32 (Or.inl (ww hw 281 rfl)) (ww hw 162 rfl) (ty := .long) (by decide) rfl rfl rfl rfl (hb hby d41_7)) fun T3826 h3826 X3826 e3826 W3826 => ?_
  have N0 := Fr.snoc X3826 N0 ge_q9
  have B0 := own_extW B0 W3826 (Nat.le_trans qH ge_q9)
  have u22 := u22.wr W3826
  have u23 := u23.wr W3826
  have u32 := u32.wr W3826
  have u36 := u36.other W3826 (Ne.symm ne_q9_q11)
  have u40 := u40.wr W3826
  have u41 := u41.other W3826 (Or.inl (Ne.symm ne_q9_q13))
  have u42 := u42.other W3826 (Or.inl (Ne.symm ne_q9_q13))
  have u48 := u48.other W3826 (Or.inl ne_q2_q9)
  have u50 := u50.other W3826 (Or.inl ne_q2_q9)
  have u57 := u57.other W3826 (Or.inl ne_q1_q9)
  have u58 := u58.other W3826 (Or.inl ne_q1_q9)
  have u70 := own_oth u70 W3826 (Or.inr (ww hw 191 rfl)) (Or.inl (ww hw 281 rfl)) (by decide)
  have u71 := own_oth u71 W3826 (Or.inr (ww hw 204 rfl)) (Or.inl (ww hw 281 rfl)) (by decide)
  have u72 := own_oth u72 W3826 (Or.inr (ww hw 230 rfl)) (Or.inl (ww hw 281 rfl)) (by decide)
  have u73 := own_oth u73 W3826 (Or.inr (ww hw 232 rfl)) (Or.inl (ww hw 281 rfl)) (by decide)
  have u74 := own_oth u74 W3826 (Or.inr (ww hw 234 rfl)) (Or.inl (ww hw 281 rfl)) (by decide)
  have u75 := own_oth u75 W3826 (Or.inr (ww hw 236 rfl)) (Or.inl (ww hw 281 rfl)) (by decide)
  have u76 := own_oth u76 W3826 (Or.inr (ww hw 260 rfl)) (Or.inl (ww hw 281 rfl)) (by decide)
  have u77 := own_oth u77 W3826 (Or.inr (ww hw 262 rfl)) (Or.inl (ww hw 281 rfl)) (by decide)
  have u78 := u78.same W3826
  have u79 := own_oth u79 W3826 (Or.inl (ww hw 283 rfl)) (Or.inl (ww hw 281 rfl)) (by decide)
  have u80 := own_oth u80 W3826 (Or.inl (ww hw 348 rfl)) (Or.inl (ww hw 281 rfl)) (by decide)
  have u81 := own_oth u81 W3826 (Or.inl (ww hw 443 rfl)) (Or.inl (ww hw 281 rfl)) (by decide)
  have u82 := u82.wr W3826
  have u84 := u84.other W3826 (Or.inl (Ne.symm ne_q9_q18))
  have Z0 := own_zw Z0 W3826
  have K0 := K0.wr W3826 mi_q9
  refine gb T3826 (mkF m 11 #[SA q9, SA q18, SA fE, SU, SU] [(.ref fE)]) (fun _ k => XS.aloadN X3826.here hx rfl (hb hby d41_10) rfl rfl k) ?_
  refine own_g1 (getS X3826 hx hZ (host := "") hown (ww hw 346 rfl) Via.refl e3826 (u0.ext B0) rfl (hb hby d41_11)) fun T3827 X3827 e3827 => ?_
  refine gb T3827 (mkF m 33 #[SA q9, SA q18, SA fE, SU, SU] []) (fun _ k => Jvm.RoadKit.acmp (g := (mkF m 14 #[SA q9, SA q18, SA fE, SU, SU] [(.ref fD), (.ref fE)])) X3827 hx rfl rfl rfl (pc0 := 14) (pc' := 33) (same := false) rfl (hb hby d41_14) rfl (decide_eq_false fun q => ne_fE_fD (Value.ref.inj q)) (by decide) (by decide) k) ?_
  refine gb T3827 (mkF m 34 #[SA q9, SA q18, SA fE, SU, SU] [(.ref q18)]) (fun _ k => XS.aloadN X3827.here hx rfl (hb hby d41_33) rfl rfl k) ?_
  refine own_c1 (callV X3827 hx hZ (y := mn3) hown (ww hw 355 rfl) (ww hw 356 rfl) (ww hw 358 rfl) (ww hw 357 rfl) (ww hw 359 rfl) (ww hw 286 rfl) (by decide) e3827 u82 (argsL := []) (rest := []) (W := 0) (au60_measured l Z a0 hw q18 h3826 n0 Z0 u84) rfl (by decide) (by decide) (by decide) (by decide) rfl (by rw [hml]; rfl) (lenOf pd0 rfl) rfl (by show 2 * 0 + _ ≤ _; exact Nat.le_of_eq rfl) (hb hby d41_34)) fun v3829 T3829 L3829 X3829 hQ3829 => ?_
  obtain ⟨rfl, NL3829, hk3829⟩ := hQ3829
  have N0 := Fr.app N0 NL3829
  refine gb T3829 (mkF m 40 #[SA q9, SA q18, SA fE, SU, SU] []) (fun _ k => XS.ifNo X3829.here hx rfl (hb hby d41_37) rfl (by decide) k) ?_
  refine gb T3829 (mkF m 43 #[SA q9, SA q18, SA fE, SU, SU] [(.ref fE), (.ref q18), (.ref q9)]) (fun _ k => XS.aloadN X3829.here hx rfl (hb hby d41_40) rfl rfl (XS.aloadN X3829.here hx rfl (hb hby d41_41) rfl rfl (XS.aloadN X3829.here hx rfl (hb hby d41_42) rfl rfl k))) ?_
  refine own_c1 (callP X3829 hx hZ (y := mn4) hown (ww hw 424 rfl) (ww hw 425 rfl) (ww hw 426 rfl) (ww hw 427 rfl) (ww hw 163 rfl) (ww hw 162 rfl) (by decide) hk3829 u32 (argsL := [(.ref q18), (.ref fE)]) (rest := []) (W := 0) (au66_count l Z a0 hw q9 q18 fE fD q11 Hs h3826 n0 Z0 u0 u8 u15 u36 u70 ne_fE_fD ge_q11 qH B0) rfl (by decide) (by decide) (by decide) (by decide) rfl (by rw [hml]; rfl) (lenOf pd29 rfl) rfl (by show 2 * 0 + _ ≤ _; exact Nat.le_of_eq rfl) (hb hby d41_43)) fun v3831 T3831 L3831 X3831 hQ3831 => ?_
  obtain ⟨rfl, NL3831, K3831, f3830⟩ := hQ3831
  have N0 := Fr.app N0 NL3831
  have e3831 : T3831.heap = T3831.heap := rfl
  have B0 := own_extK B0 K3831 (allS (Nat.le_trans qH ge_q11) all0)
  have u22 := u22.keep K3831
  have u23 := u23.keep K3831
  have u40 := u40.keep K3831
  have u41 := u41.keep K3831 (ninS (Ne.symm ne_q11_q13) nin0)
  have u42 := u42.keep K3831 (ninS (Ne.symm ne_q11_q13) nin0)
  have u48 := u48.keep K3831 (ninS ne_q2_q11 nin0)
  have u50 := u50.keep K3831 (ninS ne_q2_q11 nin0)
  have u57 := u57.keep K3831 (ninS ne_q1_q11 nin0)
  have u58 := u58.keep K3831 (ninS ne_q1_q11 nin0)
  have u70 := u70.keep K3831 (ninS ne_q9_q11 nin0)
  have u71 := u71.keep K3831 (ninS ne_q9_q11 nin0)
  have u72 := u72.keep K3831 (ninS ne_q9_q11 nin0)
  have u73 := u73.keep K3831 (ninS ne_q9_q11 nin0)
  have u74 := u74.keep K3831 (ninS ne_q9_q11 nin0)
  have u75 := u75.keep K3831 (ninS ne_q9_q11 nin0)
  have u76 := u76.keep K3831 (ninS ne_q9_q11 nin0)
  have u77 := u77.keep K3831 (ninS ne_q9_q11 nin0)
  have u78 := u78.keep K3831 (ninS ne_q9_q11 nin0)
  have u79 := u79.keep K3831 (ninS ne_q9_q11 nin0)
  have u80 := u80.keep K3831 (ninS ne_q9_q11 nin0)
  have u81 := u81.keep K3831 (ninS ne_q9_q11 nin0)
  have Z0 := Nat.le_trans Z0 K3831.1
  have K0 := K0.trans K3831 (allS mi_q11 all0)
  refine gb T3831 (mkF m 47 #[SA q9, SA q18, SA fE, SU, SU] [(.ref q9)]) (fun _ k => XS.aloadN X3831.here hx rfl (hb hby d41_46) rfl rfl k) ?_
  refine own_g1 (getF X3831 hx hZ hown (host := "") (Or.inl (ww hw 231 rfl)) Via.refl e3831 u73 rfl rfl (hb hby d41_47)) fun T3832 X3832 e3832 => ?_
  refine gb T3832 (mkF m 51 #[SA q9, SA q18, SA fE, SU, SU] [(.ref q9), (.ref q2)]) (fun _ k => XS.aloadN X3832.here hx rfl (hb hby d41_50) rfl rfl k) ?_
  refine own_g1 (getF X3832 hx hZ hown (host := "") (Or.inl (ww hw 229 rfl)) Via.refl e3832 u72 rfl rfl (hb hby d41_51)) fun T3833 X3833 e3833 => ?_
  refine own_c1 (callF X3833 hx hZ (xi := mn5) (y := mn6) hown (ww hw 246 rfl) (ww hw 247 rfl) (ww hw 248 rfl) (by decide) (ww hw 360 rfl) (ww hw 361 rfl) (ww hw 362 rfl) (ww hw 363 rfl) (ww hw 364 rfl) (ww hw 365 rfl) (ww hw 207 rfl) (by decide) e3833 u40 (argsL := []) (rest := [(.ref q2)]) (W := 1) (au50_size l Z a0 hw q13 (0 : Int32) T3831.heap n0 Z0 u42) rfl (by decide) (by decide) (by decide) (by decide) rfl (by rw [hml]; rfl) (lenOf pd19 rfl) rfl (by show 2 * 0 + _ ≤ _; exact Nat.le_of_eq rfl) (hb hby d41_54)) fun v3834 T3834 L3834 X3834 hQ3834 => ?_
  obtain ⟨rfl, NL3834, hk3834⟩ := hQ3834
  have N0 := Fr.app N0 NL3834
  refine gb T3834 (mkF m 60 #[SA q9, SA q18, SA fE, SU, SU] [(.long (0 : Int64)), (.ref q2)]) (fun _ k => XS.i2l X3834.here hx rfl (hb hby d41_59) rfl k) ?_
  refine own_c1 (callV X3834 hx hZ (y := mn7) hown (ww hw 368 rfl) (ww hw 369 rfl) (ww hw 371 rfl) (ww hw 370 rfl) (ww hw 372 rfl) (ww hw 28 rfl) (by decide) hk3834 u23 (argsL := [(.long (0 : Int64))]) (rest := []) (W := 0) (au52_spend l Z a0 hw q2 q1 y_50 T3831.heap n0 Z0 u22 u48 u50 u57 u58 ge_q1) rfl (by decide) (by decide) (by decide) (by decide) rfl (by rw [hml]; rfl) (lenOf pd3 rfl) rfl (by show 2 * 0 + _ ≤ _; exact Nat.le_of_eq rfl) (hb hby d41_60)) fun v3838 T3838 L3838 X3838 hQ3838 => ?_
  obtain ⟨rfl, NL3838, K3838, f3835, f3836⟩ := hQ3838
  have N0 := Fr.app N0 NL3838
  have e3838 : T3838.heap = T3838.heap := rfl
  have B0 := own_extK B0 K3838 (allS (Nat.le_trans qH ge_q1) all0)
  have u40 := u40.keep K3838
  have u41 := u41.keep K3838 (ninS (Ne.symm ne_q1_q13) nin0)
  have u42 := u42.keep K3838 (ninS (Ne.symm ne_q1_q13) nin0)
  have u70 := u70.keep K3838 (ninS (Ne.symm ne_q1_q9) nin0)
  have u71 := u71.keep K3838 (ninS (Ne.symm ne_q1_q9) nin0)
  have u72 := u72.keep K3838 (ninS (Ne.symm ne_q1_q9) nin0)
  have u73 := u73.keep K3838 (ninS (Ne.symm ne_q1_q9) nin0)
  have u74 := u74.keep K3838 (ninS (Ne.symm ne_q1_q9) nin0)
  have u75 := u75.keep K3838 (ninS (Ne.symm ne_q1_q9) nin0)
  have u76 := u76.keep K3838 (ninS (Ne.symm ne_q1_q9) nin0)
  have u77 := u77.keep K3838 (ninS (Ne.symm ne_q1_q9) nin0)
  have u78 := u78.keep K3838 (ninS (Ne.symm ne_q1_q9) nin0)
  have u79 := u79.keep K3838 (ninS (Ne.symm ne_q1_q9) nin0)
  have u80 := u80.keep K3838 (ninS (Ne.symm ne_q1_q9) nin0)
  have u81 := u81.keep K3838 (ninS (Ne.symm ne_q1_q9) nin0)
  have f3830 := f3830.keep K3838 (ninS (Ne.symm ne_q1_q11) nin0)
  have Z0 := Nat.le_trans Z0 K3838.1
  have K0 := K0.trans K3838 (allS mi_q1 all0)
  refine gb T3838 (mkF m 64 #[SA q9, SA q18, SA fE, SU, SU] [(.ref q9)]) (fun _ k => XS.aloadN X3838.here hx rfl (hb hby d41_63) rfl rfl k) ?_
  refine own_g1 (getF X3838 hx hZ hown (host := "") (Or.inl (ww hw 229 rfl)) Via.refl e3838 u72 rfl rfl (hb hby d41_64)) fun T3839 X3839 e3839 => ?_
  refine own_c1 (callF X3839 hx hZ (xi := mn12) (y := mn8) hown (ww hw 378 rfl) (ww hw 379 rfl) (ww hw 380 rfl) (by decide) (ww hw 381 rfl) (ww hw 382 rfl) (ww hw 383 rfl) (ww hw 384 rfl) (ww hw 364 rfl) (ww hw 385 rfl) (ww hw 207 rfl) (by decide) e3839 u40 (argsL := []) (rest := []) (W := 0) (au54_iterator l Z a0 hw q13 y_41 T3838.heap n0 Z0 u41) rfl (by decide) (by decide) (by decide) (by decide) rfl (by rw [hml]; rfl) (lenOf pd28 rfl) rfl (by show 2 * 0 + _ ≤ _; exact Nat.le_of_eq rfl) (hb hby d41_67)) fun v3843 T3843 L3843 X3843 hQ3843 => ?_
  obtain ⟨o41_1, rfl, NL3843, K3843, sz3843_o41_1, f3840, f3841, f3842⟩ := hQ3843
  have N0 := Fr.app N0 NL3843
  have ge_o41_1 : n0 ≤ o41_1 := Nat.le_trans Z0 sz3843_o41_1
  have sz_o41_1 : h0.size ≤ o41_1 := Nat.le_trans K0.1 sz3843_o41_1
  have e3843 : T3843.heap = T3843.heap := rfl
  have B0 := own_extK B0 K3843 all0
  have u42 := u42.keep K3843 nin0
  have u70 := u70.keep K3843 nin0
  have u71 := u71.keep K3843 nin0
  have u72 := u72.keep K3843 nin0
  have u73 := u73.keep K3843 nin0
  have u74 := u74.keep K3843 nin0
  have u75 := u75.keep K3843 nin0
  have u76 := u76.keep K3843 nin0
  have u77 := u77.keep K3843 nin0
  have u78 := u78.keep K3843 nin0
  have u79 := u79.keep K3843 nin0
  have u80 := u80.keep K3843 nin0
  have u81 := u81.keep K3843 nin0
  have f3830 := f3830.keep K3843 nin0
  have f3835 := f3835.keep K3843 nin0
  have f3836 := f3836.keep K3843 nin0
  have Z0 := Nat.le_trans Z0 K3843.1
  have K0 := K0.trans K3843 all0
  refine gb T3843 (mkF m 74 #[SA q9, SA q18, SA fE, SA o41_1, SU] [(.ref o41_1)]) (fun _ k => XS.astoreN X3843.here hx rfl (hb hby d41_72) rfl rfl (l' := #[SA q9, SA q18, SA fE, SA o41_1, SU]) rfl (XS.aloadN X3843.here hx rfl (hb hby d41_73) rfl rfl k)) ?_
  refine own_c1 (callF X3843 hx hZ (xi := mn13) (y := mn9) hown (ww hw 402 rfl) (ww hw 403 rfl) (ww hw 404 rfl) (by decide) (ww hw 405 rfl) (ww hw 406 rfl) (ww hw 407 rfl) (ww hw 408 rfl) (ww hw 409 rfl) (ww hw 410 rfl) (ww hw 388 rfl) (by decide) e3843 f3840 (argsL := []) (rest := []) (W := 0) (au55_hasNext l Z a0 hw o41_1 q13 T3843.heap n0 Z0 u42 f3841 f3842) rfl (by decide) (by decide) (by decide) (by decide) rfl (by rw [hml]; rfl) (lenOf pd0 rfl) rfl (by show 2 * 0 + _ ≤ _; exact Nat.le_of_eq rfl) (hb hby d41_74)) fun v3844 T3844 L3844 X3844 hQ3844 => ?_
  obtain ⟨rfl, NL3844, hk3844⟩ := hQ3844
  have N0 := Fr.app N0 NL3844
  refine gb T3844 (mkF m 104 #[SA q9, SA q18, SA fE, SA o41_1, SU] []) (fun _ k => XS.ifYes X3844.here hx rfl (pc0 := 79) (pc' := 104) rfl (hb hby d41_79) rfl (by decide) (by decide) (by decide) k) ?_
  exact outV X3844 hx hlk hret (hb hby d41_104) (by rw [hk3844]; exact ⟨rfl, N0, K0, u70, u71, u72, u73, u74, u75, u76, u77, u78, u79, u80, u81, f3830, f3835, f3836⟩) (by decide) (by decide)
set_option maxRecDepth 65536 in
set_option maxHeartbeats 40000000 in
theorem au68_count (l : Launch) (Z : State) (a0 : Array Value) (hw : ∀ d ∈ tables_1, d.before a0 Z = true) (q9 q18 fL fD q11 : Addr) (Hs : Heap) (h0 : Heap) (n0 : Nat) (Z0 : n0 ≤ h0.size) (u0 : Sta Z Hs sn8 "DELIVERED" sn25 (.ref fD)) (u9 : Exa Z Hs fL sn8) (u16 : Fld Z Hs fL sn22 "ordinal" "I" (.int (2 : Int32))) (u36 : Sar Z h0 q11 .long [(.long (0 : Int64)), (.long (0 : Int64)), (.long (0 : Int64)), (.long (0 : Int64))]) (u70 : Fld Z h0 q9 sn0 "left" "[J" (.ref q11)) (ne_fL_fD : fL ≠ fD) (ge_q11 : n0 ≤ q11) (qH : Hs.size ≤ n0) (B0 : Ext Hs h0) :
    Does l mn4 prog_35_method_6_code 6 none [] ({ frames := 1, cells := 0, slots := 0, locals := 13 } : Room) Z #[(.ref q9), (.ref q18), (.ref fL)] h0 (fun v h L => v = none ∧ Fr n0 L ∧ Keep h0 h [q11] ∧ Sar Z h q11 .long [(.long (0 : Int64)), (.long (0 : Int64)), (.long (1 : Int64)), (.long (0 : Int64))]) := by
  refine Does.of (plainFor_of_name pn0) ?_
  intro p e s m below meth c s₁ hx hby hml hret hlk hZ hown hnm X0 e0
  have N0 := Fr.nil n0
  refine Goes.cast (g' := mkF m 0 #[SA q9, SA q18, SA fL, SU, SU, SU] []) (ef_au64_count m q9 q18 fL) ?_
  have mi_q11 : q11 ∈ [q11] ∨ h0.size ≤ q11 := (Or.inl (List.mem_cons_self ..))
  have K0 := Keep.refl h0 [q11]
  refine gb s₁ (mkF m 1 #[SA q9, SA q18, SA fL, SU, SU, SU] [(.ref q9)]) (fun _ k => XS.aloadN X0.here hx rfl (hb hby d51_0) rfl rfl k) ?_
  refine own_g1 (getF X0 hx hZ hown (host := "") (Or.inl (ww hw 190 rfl)) Via.refl e0 u70 rfl rfl (hb hby d51_1)) fun T3893 X3893 e3893 => ?_
  refine gb T3893 (mkF m 5 #[SA q9, SA q18, SA fL, SU, SU, SU] [(.ref fL), (.ref q11)]) (fun _ k => XS.aloadN X3893.here hx rfl (hb hby d51_4) rfl rfl k) ?_
  refine own_c1 (callVU X3893 hx hZ (owner := sn22) (xi := mn27) (y := mn16) hown (ww hw 428 rfl) (ww hw 429 rfl) (ww hw 430 rfl) (by decide) (ww hw 432 rfl) (ww hw 431 rfl) (ww hw 434 rfl) (ww hw 433 rfl) e3893 (u9.ext B0) (argsL := []) (rest := [(.ref q11)]) (W := 1) (au61_ordinal l Z a0 hw fL (2 : Int32) Hs h0 n0 Z0 u16 qH B0) rfl (by decide) (by decide) (by decide) (by decide) rfl (by rw [hml]; rfl) (lenOf pd19 rfl) rfl (by show 2 * 0 + _ ≤ _; exact Nat.le_of_eq rfl) (hb hby d51_5)) fun v3894 T3894 L3894 X3894 hQ3894 => ?_
  obtain ⟨rfl, NL3894, hk3894⟩ := hQ3894
  have N0 := Fr.app N0 NL3894
  refine gb T3894 (mkF m 9 #[SA q9, SA q18, SA fL, SU, SU, SU] [(.int (2 : Int32)), (.ref q11), (.int (2 : Int32)), (.ref q11)]) (fun _ k => XT.dup2 X3894.here hx rfl (hb hby d51_8) rfl rfl rfl k) ?_
  refine gb T3894 (mkF m 10 #[SA q9, SA q18, SA fL, SU, SU, SU] [(.long (0 : Int64)), (.int (2 : Int32)), (.ref q11)]) (ldJS X3894 hx hZ hk3894 u36 (v := (.long (0 : Int64))) (j := (2 : Int32)) 2 (by decide) rfl (g := (mkF m 9 #[SA q9, SA q18, SA fL, SU, SU, SU] [(.int (2 : Int32)), (.ref q11), (.int (2 : Int32)), (.ref q11)])) rfl rfl (hb hby d51_9)) ?_
  refine gb T3894 (mkF m 11 #[SA q9, SA q18, SA fL, SU, SU, SU] [(.long (1 : Int64)), (.long (0 : Int64)), (.int (2 : Int32)), (.ref q11)]) (fun _ k => XS.lconst X3894.here hx rfl (hb hby d51_10)  k) ?_
  refine gb T3894 (mkF m 12 #[SA q9, SA q18, SA fL, SU, SU, SU] [(.long (1 : Int64)), (.int (2 : Int32)), (.ref q11)]) (fun _ k => XS.ladd X3894.here hx rfl (hb hby d51_11) rfl k) ?_
  obtain ⟨T3895, h3895, X3895, e3895, W3895, V3895, st3895⟩ := stJS X3894 hx hZ hk3894 u36 (j := (2 : Int32)) 2 (by decide) (by show 2 < 4; decide) (g := (mkF m 12 #[SA q9, SA q18, SA fL, SU, SU, SU] [(.long (1 : Int64)), (.int (2 : Int32)), (.ref q11)])) rfl rfl (hb hby d51_12)
  have N0 := Fr.snoc X3895 N0 ge_q11
  have B0 := own_extW B0 W3895 (Nat.le_trans qH ge_q11)
  have Z0 := own_zw Z0 W3895
  have K0 := K0.wr W3895 mi_q11
  have u36 : Sar Z h3895 q11 .long [(.long (0 : Int64)), (.long (0 : Int64)), (.long (1 : Int64)), (.long (0 : Int64))] := V3895
  refine gb T3895 (mkF m 13 #[SA q9, SA q18, SA fL, SU, SU, SU] []) st3895 ?_
  refine gb T3895 (mkF m 14 #[SA q9, SA q18, SA fL, SU, SU, SU] [(.ref fL)]) (fun _ k => XS.aloadN X3895.here hx rfl (hb hby d51_13) rfl rfl k) ?_
  refine own_g1 (getS X3895 hx hZ (host := "") hown (ww hw 346 rfl) Via.refl e3895 (u0.ext B0) rfl (hb hby d51_14)) fun T3896 X3896 e3896 => ?_
  refine gb T3896 (mkF m 93 #[SA q9, SA q18, SA fL, SU, SU, SU] []) (fun _ k => Jvm.RoadKit.acmp (g := (mkF m 17 #[SA q9, SA q18, SA fL, SU, SU, SU] [(.ref fD), (.ref fL)])) X3896 hx rfl rfl rfl (pc0 := 17) (pc' := 93) (same := false) rfl (hb hby d51_17) rfl (decide_eq_false fun q => ne_fL_fD (Value.ref.inj q)) (by decide) (by decide) k) ?_
  exact outV X3896 hx hlk hret (hb hby d51_93) (by rw [e3896]; exact ⟨rfl, N0, K0, u36⟩) (by decide) (by decide)
set_option maxRecDepth 65536 in
set_option maxHeartbeats 40000000 in
theorem au69_leave (l : Launch) (Z : State) (a0 : Array Value) (hw : ∀ d ∈ tables_1, d.before a0 Z = true) (q9 q18 fL fD q1 q2 q11 q13 q12 q10 q5 q14 q15 : Addr) (y_41 : Int32) (y_78 y_79 y_80 : Int64) (y_50 y_81 : UInt64) (Hs : Heap) (h0 : Heap) (n0 : Nat) (Z0 : n0 ≤ h0.size) (u0 : Sta Z Hs sn8 "DELIVERED" sn25 (.ref fD)) (u9 : Exa Z Hs fL sn8) (u16 : Fld Z Hs fL sn22 "ordinal" "I" (.int (2 : Int32))) (u22 : Exa Z h0 q1 sn5) (u23 : Exa Z h0 q2 sn2) (u32 : Exa Z h0 q9 sn0) (u36 : Sar Z h0 q11 .long [(.long (0 : Int64)), (.long (0 : Int64)), (.long (0 : Int64)), (.long (0 : Int64))]) (u40 : Exa Z h0 q13 sn9) (u41 : Fld Z h0 q13 sn23 "modCount" "I" (.int y_41)) (u42 : Fld Z h0 q13 sn9 "size" "I" (.int (0 : Int32))) (u48 : Fld Z h0 q2 sn2 "budget" sn16 (.ref q1)) (u50 : Fld Z h0 q2 sn2 "now" "D" (.double y_50)) (u57 : Fld Z h0 q1 sn5 "allowed" "J" (.long (1000 : Int64))) (u58 : Fld Z h0 q1 sn5 "spent" "J" (.long (2 : Int64))) (u70 : Fld Z h0 q9 sn0 "left" "[J" (.ref q11)) (u71 : Fld Z h0 q9 sn0 "responseTimes" sn19 (.ref q12)) (u72 : Fld Z h0 q9 sn0 "watchers" sn17 (.ref q13)) (u73 : Fld Z h0 q9 sn0 "simulation" sn14 (.ref q2)) (u74 : Fld Z h0 q9 sn0 "window" sn15 (.ref q10)) (u75 : Fld Z h0 q9 sn0 "measurement" sn6 (.ref q5)) (u76 : Fld Z h0 q9 sn0 "within" "[D" (.ref q14)) (u77 : Fld Z h0 q9 sn0 "deliveredBy" "[J" (.ref q15)) (u78 : Fld Z h0 q9 sn0 "inNetwork" "J" (.long y_78)) (u79 : Fld Z h0 q9 sn0 "produced" "J" (.long y_79)) (u80 : Fld Z h0 q9 sn0 sn18 "J" (.long y_80)) (u81 : Fld Z h0 q9 sn0 sn20 "D" (.double y_81)) (u82 : Exa Z h0 q18 sn7) (u84 : Fld Z h0 q18 sn7 "measured" "Z" (.int (1 : Int32))) (ne_fL_fD : fL ≠ fD) (ne_q1_q11 : q1 ≠ q11) (ne_q1_q13 : q1 ≠ q13) (ne_q1_q9 : q1 ≠ q9) (ne_q11_q13 : q11 ≠ q13) (ne_q2_q11 : q2 ≠ q11) (ne_q2_q9 : q2 ≠ q9) (ne_q9_q11 : q9 ≠ q11) (ne_q9_q13 : q9 ≠ q13) (ne_q9_q18 : q9 ≠ q18) (ge_q1 : n0 ≤ q1) (ge_q9 : n0 ≤ q9) (ge_q11 : n0 ≤ q11) (qH : Hs.size ≤ n0) (B0 : Ext Hs h0) :
    Does l mn1 prog_35_method_4_code 5 none [] ({ frames := 3, cells := 1, slots := 4, locals := 38 } : Room) Z #[(.ref q9), (.ref q18), (.ref fL)] h0 (fun v h L => v = none ∧ Fr n0 L ∧ Keep h0 h [q1, q9, q11] ∧ Fld Z h q9 sn0 "left" "[J" (.ref q11) ∧ Fld Z h q9 sn0 "responseTimes" sn19 (.ref q12) ∧ Fld Z h q9 sn0 "watchers" sn17 (.ref q13) ∧ Fld Z h q9 sn0 "simulation" sn14 (.ref q2) ∧ Fld Z h q9 sn0 "window" sn15 (.ref q10) ∧ Fld Z h q9 sn0 "measurement" sn6 (.ref q5) ∧ Fld Z h q9 sn0 "within" "[D" (.ref q14) ∧ Fld Z h q9 sn0 "deliveredBy" "[J" (.ref q15) ∧ Fld Z h q9 sn0 "inNetwork" "J" (.long (y_78 - (1 : Int64))) ∧ Fld Z h q9 sn0 "produced" "J" (.long y_79) ∧ Fld Z h q9 sn0 sn18 "J" (.long y_80) ∧ Fld Z h q9 sn0 sn20 "D" (.double y_81) ∧ Sar Z h q11 .long [(.long (0 : Int64)), (.long (0 : Int64)), (.long (1 : Int64)), (.long (0 : Int64))] ∧ Fld Z h q1 sn5 "allowed" "J" (.long (1000 : Int64)) ∧ Fld Z h q1 sn5 "spent" "J" (.long (2 : Int64))) := by
  refine Does.of (plainFor_of_name pn0) ?_
  intro p e s m below meth c s₁ hx hby hml hret hlk hZ hown hnm X0 e0
  have N0 := Fr.nil n0
  refine Goes.cast (g' := mkF m 0 #[SA q9, SA q18, SA fL, SU, SU] []) (ef_au56_leave m q9 q18 fL) ?_
  have mi_q1 : q1 ∈ [q1, q9, q11] ∨ h0.size ≤ q1 := (Or.inl (List.mem_cons_self ..))
  have mi_q9 : q9 ∈ [q1, q9, q11] ∨ h0.size ≤ q9 := (Or.inl (List.mem_cons_of_mem _ (List.mem_cons_self ..)))
  have mi_q11 : q11 ∈ [q1, q9, q11] ∨ h0.size ≤ q11 := (Or.inl (List.mem_cons_of_mem _ (List.mem_cons_of_mem _ (List.mem_cons_self ..))))
  have K0 := Keep.refl h0 [q1, q9, q11]
  refine gb s₁ (mkF m 2 #[SA q9, SA q18, SA fL, SU, SU] [(.ref q9), (.ref q9)]) (fun _ k => XS.aloadN X0.here hx rfl (hb hby d41_0) rfl rfl (XS.dup X0.here hx rfl (hb hby d41_1) rfl rfl k)) ?_
  refine own_g1 (getF X0 hx hZ hown (host := "") (Or.inl (ww hw 280 rfl)) Via.refl e0 u78 rfl rfl (hb hby d41_2)) fun T4008 X4008 e4008 => ?_
  refine gb T4008 (mkF m 6 #[SA q9, SA q18, SA fL, SU, SU] [(.long (1 : Int64)), (.long y_78), (.ref q9)]) (fun _ k => XS.lconst X4008.here hx rfl (hb hby d41_5)  k) ?_
  refine gb T4008 (mkF m 7 #[SA q9, SA q18, SA fL, SU, SU] [(.long (y_78 - (1 : Int64))), (.ref q9)]) (fun _ k => XS.lsub X4008.here hx rfl (hb hby d41_6) rfl k) ?_
  refine own_p1 (putF X4008 hx hZ hown (host := "") (Or.inl (ww hw 280 rfl)) Via.refl e4008 u78 u32 (Or.inl (ww hw 281 rfl)) (ww hw 162 rfl) (ty := .long) (by decide) rfl rfl rfl rfl (hb hby d41_7)) fun T4009 h4009 X4009 e4009 W4009 => ?_
  have N0 := Fr.snoc X4009 N0 ge_q9
  have B0 := own_extW B0 W4009 (Nat.le_trans qH ge_q9)
  have u22 := u22.wr W4009
  have u23 := u23.wr W4009
  have u32 := u32.wr W4009
  have u36 := u36.other W4009 (Ne.symm ne_q9_q11)
  have u40 := u40.wr W4009
  have u41 := u41.other W4009 (Or.inl (Ne.symm ne_q9_q13))
  have u42 := u42.other W4009 (Or.inl (Ne.symm ne_q9_q13))
  have u48 := u48.other W4009 (Or.inl ne_q2_q9)
  have u50 := u50.other W4009 (Or.inl ne_q2_q9)
  have u57 := u57.other W4009 (Or.inl ne_q1_q9)
  have u58 := u58.other W4009 (Or.inl ne_q1_q9)
  have u70 := own_oth u70 W4009 (Or.inr (ww hw 191 rfl)) (Or.inl (ww hw 281 rfl)) (by decide)
  have u71 := own_oth u71 W4009 (Or.inr (ww hw 204 rfl)) (Or.inl (ww hw 281 rfl)) (by decide)
  have u72 := own_oth u72 W4009 (Or.inr (ww hw 230 rfl)) (Or.inl (ww hw 281 rfl)) (by decide)
  have u73 := own_oth u73 W4009 (Or.inr (ww hw 232 rfl)) (Or.inl (ww hw 281 rfl)) (by decide)
  have u74 := own_oth u74 W4009 (Or.inr (ww hw 234 rfl)) (Or.inl (ww hw 281 rfl)) (by decide)
  have u75 := own_oth u75 W4009 (Or.inr (ww hw 236 rfl)) (Or.inl (ww hw 281 rfl)) (by decide)
  have u76 := own_oth u76 W4009 (Or.inr (ww hw 260 rfl)) (Or.inl (ww hw 281 rfl)) (by decide)
  have u77 := own_oth u77 W4009 (Or.inr (ww hw 262 rfl)) (Or.inl (ww hw 281 rfl)) (by decide)
  have u78 := u78.same W4009
  have u79 := own_oth u79 W4009 (Or.inl (ww hw 283 rfl)) (Or.inl (ww hw 281 rfl)) (by decide)
  have u80 := own_oth u80 W4009 (Or.inl (ww hw 348 rfl)) (Or.inl (ww hw 281 rfl)) (by decide)
  have u81 := own_oth u81 W4009 (Or.inl (ww hw 443 rfl)) (Or.inl (ww hw 281 rfl)) (by decide)
  have u82 := u82.wr W4009
  have u84 := u84.other W4009 (Or.inl (Ne.symm ne_q9_q18))
  have Z0 := own_zw Z0 W4009
  have K0 := K0.wr W4009 mi_q9
  refine gb T4009 (mkF m 11 #[SA q9, SA q18, SA fL, SU, SU] [(.ref fL)]) (fun _ k => XS.aloadN X4009.here hx rfl (hb hby d41_10) rfl rfl k) ?_
  refine own_g1 (getS X4009 hx hZ (host := "") hown (ww hw 346 rfl) Via.refl e4009 (u0.ext B0) rfl (hb hby d41_11)) fun T4010 X4010 e4010 => ?_
  refine gb T4010 (mkF m 33 #[SA q9, SA q18, SA fL, SU, SU] []) (fun _ k => Jvm.RoadKit.acmp (g := (mkF m 14 #[SA q9, SA q18, SA fL, SU, SU] [(.ref fD), (.ref fL)])) X4010 hx rfl rfl rfl (pc0 := 14) (pc' := 33) (same := false) rfl (hb hby d41_14) rfl (decide_eq_false fun q => ne_fL_fD (Value.ref.inj q)) (by decide) (by decide) k) ?_
  refine gb T4010 (mkF m 34 #[SA q9, SA q18, SA fL, SU, SU] [(.ref q18)]) (fun _ k => XS.aloadN X4010.here hx rfl (hb hby d41_33) rfl rfl k) ?_
  refine own_c1 (callV X4010 hx hZ (y := mn3) hown (ww hw 355 rfl) (ww hw 356 rfl) (ww hw 358 rfl) (ww hw 357 rfl) (ww hw 359 rfl) (ww hw 286 rfl) (by decide) e4010 u82 (argsL := []) (rest := []) (W := 0) (au60_measured l Z a0 hw q18 h4009 n0 Z0 u84) rfl (by decide) (by decide) (by decide) (by decide) rfl (by rw [hml]; rfl) (lenOf pd0 rfl) rfl (by show 2 * 0 + _ ≤ _; exact Nat.le_of_eq rfl) (hb hby d41_34)) fun v4012 T4012 L4012 X4012 hQ4012 => ?_
  obtain ⟨rfl, NL4012, hk4012⟩ := hQ4012
  have N0 := Fr.app N0 NL4012
  refine gb T4012 (mkF m 40 #[SA q9, SA q18, SA fL, SU, SU] []) (fun _ k => XS.ifNo X4012.here hx rfl (hb hby d41_37) rfl (by decide) k) ?_
  refine gb T4012 (mkF m 43 #[SA q9, SA q18, SA fL, SU, SU] [(.ref fL), (.ref q18), (.ref q9)]) (fun _ k => XS.aloadN X4012.here hx rfl (hb hby d41_40) rfl rfl (XS.aloadN X4012.here hx rfl (hb hby d41_41) rfl rfl (XS.aloadN X4012.here hx rfl (hb hby d41_42) rfl rfl k))) ?_
  refine own_c1 (callP X4012 hx hZ (y := mn4) hown (ww hw 424 rfl) (ww hw 425 rfl) (ww hw 426 rfl) (ww hw 427 rfl) (ww hw 163 rfl) (ww hw 162 rfl) (by decide) hk4012 u32 (argsL := [(.ref q18), (.ref fL)]) (rest := []) (W := 0) (au68_count l Z a0 hw q9 q18 fL fD q11 Hs h4009 n0 Z0 u0 u9 u16 u36 u70 ne_fL_fD ge_q11 qH B0) rfl (by decide) (by decide) (by decide) (by decide) rfl (by rw [hml]; rfl) (lenOf pd29 rfl) rfl (by show 2 * 0 + _ ≤ _; exact Nat.le_of_eq rfl) (hb hby d41_43)) fun v4014 T4014 L4014 X4014 hQ4014 => ?_
  obtain ⟨rfl, NL4014, K4014, f4013⟩ := hQ4014
  have N0 := Fr.app N0 NL4014
  have e4014 : T4014.heap = T4014.heap := rfl
  have B0 := own_extK B0 K4014 (allS (Nat.le_trans qH ge_q11) all0)
  have u22 := u22.keep K4014
  have u23 := u23.keep K4014
  have u40 := u40.keep K4014
  have u41 := u41.keep K4014 (ninS (Ne.symm ne_q11_q13) nin0)
  have u42 := u42.keep K4014 (ninS (Ne.symm ne_q11_q13) nin0)
  have u48 := u48.keep K4014 (ninS ne_q2_q11 nin0)
  have u50 := u50.keep K4014 (ninS ne_q2_q11 nin0)
  have u57 := u57.keep K4014 (ninS ne_q1_q11 nin0)
  have u58 := u58.keep K4014 (ninS ne_q1_q11 nin0)
  have u70 := u70.keep K4014 (ninS ne_q9_q11 nin0)
  have u71 := u71.keep K4014 (ninS ne_q9_q11 nin0)
  have u72 := u72.keep K4014 (ninS ne_q9_q11 nin0)
  have u73 := u73.keep K4014 (ninS ne_q9_q11 nin0)
  have u74 := u74.keep K4014 (ninS ne_q9_q11 nin0)
  have u75 := u75.keep K4014 (ninS ne_q9_q11 nin0)
  have u76 := u76.keep K4014 (ninS ne_q9_q11 nin0)
  have u77 := u77.keep K4014 (ninS ne_q9_q11 nin0)
  have u78 := u78.keep K4014 (ninS ne_q9_q11 nin0)
  have u79 := u79.keep K4014 (ninS ne_q9_q11 nin0)
  have u80 := u80.keep K4014 (ninS ne_q9_q11 nin0)
  have u81 := u81.keep K4014 (ninS ne_q9_q11 nin0)
  have Z0 := Nat.le_trans Z0 K4014.1
  have K0 := K0.trans K4014 (allS mi_q11 all0)
  refine gb T4014 (mkF m 47 #[SA q9, SA q18, SA fL, SU, SU] [(.ref q9)]) (fun _ k => XS.aloadN X4014.here hx rfl (hb hby d41_46) rfl rfl k) ?_
  refine own_g1 (getF X4014 hx hZ hown (host := "") (Or.inl (ww hw 231 rfl)) Via.refl e4014 u73 rfl rfl (hb hby d41_47)) fun T4015 X4015 e4015 => ?_
  refine gb T4015 (mkF m 51 #[SA q9, SA q18, SA fL, SU, SU] [(.ref q9), (.ref q2)]) (fun _ k => XS.aloadN X4015.here hx rfl (hb hby d41_50) rfl rfl k) ?_
  refine own_g1 (getF X4015 hx hZ hown (host := "") (Or.inl (ww hw 229 rfl)) Via.refl e4015 u72 rfl rfl (hb hby d41_51)) fun T4016 X4016 e4016 => ?_
  refine own_c1 (callF X4016 hx hZ (xi := mn5) (y := mn6) hown (ww hw 246 rfl) (ww hw 247 rfl) (ww hw 248 rfl) (by decide) (ww hw 360 rfl) (ww hw 361 rfl) (ww hw 362 rfl) (ww hw 363 rfl) (ww hw 364 rfl) (ww hw 365 rfl) (ww hw 207 rfl) (by decide) e4016 u40 (argsL := []) (rest := [(.ref q2)]) (W := 1) (au50_size l Z a0 hw q13 (0 : Int32) T4014.heap n0 Z0 u42) rfl (by decide) (by decide) (by decide) (by decide) rfl (by rw [hml]; rfl) (lenOf pd19 rfl) rfl (by show 2 * 0 + _ ≤ _; exact Nat.le_of_eq rfl) (hb hby d41_54)) fun v4017 T4017 L4017 X4017 hQ4017 => ?_
  obtain ⟨rfl, NL4017, hk4017⟩ := hQ4017
  have N0 := Fr.app N0 NL4017
  refine gb T4017 (mkF m 60 #[SA q9, SA q18, SA fL, SU, SU] [(.long (0 : Int64)), (.ref q2)]) (fun _ k => XS.i2l X4017.here hx rfl (hb hby d41_59) rfl k) ?_
  refine own_c1 (callV X4017 hx hZ (y := mn7) hown (ww hw 368 rfl) (ww hw 369 rfl) (ww hw 371 rfl) (ww hw 370 rfl) (ww hw 372 rfl) (ww hw 28 rfl) (by decide) hk4017 u23 (argsL := [(.long (0 : Int64))]) (rest := []) (W := 0) (au52_spend l Z a0 hw q2 q1 y_50 T4014.heap n0 Z0 u22 u48 u50 u57 u58 ge_q1) rfl (by decide) (by decide) (by decide) (by decide) rfl (by rw [hml]; rfl) (lenOf pd3 rfl) rfl (by show 2 * 0 + _ ≤ _; exact Nat.le_of_eq rfl) (hb hby d41_60)) fun v4021 T4021 L4021 X4021 hQ4021 => ?_
  obtain ⟨rfl, NL4021, K4021, f4018, f4019⟩ := hQ4021
  have N0 := Fr.app N0 NL4021
  have e4021 : T4021.heap = T4021.heap := rfl
  have B0 := own_extK B0 K4021 (allS (Nat.le_trans qH ge_q1) all0)
  have u40 := u40.keep K4021
  have u41 := u41.keep K4021 (ninS (Ne.symm ne_q1_q13) nin0)
  have u42 := u42.keep K4021 (ninS (Ne.symm ne_q1_q13) nin0)
  have u70 := u70.keep K4021 (ninS (Ne.symm ne_q1_q9) nin0)
  have u71 := u71.keep K4021 (ninS (Ne.symm ne_q1_q9) nin0)
  have u72 := u72.keep K4021 (ninS (Ne.symm ne_q1_q9) nin0)
  have u73 := u73.keep K4021 (ninS (Ne.symm ne_q1_q9) nin0)
  have u74 := u74.keep K4021 (ninS (Ne.symm ne_q1_q9) nin0)
  have u75 := u75.keep K4021 (ninS (Ne.symm ne_q1_q9) nin0)
  have u76 := u76.keep K4021 (ninS (Ne.symm ne_q1_q9) nin0)
  have u77 := u77.keep K4021 (ninS (Ne.symm ne_q1_q9) nin0)
  have u78 := u78.keep K4021 (ninS (Ne.symm ne_q1_q9) nin0)
  have u79 := u79.keep K4021 (ninS (Ne.symm ne_q1_q9) nin0)
  have u80 := u80.keep K4021 (ninS (Ne.symm ne_q1_q9) nin0)
  have u81 := u81.keep K4021 (ninS (Ne.symm ne_q1_q9) nin0)
  have f4013 := f4013.keep K4021 (ninS (Ne.symm ne_q1_q11) nin0)
  have Z0 := Nat.le_trans Z0 K4021.1
  have K0 := K0.trans K4021 (allS mi_q1 all0)
  refine gb T4021 (mkF m 64 #[SA q9, SA q18, SA fL, SU, SU] [(.ref q9)]) (fun _ k => XS.aloadN X4021.here hx rfl (hb hby d41_63) rfl rfl k) ?_
  refine own_g1 (getF X4021 hx hZ hown (host := "") (Or.inl (ww hw 229 rfl)) Via.refl e4021 u72 rfl rfl (hb hby d41_64)) fun T4022 X4022 e4022 => ?_
  refine own_c1 (callF X4022 hx hZ (xi := mn12) (y := mn8) hown (ww hw 378 rfl) (ww hw 379 rfl) (ww hw 380 rfl) (by decide) (ww hw 381 rfl) (ww hw 382 rfl) (ww hw 383 rfl) (ww hw 384 rfl) (ww hw 364 rfl) (ww hw 385 rfl) (ww hw 207 rfl) (by decide) e4022 u40 (argsL := []) (rest := []) (W := 0) (au54_iterator l Z a0 hw q13 y_41 T4021.heap n0 Z0 u41) rfl (by decide) (by decide) (by decide) (by decide) rfl (by rw [hml]; rfl) (lenOf pd28 rfl) rfl (by show 2 * 0 + _ ≤ _; exact Nat.le_of_eq rfl) (hb hby d41_67)) fun v4026 T4026 L4026 X4026 hQ4026 => ?_
  obtain ⟨o41_1, rfl, NL4026, K4026, sz4026_o41_1, f4023, f4024, f4025⟩ := hQ4026
  have N0 := Fr.app N0 NL4026
  have ge_o41_1 : n0 ≤ o41_1 := Nat.le_trans Z0 sz4026_o41_1
  have sz_o41_1 : h0.size ≤ o41_1 := Nat.le_trans K0.1 sz4026_o41_1
  have e4026 : T4026.heap = T4026.heap := rfl
  have B0 := own_extK B0 K4026 all0
  have u42 := u42.keep K4026 nin0
  have u70 := u70.keep K4026 nin0
  have u71 := u71.keep K4026 nin0
  have u72 := u72.keep K4026 nin0
  have u73 := u73.keep K4026 nin0
  have u74 := u74.keep K4026 nin0
  have u75 := u75.keep K4026 nin0
  have u76 := u76.keep K4026 nin0
  have u77 := u77.keep K4026 nin0
  have u78 := u78.keep K4026 nin0
  have u79 := u79.keep K4026 nin0
  have u80 := u80.keep K4026 nin0
  have u81 := u81.keep K4026 nin0
  have f4013 := f4013.keep K4026 nin0
  have f4018 := f4018.keep K4026 nin0
  have f4019 := f4019.keep K4026 nin0
  have Z0 := Nat.le_trans Z0 K4026.1
  have K0 := K0.trans K4026 all0
  refine gb T4026 (mkF m 74 #[SA q9, SA q18, SA fL, SA o41_1, SU] [(.ref o41_1)]) (fun _ k => XS.astoreN X4026.here hx rfl (hb hby d41_72) rfl rfl (l' := #[SA q9, SA q18, SA fL, SA o41_1, SU]) rfl (XS.aloadN X4026.here hx rfl (hb hby d41_73) rfl rfl k)) ?_
  refine own_c1 (callF X4026 hx hZ (xi := mn13) (y := mn9) hown (ww hw 402 rfl) (ww hw 403 rfl) (ww hw 404 rfl) (by decide) (ww hw 405 rfl) (ww hw 406 rfl) (ww hw 407 rfl) (ww hw 408 rfl) (ww hw 409 rfl) (ww hw 410 rfl) (ww hw 388 rfl) (by decide) e4026 f4023 (argsL := []) (rest := []) (W := 0) (au55_hasNext l Z a0 hw o41_1 q13 T4026.heap n0 Z0 u42 f4024 f4025) rfl (by decide) (by decide) (by decide) (by decide) rfl (by rw [hml]; rfl) (lenOf pd0 rfl) rfl (by show 2 * 0 + _ ≤ _; exact Nat.le_of_eq rfl) (hb hby d41_74)) fun v4027 T4027 L4027 X4027 hQ4027 => ?_
  obtain ⟨rfl, NL4027, hk4027⟩ := hQ4027
  have N0 := Fr.app N0 NL4027
  refine gb T4027 (mkF m 104 #[SA q9, SA q18, SA fL, SA o41_1, SU] []) (fun _ k => XS.ifYes X4027.here hx rfl (pc0 := 79) (pc' := 104) rfl (hb hby d41_79) rfl (by decide) (by decide) (by decide) k) ?_
  exact outV X4027 hx hlk hret (hb hby d41_104) (by rw [hk4027]; exact ⟨rfl, N0, K0, u70, u71, u72, u73, u74, u75, u76, u77, u78, u79, u80, u81, f4013, f4018, f4019⟩) (by decide) (by decide)
set_option maxRecDepth 65536 in
set_option maxHeartbeats 40000000 in
theorem au70_count (l : Launch) (Z : State) (a0 : Array Value) (hw : ∀ d ∈ tables_1, d.before a0 Z = true) (q9 q18 fR fD q11 : Addr) (Hs : Heap) (h0 : Heap) (n0 : Nat) (Z0 : n0 ≤ h0.size) (u0 : Sta Z Hs sn8 "DELIVERED" sn25 (.ref fD)) (u10 : Exa Z Hs fR sn8) (u17 : Fld Z Hs fR sn22 "ordinal" "I" (.int (3 : Int32))) (u36 : Sar Z h0 q11 .long [(.long (0 : Int64)), (.long (0 : Int64)), (.long (0 : Int64)), (.long (0 : Int64))]) (u70 : Fld Z h0 q9 sn0 "left" "[J" (.ref q11)) (ne_fR_fD : fR ≠ fD) (ge_q11 : n0 ≤ q11) (qH : Hs.size ≤ n0) (B0 : Ext Hs h0) :
    Does l mn4 prog_35_method_6_code 6 none [] ({ frames := 1, cells := 0, slots := 0, locals := 13 } : Room) Z #[(.ref q9), (.ref q18), (.ref fR)] h0 (fun v h L => v = none ∧ Fr n0 L ∧ Keep h0 h [q11] ∧ Sar Z h q11 .long [(.long (0 : Int64)), (.long (0 : Int64)), (.long (0 : Int64)), (.long (1 : Int64))]) := by
  refine Does.of (plainFor_of_name pn0) ?_
  intro p e s m below meth c s₁ hx hby hml hret hlk hZ hown hnm X0 e0
  have N0 := Fr.nil n0
  refine Goes.cast (g' := mkF m 0 #[SA q9, SA q18, SA fR, SU, SU, SU] []) (ef_au64_count m q9 q18 fR) ?_
  have mi_q11 : q11 ∈ [q11] ∨ h0.size ≤ q11 := (Or.inl (List.mem_cons_self ..))
  have K0 := Keep.refl h0 [q11]
  refine gb s₁ (mkF m 1 #[SA q9, SA q18, SA fR, SU, SU, SU] [(.ref q9)]) (fun _ k => XS.aloadN X0.here hx rfl (hb hby d51_0) rfl rfl k) ?_
  refine own_g1 (getF X0 hx hZ hown (host := "") (Or.inl (ww hw 190 rfl)) Via.refl e0 u70 rfl rfl (hb hby d51_1)) fun T4076 X4076 e4076 => ?_
  refine gb T4076 (mkF m 5 #[SA q9, SA q18, SA fR, SU, SU, SU] [(.ref fR), (.ref q11)]) (fun _ k => XS.aloadN X4076.here hx rfl (hb hby d51_4) rfl rfl k) ?_
  refine own_c1 (callVU X4076 hx hZ (owner := sn22) (xi := mn27) (y := mn16) hown (ww hw 428 rfl) (ww hw 429 rfl) (ww hw 430 rfl) (by decide) (ww hw 432 rfl) (ww hw 431 rfl) (ww hw 434 rfl) (ww hw 433 rfl) e4076 (u10.ext B0) (argsL := []) (rest := [(.ref q11)]) (W := 1) (au61_ordinal l Z a0 hw fR (3 : Int32) Hs h0 n0 Z0 u17 qH B0) rfl (by decide) (by decide) (by decide) (by decide) rfl (by rw [hml]; rfl) (lenOf pd19 rfl) rfl (by show 2 * 0 + _ ≤ _; exact Nat.le_of_eq rfl) (hb hby d51_5)) fun v4077 T4077 L4077 X4077 hQ4077 => ?_
  obtain ⟨rfl, NL4077, hk4077⟩ := hQ4077
  have N0 := Fr.app N0 NL4077
  refine gb T4077 (mkF m 9 #[SA q9, SA q18, SA fR, SU, SU, SU] [(.int (3 : Int32)), (.ref q11), (.int (3 : Int32)), (.ref q11)]) (fun _ k => XT.dup2 X4077.here hx rfl (hb hby d51_8) rfl rfl rfl k) ?_
  refine gb T4077 (mkF m 10 #[SA q9, SA q18, SA fR, SU, SU, SU] [(.long (0 : Int64)), (.int (3 : Int32)), (.ref q11)]) (ldJS X4077 hx hZ hk4077 u36 (v := (.long (0 : Int64))) (j := (3 : Int32)) 3 (by decide) rfl (g := (mkF m 9 #[SA q9, SA q18, SA fR, SU, SU, SU] [(.int (3 : Int32)), (.ref q11), (.int (3 : Int32)), (.ref q11)])) rfl rfl (hb hby d51_9)) ?_
  refine gb T4077 (mkF m 11 #[SA q9, SA q18, SA fR, SU, SU, SU] [(.long (1 : Int64)), (.long (0 : Int64)), (.int (3 : Int32)), (.ref q11)]) (fun _ k => XS.lconst X4077.here hx rfl (hb hby d51_10)  k) ?_
  refine gb T4077 (mkF m 12 #[SA q9, SA q18, SA fR, SU, SU, SU] [(.long (1 : Int64)), (.int (3 : Int32)), (.ref q11)]) (fun _ k => XS.ladd X4077.here hx rfl (hb hby d51_11) rfl k) ?_
  obtain ⟨T4078, h4078, X4078, e4078, W4078, V4078, st4078⟩ := stJS X4077 hx hZ hk4077 u36 (j := (3 : Int32)) 3 (by decide) (by show 3 < 4; decide) (g := (mkF m 12 #[SA q9, SA q18, SA fR, SU, SU, SU] [(.long (1 : Int64)), (.int (3 : Int32)), (.ref q11)])) rfl rfl (hb hby d51_12)
  have N0 := Fr.snoc X4078 N0 ge_q11
  have B0 := own_extW B0 W4078 (Nat.le_trans qH ge_q11)
  have Z0 := own_zw Z0 W4078
  have K0 := K0.wr W4078 mi_q11
  have u36 : Sar Z h4078 q11 .long [(.long (0 : Int64)), (.long (0 : Int64)), (.long (0 : Int64)), (.long (1 : Int64))] := V4078
  refine gb T4078 (mkF m 13 #[SA q9, SA q18, SA fR, SU, SU, SU] []) st4078 ?_
  refine gb T4078 (mkF m 14 #[SA q9, SA q18, SA fR, SU, SU, SU] [(.ref fR)]) (fun _ k => XS.aloadN X4078.here hx rfl (hb hby d51_13) rfl rfl k) ?_
  refine own_g1 (getS X4078 hx hZ (host := "") hown (ww hw 346 rfl) Via.refl e4078 (u0.ext B0) rfl (hb hby d51_14)) fun T4079 X4079 e4079 => ?_
  refine gb T4079 (mkF m 93 #[SA q9, SA q18, SA fR, SU, SU, SU] []) (fun _ k => Jvm.RoadKit.acmp (g := (mkF m 17 #[SA q9, SA q18, SA fR, SU, SU, SU] [(.ref fD), (.ref fR)])) X4079 hx rfl rfl rfl (pc0 := 17) (pc' := 93) (same := false) rfl (hb hby d51_17) rfl (decide_eq_false fun q => ne_fR_fD (Value.ref.inj q)) (by decide) (by decide) k) ?_
  exact outV X4079 hx hlk hret (hb hby d51_93) (by rw [e4079]; exact ⟨rfl, N0, K0, u36⟩) (by decide) (by decide)
set_option maxRecDepth 65536 in
set_option maxHeartbeats 40000000 in
theorem au71_leave (l : Launch) (Z : State) (a0 : Array Value) (hw : ∀ d ∈ tables_1, d.before a0 Z = true) (q9 q18 fR fD q1 q2 q11 q13 q12 q10 q5 q14 q15 : Addr) (y_41 : Int32) (y_78 y_79 y_80 : Int64) (y_50 y_81 : UInt64) (Hs : Heap) (h0 : Heap) (n0 : Nat) (Z0 : n0 ≤ h0.size) (u0 : Sta Z Hs sn8 "DELIVERED" sn25 (.ref fD)) (u10 : Exa Z Hs fR sn8) (u17 : Fld Z Hs fR sn22 "ordinal" "I" (.int (3 : Int32))) (u22 : Exa Z h0 q1 sn5) (u23 : Exa Z h0 q2 sn2) (u32 : Exa Z h0 q9 sn0) (u36 : Sar Z h0 q11 .long [(.long (0 : Int64)), (.long (0 : Int64)), (.long (0 : Int64)), (.long (0 : Int64))]) (u40 : Exa Z h0 q13 sn9) (u41 : Fld Z h0 q13 sn23 "modCount" "I" (.int y_41)) (u42 : Fld Z h0 q13 sn9 "size" "I" (.int (0 : Int32))) (u48 : Fld Z h0 q2 sn2 "budget" sn16 (.ref q1)) (u50 : Fld Z h0 q2 sn2 "now" "D" (.double y_50)) (u57 : Fld Z h0 q1 sn5 "allowed" "J" (.long (1000 : Int64))) (u58 : Fld Z h0 q1 sn5 "spent" "J" (.long (2 : Int64))) (u70 : Fld Z h0 q9 sn0 "left" "[J" (.ref q11)) (u71 : Fld Z h0 q9 sn0 "responseTimes" sn19 (.ref q12)) (u72 : Fld Z h0 q9 sn0 "watchers" sn17 (.ref q13)) (u73 : Fld Z h0 q9 sn0 "simulation" sn14 (.ref q2)) (u74 : Fld Z h0 q9 sn0 "window" sn15 (.ref q10)) (u75 : Fld Z h0 q9 sn0 "measurement" sn6 (.ref q5)) (u76 : Fld Z h0 q9 sn0 "within" "[D" (.ref q14)) (u77 : Fld Z h0 q9 sn0 "deliveredBy" "[J" (.ref q15)) (u78 : Fld Z h0 q9 sn0 "inNetwork" "J" (.long y_78)) (u79 : Fld Z h0 q9 sn0 "produced" "J" (.long y_79)) (u80 : Fld Z h0 q9 sn0 sn18 "J" (.long y_80)) (u81 : Fld Z h0 q9 sn0 sn20 "D" (.double y_81)) (u82 : Exa Z h0 q18 sn7) (u84 : Fld Z h0 q18 sn7 "measured" "Z" (.int (1 : Int32))) (ne_fR_fD : fR ≠ fD) (ne_q1_q11 : q1 ≠ q11) (ne_q1_q13 : q1 ≠ q13) (ne_q1_q9 : q1 ≠ q9) (ne_q11_q13 : q11 ≠ q13) (ne_q2_q11 : q2 ≠ q11) (ne_q2_q9 : q2 ≠ q9) (ne_q9_q11 : q9 ≠ q11) (ne_q9_q13 : q9 ≠ q13) (ne_q9_q18 : q9 ≠ q18) (ge_q1 : n0 ≤ q1) (ge_q9 : n0 ≤ q9) (ge_q11 : n0 ≤ q11) (qH : Hs.size ≤ n0) (B0 : Ext Hs h0) :
    Does l mn1 prog_35_method_4_code 5 none [] ({ frames := 3, cells := 1, slots := 4, locals := 38 } : Room) Z #[(.ref q9), (.ref q18), (.ref fR)] h0 (fun v h L => v = none ∧ Fr n0 L ∧ Keep h0 h [q1, q9, q11] ∧ Fld Z h q9 sn0 "left" "[J" (.ref q11) ∧ Fld Z h q9 sn0 "responseTimes" sn19 (.ref q12) ∧ Fld Z h q9 sn0 "watchers" sn17 (.ref q13) ∧ Fld Z h q9 sn0 "simulation" sn14 (.ref q2) ∧ Fld Z h q9 sn0 "window" sn15 (.ref q10) ∧ Fld Z h q9 sn0 "measurement" sn6 (.ref q5) ∧ Fld Z h q9 sn0 "within" "[D" (.ref q14) ∧ Fld Z h q9 sn0 "deliveredBy" "[J" (.ref q15) ∧ Fld Z h q9 sn0 "inNetwork" "J" (.long (y_78 - (1 : Int64))) ∧ Fld Z h q9 sn0 "produced" "J" (.long y_79) ∧ Fld Z h q9 sn0 sn18 "J" (.long y_80) ∧ Fld Z h q9 sn0 sn20 "D" (.double y_81) ∧ Sar Z h q11 .long [(.long (0 : Int64)), (.long (0 : Int64)), (.long (0 : Int64)), (.long (1 : Int64))] ∧ Fld Z h q1 sn5 "allowed" "J" (.long (1000 : Int64)) ∧ Fld Z h q1 sn5 "spent" "J" (.long (2 : Int64))) := by
  refine Does.of (plainFor_of_name pn0) ?_
  intro p e s m below meth c s₁ hx hby hml hret hlk hZ hown hnm X0 e0
  have N0 := Fr.nil n0
  refine Goes.cast (g' := mkF m 0 #[SA q9, SA q18, SA fR, SU, SU] []) (ef_au56_leave m q9 q18 fR) ?_
  have mi_q1 : q1 ∈ [q1, q9, q11] ∨ h0.size ≤ q1 := (Or.inl (List.mem_cons_self ..))
  have mi_q9 : q9 ∈ [q1, q9, q11] ∨ h0.size ≤ q9 := (Or.inl (List.mem_cons_of_mem _ (List.mem_cons_self ..)))
  have mi_q11 : q11 ∈ [q1, q9, q11] ∨ h0.size ≤ q11 := (Or.inl (List.mem_cons_of_mem _ (List.mem_cons_of_mem _ (List.mem_cons_self ..))))
  have K0 := Keep.refl h0 [q1, q9, q11]
  refine gb s₁ (mkF m 2 #[SA q9, SA q18, SA fR, SU, SU] [(.ref q9), (.ref q9)]) (fun _ k => XS.aloadN X0.here hx rfl (hb hby d41_0) rfl rfl (XS.dup X0.here hx rfl (hb hby d41_1) rfl rfl k)) ?_
  refine own_g1 (getF X0 hx hZ hown (host := "") (Or.inl (ww hw 280 rfl)) Via.refl e0 u78 rfl rfl (hb hby d41_2)) fun T4191 X4191 e4191 => ?_
  refine gb T4191 (mkF m 6 #[SA q9, SA q18, SA fR, SU, SU] [(.long (1 : Int64)), (.long y_78), (.ref q9)]) (fun _ k => XS.lconst X4191.here hx rfl (hb hby d41_5)  k) ?_
  refine gb T4191 (mkF m 7 #[SA q9, SA q18, SA fR, SU, SU] [(.long (y_78 - (1 : Int64))), (.ref q9)]) (fun _ k => XS.lsub X4191.here hx rfl (hb hby d41_6) rfl k) ?_
  refine own_p1 (putF X4191 hx hZ hown (host := "") (Or.inl (ww hw 280 rfl)) Via.refl e4191 u78 u32 (Or.inl (ww hw 281 rfl)) (ww hw 162 rfl) (ty := .long) (by decide) rfl rfl rfl rfl (hb hby d41_7)) fun T4192 h4192 X4192 e4192 W4192 => ?_
  have N0 := Fr.snoc X4192 N0 ge_q9
  have B0 := own_extW B0 W4192 (Nat.le_trans qH ge_q9)
  have u22 := u22.wr W4192
  have u23 := u23.wr W4192
  have u32 := u32.wr W4192
  have u36 := u36.other W4192 (Ne.symm ne_q9_q11)
  have u40 := u40.wr W4192
  have u41 := u41.other W4192 (Or.inl (Ne.symm ne_q9_q13))
  have u42 := u42.other W4192 (Or.inl (Ne.symm ne_q9_q13))
  have u48 := u48.other W4192 (Or.inl ne_q2_q9)
  have u50 := u50.other W4192 (Or.inl ne_q2_q9)
  have u57 := u57.other W4192 (Or.inl ne_q1_q9)
  have u58 := u58.other W4192 (Or.inl ne_q1_q9)
  have u70 := own_oth u70 W4192 (Or.inr (ww hw 191 rfl)) (Or.inl (ww hw 281 rfl)) (by decide)
  have u71 := own_oth u71 W4192 (Or.inr (ww hw 204 rfl)) (Or.inl (ww hw 281 rfl)) (by decide)
  have u72 := own_oth u72 W4192 (Or.inr (ww hw 230 rfl)) (Or.inl (ww hw 281 rfl)) (by decide)
  have u73 := own_oth u73 W4192 (Or.inr (ww hw 232 rfl)) (Or.inl (ww hw 281 rfl)) (by decide)
  have u74 := own_oth u74 W4192 (Or.inr (ww hw 234 rfl)) (Or.inl (ww hw 281 rfl)) (by decide)
  have u75 := own_oth u75 W4192 (Or.inr (ww hw 236 rfl)) (Or.inl (ww hw 281 rfl)) (by decide)
  have u76 := own_oth u76 W4192 (Or.inr (ww hw 260 rfl)) (Or.inl (ww hw 281 rfl)) (by decide)
  have u77 := own_oth u77 W4192 (Or.inr (ww hw 262 rfl)) (Or.inl (ww hw 281 rfl)) (by decide)
  have u78 := u78.same W4192
  have u79 := own_oth u79 W4192 (Or.inl (ww hw 283 rfl)) (Or.inl (ww hw 281 rfl)) (by decide)
  have u80 := own_oth u80 W4192 (Or.inl (ww hw 348 rfl)) (Or.inl (ww hw 281 rfl)) (by decide)
  have u81 := own_oth u81 W4192 (Or.inl (ww hw 443 rfl)) (Or.inl (ww hw 281 rfl)) (by decide)
  have u82 := u82.wr W4192
  have u84 := u84.other W4192 (Or.inl (Ne.symm ne_q9_q18))
  have Z0 := own_zw Z0 W4192
  have K0 := K0.wr W4192 mi_q9
  refine gb T4192 (mkF m 11 #[SA q9, SA q18, SA fR, SU, SU] [(.ref fR)]) (fun _ k => XS.aloadN X4192.here hx rfl (hb hby d41_10) rfl rfl k) ?_
  refine own_g1 (getS X4192 hx hZ (host := "") hown (ww hw 346 rfl) Via.refl e4192 (u0.ext B0) rfl (hb hby d41_11)) fun T4193 X4193 e4193 => ?_
  refine gb T4193 (mkF m 33 #[SA q9, SA q18, SA fR, SU, SU] []) (fun _ k => Jvm.RoadKit.acmp (g := (mkF m 14 #[SA q9, SA q18, SA fR, SU, SU] [(.ref fD), (.ref fR)])) X4193 hx rfl rfl rfl (pc0 := 14) (pc' := 33) (same := false) rfl (hb hby d41_14) rfl (decide_eq_false fun q => ne_fR_fD (Value.ref.inj q)) (by decide) (by decide) k) ?_
  refine gb T4193 (mkF m 34 #[SA q9, SA q18, SA fR, SU, SU] [(.ref q18)]) (fun _ k => XS.aloadN X4193.here hx rfl (hb hby d41_33) rfl rfl k) ?_
  refine own_c1 (callV X4193 hx hZ (y := mn3) hown (ww hw 355 rfl) (ww hw 356 rfl) (ww hw 358 rfl) (ww hw 357 rfl) (ww hw 359 rfl) (ww hw 286 rfl) (by decide) e4193 u82 (argsL := []) (rest := []) (W := 0) (au60_measured l Z a0 hw q18 h4192 n0 Z0 u84) rfl (by decide) (by decide) (by decide) (by decide) rfl (by rw [hml]; rfl) (lenOf pd0 rfl) rfl (by show 2 * 0 + _ ≤ _; exact Nat.le_of_eq rfl) (hb hby d41_34)) fun v4195 T4195 L4195 X4195 hQ4195 => ?_
  obtain ⟨rfl, NL4195, hk4195⟩ := hQ4195
  have N0 := Fr.app N0 NL4195
  refine gb T4195 (mkF m 40 #[SA q9, SA q18, SA fR, SU, SU] []) (fun _ k => XS.ifNo X4195.here hx rfl (hb hby d41_37) rfl (by decide) k) ?_
  refine gb T4195 (mkF m 43 #[SA q9, SA q18, SA fR, SU, SU] [(.ref fR), (.ref q18), (.ref q9)]) (fun _ k => XS.aloadN X4195.here hx rfl (hb hby d41_40) rfl rfl (XS.aloadN X4195.here hx rfl (hb hby d41_41) rfl rfl (XS.aloadN X4195.here hx rfl (hb hby d41_42) rfl rfl k))) ?_
  refine own_c1 (callP X4195 hx hZ (y := mn4) hown (ww hw 424 rfl) (ww hw 425 rfl) (ww hw 426 rfl) (ww hw 427 rfl) (ww hw 163 rfl) (ww hw 162 rfl) (by decide) hk4195 u32 (argsL := [(.ref q18), (.ref fR)]) (rest := []) (W := 0) (au70_count l Z a0 hw q9 q18 fR fD q11 Hs h4192 n0 Z0 u0 u10 u17 u36 u70 ne_fR_fD ge_q11 qH B0) rfl (by decide) (by decide) (by decide) (by decide) rfl (by rw [hml]; rfl) (lenOf pd29 rfl) rfl (by show 2 * 0 + _ ≤ _; exact Nat.le_of_eq rfl) (hb hby d41_43)) fun v4197 T4197 L4197 X4197 hQ4197 => ?_
  obtain ⟨rfl, NL4197, K4197, f4196⟩ := hQ4197
  have N0 := Fr.app N0 NL4197
  have e4197 : T4197.heap = T4197.heap := rfl
  have B0 := own_extK B0 K4197 (allS (Nat.le_trans qH ge_q11) all0)
  have u22 := u22.keep K4197
  have u23 := u23.keep K4197
  have u40 := u40.keep K4197
  have u41 := u41.keep K4197 (ninS (Ne.symm ne_q11_q13) nin0)
  have u42 := u42.keep K4197 (ninS (Ne.symm ne_q11_q13) nin0)
  have u48 := u48.keep K4197 (ninS ne_q2_q11 nin0)
  have u50 := u50.keep K4197 (ninS ne_q2_q11 nin0)
  have u57 := u57.keep K4197 (ninS ne_q1_q11 nin0)
  have u58 := u58.keep K4197 (ninS ne_q1_q11 nin0)
  have u70 := u70.keep K4197 (ninS ne_q9_q11 nin0)
  have u71 := u71.keep K4197 (ninS ne_q9_q11 nin0)
  have u72 := u72.keep K4197 (ninS ne_q9_q11 nin0)
  have u73 := u73.keep K4197 (ninS ne_q9_q11 nin0)
  have u74 := u74.keep K4197 (ninS ne_q9_q11 nin0)
  have u75 := u75.keep K4197 (ninS ne_q9_q11 nin0)
  have u76 := u76.keep K4197 (ninS ne_q9_q11 nin0)
  have u77 := u77.keep K4197 (ninS ne_q9_q11 nin0)
  have u78 := u78.keep K4197 (ninS ne_q9_q11 nin0)
  have u79 := u79.keep K4197 (ninS ne_q9_q11 nin0)
  have u80 := u80.keep K4197 (ninS ne_q9_q11 nin0)
  have u81 := u81.keep K4197 (ninS ne_q9_q11 nin0)
  have Z0 := Nat.le_trans Z0 K4197.1
  have K0 := K0.trans K4197 (allS mi_q11 all0)
  refine gb T4197 (mkF m 47 #[SA q9, SA q18, SA fR, SU, SU] [(.ref q9)]) (fun _ k => XS.aloadN X4197.here hx rfl (hb hby d41_46) rfl rfl k) ?_
  refine own_g1 (getF X4197 hx hZ hown (host := "") (Or.inl (ww hw 231 rfl)) Via.refl e4197 u73 rfl rfl (hb hby d41_47)) fun T4198 X4198 e4198 => ?_
  refine gb T4198 (mkF m 51 #[SA q9, SA q18, SA fR, SU, SU] [(.ref q9), (.ref q2)]) (fun _ k => XS.aloadN X4198.here hx rfl (hb hby d41_50) rfl rfl k) ?_
  refine own_g1 (getF X4198 hx hZ hown (host := "") (Or.inl (ww hw 229 rfl)) Via.refl e4198 u72 rfl rfl (hb hby d41_51)) fun T4199 X4199 e4199 => ?_
  refine own_c1 (callF X4199 hx hZ (xi := mn5) (y := mn6) hown (ww hw 246 rfl) (ww hw 247 rfl) (ww hw 248 rfl) (by decide) (ww hw 360 rfl) (ww hw 361 rfl) (ww hw 362 rfl) (ww hw 363 rfl) (ww hw 364 rfl) (ww hw 365 rfl) (ww hw 207 rfl) (by decide) e4199 u40 (argsL := []) (rest := [(.ref q2)]) (W := 1) (au50_size l Z a0 hw q13 (0 : Int32) T4197.heap n0 Z0 u42) rfl (by decide) (by decide) (by decide) (by decide) rfl (by rw [hml]; rfl) (lenOf pd19 rfl) rfl (by show 2 * 0 + _ ≤ _; exact Nat.le_of_eq rfl) (hb hby d41_54)) fun v4200 T4200 L4200 X4200 hQ4200 => ?_
  obtain ⟨rfl, NL4200, hk4200⟩ := hQ4200
  have N0 := Fr.app N0 NL4200
  refine gb T4200 (mkF m 60 #[SA q9, SA q18, SA fR, SU, SU] [(.long (0 : Int64)), (.ref q2)]) (fun _ k => XS.i2l X4200.here hx rfl (hb hby d41_59) rfl k) ?_
  refine own_c1 (callV X4200 hx hZ (y := mn7) hown (ww hw 368 rfl) (ww hw 369 rfl) (ww hw 371 rfl) (ww hw 370 rfl) (ww hw 372 rfl) (ww hw 28 rfl) (by decide) hk4200 u23 (argsL := [(.long (0 : Int64))]) (rest := []) (W := 0) (au52_spend l Z a0 hw q2 q1 y_50 T4197.heap n0 Z0 u22 u48 u50 u57 u58 ge_q1) rfl (by decide) (by decide) (by decide) (by decide) rfl (by rw [hml]; rfl) (lenOf pd3 rfl) rfl (by show 2 * 0 + _ ≤ _; exact Nat.le_of_eq rfl) (hb hby d41_60)) fun v4204 T4204 L4204 X4204 hQ4204 => ?_
  obtain ⟨rfl, NL4204, K4204, f4201, f4202⟩ := hQ4204
  have N0 := Fr.app N0 NL4204
  have e4204 : T4204.heap = T4204.heap := rfl
  have B0 := own_extK B0 K4204 (allS (Nat.le_trans qH ge_q1) all0)
  have u40 := u40.keep K4204
  have u41 := u41.keep K4204 (ninS (Ne.symm ne_q1_q13) nin0)
  have u42 := u42.keep K4204 (ninS (Ne.symm ne_q1_q13) nin0)
  have u70 := u70.keep K4204 (ninS (Ne.symm ne_q1_q9) nin0)
  have u71 := u71.keep K4204 (ninS (Ne.symm ne_q1_q9) nin0)
  have u72 := u72.keep K4204 (ninS (Ne.symm ne_q1_q9) nin0)
  have u73 := u73.keep K4204 (ninS (Ne.symm ne_q1_q9) nin0)
  have u74 := u74.keep K4204 (ninS (Ne.symm ne_q1_q9) nin0)
  have u75 := u75.keep K4204 (ninS (Ne.symm ne_q1_q9) nin0)
  have u76 := u76.keep K4204 (ninS (Ne.symm ne_q1_q9) nin0)
  have u77 := u77.keep K4204 (ninS (Ne.symm ne_q1_q9) nin0)
  have u78 := u78.keep K4204 (ninS (Ne.symm ne_q1_q9) nin0)
  have u79 := u79.keep K4204 (ninS (Ne.symm ne_q1_q9) nin0)
  have u80 := u80.keep K4204 (ninS (Ne.symm ne_q1_q9) nin0)
  have u81 := u81.keep K4204 (ninS (Ne.symm ne_q1_q9) nin0)
  have f4196 := f4196.keep K4204 (ninS (Ne.symm ne_q1_q11) nin0)
  have Z0 := Nat.le_trans Z0 K4204.1
  have K0 := K0.trans K4204 (allS mi_q1 all0)
  refine gb T4204 (mkF m 64 #[SA q9, SA q18, SA fR, SU, SU] [(.ref q9)]) (fun _ k => XS.aloadN X4204.here hx rfl (hb hby d41_63) rfl rfl k) ?_
  refine own_g1 (getF X4204 hx hZ hown (host := "") (Or.inl (ww hw 229 rfl)) Via.refl e4204 u72 rfl rfl (hb hby d41_64)) fun T4205 X4205 e4205 => ?_
  refine own_c1 (callF X4205 hx hZ (xi := mn12) (y := mn8) hown (ww hw 378 rfl) (ww hw 379 rfl) (ww hw 380 rfl) (by decide) (ww hw 381 rfl) (ww hw 382 rfl) (ww hw 383 rfl) (ww hw 384 rfl) (ww hw 364 rfl) (ww hw 385 rfl) (ww hw 207 rfl) (by decide) e4205 u40 (argsL := []) (rest := []) (W := 0) (au54_iterator l Z a0 hw q13 y_41 T4204.heap n0 Z0 u41) rfl (by decide) (by decide) (by decide) (by decide) rfl (by rw [hml]; rfl) (lenOf pd28 rfl) rfl (by show 2 * 0 + _ ≤ _; exact Nat.le_of_eq rfl) (hb hby d41_67)) fun v4209 T4209 L4209 X4209 hQ4209 => ?_
  obtain ⟨o41_1, rfl, NL4209, K4209, sz4209_o41_1, f4206, f4207, f4208⟩ := hQ4209
  have N0 := Fr.app N0 NL4209
  have ge_o41_1 : n0 ≤ o41_1 := Nat.le_trans Z0 sz4209_o41_1
  have sz_o41_1 : h0.size ≤ o41_1 := Nat.le_trans K0.1 sz4209_o41_1
  have e4209 : T4209.heap = T4209.heap := rfl
  have B0 := own_extK B0 K4209 all0
  have u42 := u42.keep K4209 nin0
  have u70 := u70.keep K4209 nin0
  have u71 := u71.keep K4209 nin0
  have u72 := u72.keep K4209 nin0
  have u73 := u73.keep K4209 nin0
  have u74 := u74.keep K4209 nin0
  have u75 := u75.keep K4209 nin0
  have u76 := u76.keep K4209 nin0
  have u77 := u77.keep K4209 nin0
  have u78 := u78.keep K4209 nin0
  have u79 := u79.keep K4209 nin0
  have u80 := u80.keep K4209 nin0
  have u81 := u81.keep K4209 nin0
  have f4196 := f4196.keep K4209 nin0
  have f4201 := f4201.keep K4209 nin0
  have f4202 := f4202.keep K4209 nin0
  have Z0 := Nat.le_trans Z0 K4209.1
  have K0 := K0.trans K4209 all0
  refine gb T4209 (mkF m 74 #[SA q9, SA q18, SA fR, SA o41_1, SU] [(.ref o41_1)]) (fun _ k => XS.astoreN X4209.here hx rfl (hb hby d41_72) rfl rfl (l' := #[SA q9, SA q18, SA fR, SA o41_1, SU]) rfl (XS.aloadN X4209.here hx rfl (hb hby d41_73) rfl rfl k)) ?_
  refine own_c1 (callF X4209 hx hZ (xi := mn13) (y := mn9) hown (ww hw 402 rfl) (ww hw 403 rfl) (ww hw 404 rfl) (by decide) (ww hw 405 rfl) (ww hw 406 rfl) (ww hw 407 rfl) (ww hw 408 rfl) (ww hw 409 rfl) (ww hw 410 rfl) (ww hw 388 rfl) (by decide) e4209 f4206 (argsL := []) (rest := []) (W := 0) (au55_hasNext l Z a0 hw o41_1 q13 T4209.heap n0 Z0 u42 f4207 f4208) rfl (by decide) (by decide) (by decide) (by decide) rfl (by rw [hml]; rfl) (lenOf pd0 rfl) rfl (by show 2 * 0 + _ ≤ _; exact Nat.le_of_eq rfl) (hb hby d41_74)) fun v4210 T4210 L4210 X4210 hQ4210 => ?_
  obtain ⟨rfl, NL4210, hk4210⟩ := hQ4210
  have N0 := Fr.app N0 NL4210
  refine gb T4210 (mkF m 104 #[SA q9, SA q18, SA fR, SA o41_1, SU] []) (fun _ k => XS.ifYes X4210.here hx rfl (pc0 := 79) (pc' := 104) rfl (hb hby d41_79) rfl (by decide) (by decide) (by decide) k) ?_
  exact outV X4210 hx hlk hret (hb hby d41_104) (by rw [hk4210]; exact ⟨rfl, N0, K0, u70, u71, u72, u73, u74, u75, u76, u77, u78, u79, u80, u81, f4196, f4201, f4202⟩) (by decide) (by decide)
theorem ef_rm_law (m : MethodId) (x0 : Int32) (x1 : Int32) (x2 : Int32) (x3 : Int32) : entryFrame m #[(.int x0), (.int x1), (.int x2), (.int x3)] maxLocals = mkF m 0 #[SI x0, SI x1, SI x2, SI x3, SU, SU, SU, SU, SU, SU, SU, SU, SU, SU, SU, SU, SU, SU, SU, SU, SU] [] := by first | (simp [entryFrame, mkF, argsToLocals, Value.category, maxLocals]; done) | rfl
set_option maxRecDepth 65536 in
set_option maxHeartbeats 40000000 in
theorem rm_law (l : Launch) (Z : State) (a0 : Array Value) (hw : ∀ d ∈ tables_1, d.before a0 Z = true) (x0 x1 x2 x3 : Int32) {fD fE fL fR nn li els vals dc : Addr} (h0 : Heap) (n0 : Nat) (Z0 : n0 ≤ h0.size) (qH : h0.size ≤ n0) (S_DELIVERED : Sta Z h0 sn8 "DELIVERED" sn25 (.ref fD)) (S_EXPIRED : Sta Z h0 sn8 "EXPIRED" sn25 (.ref fE)) (S_LOST : Sta Z h0 sn8 "LOST" sn25 (.ref fL)) (S_DROPPED : Sta Z h0 sn8 "DROPPED" sn25 (.ref fR)) (S_NONE : Sta Z h0 sn27 "NONE" sn34 (.ref nn)) (S__VALUES : Sta Z h0 sn8 "$VALUES" sn28 (.ref vals)) (S_DEFAULTCAPACITY_EMPTY_ELEMENTDATA : Sta Z h0 sn9 "DEFAULTCAPACITY_EMPTY_ELEMENTDATA" sn26 (.ref dc)) (E_fD : Exa Z h0 fD sn8) (E_fE : Exa Z h0 fE sn8) (E_fL : Exa Z h0 fL sn8) (E_fR : Exa Z h0 fR sn8) (E_nn : Exa Z h0 nn sn27) (E_li : Exa Z h0 li sn29) (E_vals : Exa Z h0 vals sn28) (F_ordinal_fD : Fld Z h0 fD sn22 "ordinal" "I" (.int (0 : Int32))) (F_ordinal_fE : Fld Z h0 fE sn22 "ordinal" "I" (.int (1 : Int32))) (F_ordinal_fL : Fld Z h0 fL sn22 "ordinal" "I" (.int (2 : Int32))) (F_ordinal_fR : Fld Z h0 fR sn22 "ordinal" "I" (.int (3 : Int32))) (F_within_nn : Fld Z h0 nn sn27 "within" sn17 (.ref li)) (F_elements_li : Fld Z h0 li sn29 "elements" sn26 (.ref els)) (V_vals : Sar Z h0 vals (.object sn8) [(.ref fD), (.ref fE), (.ref fL), (.ref fR)]) (V_els : Sar Z h0 els (.object "java/lang/Object") []) :
    Does l x code maxLocals ret tables_1 room_1 Z #[(.int x0), (.int x1), (.int x2), (.int x3)] h0 (fun v h L => v = some (.int 1) ∧ Fr n0 L) := by
  refine Does.of (plainFor_of_name pn19) ?_
  intro p e s m below meth c s₁ hx hby hml hret hlk hZ hown hnm X0 e0
  have N0 := Fr.nil n0
  refine Goes.cast (g' := mkF m 0 #[SI x0, SI x1, SI x2, SI x3, SU, SU, SU, SU, SU, SU, SU, SU, SU, SU, SU, SU, SU, SU, SU, SU, SU] []) (ef_rm_law m x0 x1 x2 x3) ?_
  have B0 := own_extR h0
  have ne_fE_fD : fE ≠ fD := Fld.ne F_ordinal_fE F_ordinal_fD (by decide)
  have ne_fL_fD : fL ≠ fD := Fld.ne F_ordinal_fL F_ordinal_fD (by decide)
  have ne_fL_fE : fL ≠ fE := Fld.ne F_ordinal_fL F_ordinal_fE (by decide)
  have ne_fR_fD : fR ≠ fD := Fld.ne F_ordinal_fR F_ordinal_fD (by decide)
  have ne_fR_fE : fR ≠ fE := Fld.ne F_ordinal_fR F_ordinal_fE (by decide)
  have ne_fR_fL : fR ≠ fL := Fld.ne F_ordinal_fR F_ordinal_fL (by decide)
  refine gb s₁ (mkF m 1 #[SI x0, SI x1, SI x2, SI x3, SU, SU, SU, SU, SU, SU, SU, SU, SU, SU, SU, SU, SU, SU, SU, SU, SU] [(.int x0)]) (fun _ k => XS.iloadN X0.here hx rfl (hb hby at_0) rfl k) ?_
  refine gb s₁ (mkF m 3 #[SI x0, SI x1, SI x2, SI x3, SU, SU, SU, SU, SU, SU, SU, SU, SU, SU, SU, SU, SU, SU, SU, SU, SU] [(.int (2147483647 : Int32)), (.int x0)]) (X0.ldcInt hx hown (mvT hZ (ww hw 0 rfl)) (g := (mkF m 1 #[SI x0, SI x1, SI x2, SI x3, SU, SU, SU, SU, SU, SU, SU, SU, SU, SU, SU, SU, SU, SU, SU, SU, SU] [(.int x0)])) rfl (hb hby at_1)) ?_
  refine gb s₁ (mkF m 4 #[SI x0, SI x1, SI x2, SI x3, SU, SU, SU, SU, SU, SU, SU, SU, SU, SU, SU, SU, SU, SU, SU, SU, SU] [(.int (x0 &&& (2147483647 : Int32)))]) (fun _ k => XS.iand X0.here hx rfl (hb hby at_3) rfl k) ?_
  refine gb s₁ (mkF m 5 #[SI x0, SI x1, SI x2, SI x3, SU, SU, SU, SU, SU, SU, SU, SU, SU, SU, SU, SU, SU, SU, SU, SU, SU] [(.int (3 : Int32)), (.int (x0 &&& (2147483647 : Int32)))]) (fun _ k => XS.iconst X0.here hx rfl (hb hby at_4)  k) ?_
  obtain ⟨umd, q_umd⟩ : ∃ zz : Int32, zz = (x0 &&& (2147483647 : Int32)) := ⟨_, rfl⟩
  rw [← q_umd]
  refine gb s₁ (mkF m 6 #[SI x0, SI x1, SI x2, SI x3, SU, SU, SU, SU, SU, SU, SU, SU, SU, SU, SU, SU, SU, SU, SU, SU, SU] [(.int (umd % (3 : Int32)))]) (fun _ k => iremM (g := (mkF m 5 #[SI x0, SI x1, SI x2, SI x3, SU, SU, SU, SU, SU, SU, SU, SU, SU, SU, SU, SU, SU, SU, SU, SU, SU] [(.int (3 : Int32)), (.int umd)])) X0 hx rfl (hb hby at_5) rfl (by decide) k) ?_
  obtain ⟨md, q_md⟩ : ∃ zz : Int32, zz = (umd % (3 : Int32)) := ⟨_, rfl⟩
  rw [← q_md]
  have hmd : md = 0 ∨ md = 1 ∨ md = 2 := by rw [q_md]; exact own_rem3 _ (by rw [q_umd]; exact (c_and _ (2147483647 : Int32) (by decide)).1)
  clear q_md
  refine gb s₁ (mkF m 9 #[SI x0, SI x1, SI x2, SI x3, SI md, SU, SU, SU, SU, SU, SU, SU, SU, SU, SU, SU, SU, SU, SU, SU, SU] [(.int x2)]) (fun _ k => XS.istore X0.here hx rfl (hb hby at_6) rfl (l' := #[SI x0, SI x1, SI x2, SI x3, SI md, SU, SU, SU, SU, SU, SU, SU, SU, SU, SU, SU, SU, SU, SU, SU, SU]) rfl (XS.iloadN X0.here hx rfl (hb hby at_8) rfl k)) ?_
  refine gb s₁ (mkF m 11 #[SI x0, SI x1, SI x2, SI x3, SI md, SU, SU, SU, SU, SU, SU, SU, SU, SU, SU, SU, SU, SU, SU, SU, SU] [(.int (2147483647 : Int32)), (.int x2)]) (X0.ldcInt hx hown (mvT hZ (ww hw 0 rfl)) (g := (mkF m 9 #[SI x0, SI x1, SI x2, SI x3, SI md, SU, SU, SU, SU, SU, SU, SU, SU, SU, SU, SU, SU, SU, SU, SU, SU] [(.int x2)])) rfl (hb hby at_9)) ?_
  refine gb s₁ (mkF m 12 #[SI x0, SI x1, SI x2, SI x3, SI md, SU, SU, SU, SU, SU, SU, SU, SU, SU, SU, SU, SU, SU, SU, SU, SU] [(.int (x2 &&& (2147483647 : Int32)))]) (fun _ k => XS.iand X0.here hx rfl (hb hby at_11) rfl k) ?_
  refine gb s₁ (mkF m 13 #[SI x0, SI x1, SI x2, SI x3, SI md, SU, SU, SU, SU, SU, SU, SU, SU, SU, SU, SU, SU, SU, SU, SU, SU] [(.int (3 : Int32)), (.int (x2 &&& (2147483647 : Int32)))]) (fun _ k => XS.iconst X0.here hx rfl (hb hby at_12)  k) ?_
  obtain ⟨upv, q_upv⟩ : ∃ zz : Int32, zz = (x2 &&& (2147483647 : Int32)) := ⟨_, rfl⟩
  rw [← q_upv]
  refine gb s₁ (mkF m 14 #[SI x0, SI x1, SI x2, SI x3, SI md, SU, SU, SU, SU, SU, SU, SU, SU, SU, SU, SU, SU, SU, SU, SU, SU] [(.int (upv % (3 : Int32)))]) (fun _ k => iremM (g := (mkF m 13 #[SI x0, SI x1, SI x2, SI x3, SI md, SU, SU, SU, SU, SU, SU, SU, SU, SU, SU, SU, SU, SU, SU, SU, SU] [(.int (3 : Int32)), (.int upv)])) X0 hx rfl (hb hby at_13) rfl (by decide) k) ?_
  obtain ⟨pv, q_pv⟩ : ∃ zz : Int32, zz = (upv % (3 : Int32)) := ⟨_, rfl⟩
  rw [← q_pv]
  have hpv : pv = 0 ∨ pv = 1 ∨ pv = 2 := by rw [q_pv]; exact own_rem3 _ (by rw [q_upv]; exact (c_and _ (2147483647 : Int32) (by decide)).1)
  clear q_pv
  refine gb s₁ (mkF m 18 #[SI x0, SI x1, SI x2, SI x3, SI md, SI pv, SU, SU, SU, SU, SU, SU, SU, SU, SU, SU, SU, SU, SU, SU, SU] [(.int pv)]) (fun _ k => XS.istore X0.here hx rfl (hb hby at_14) rfl (l' := #[SI x0, SI x1, SI x2, SI x3, SI md, SI pv, SU, SU, SU, SU, SU, SU, SU, SU, SU, SU, SU, SU, SU, SU, SU]) rfl (XS.iload X0.here hx rfl (hb hby at_16) rfl k)) ?_
  have jl : ∀ (lv : Int32), lv = 0 ∨ (lv = 1 ∧ ¬ pv = 0) → Goes p e below (Fin1 below s room_1 (fun v h L => v = some (.int 1) ∧ Fr n0 L)) s₁ (mkF m 32 #[SI x0, SI x1, SI x2, SI x3, SI md, SI pv, SU, SU, SU, SU, SU, SU, SU, SU, SU, SU, SU, SU, SU, SU, SU] [(.int lv)]) := by
    intro lv hlv
    refine gb s₁ (mkF m 36 #[SI x0, SI x1, SI x2, SI x3, SI md, SI pv, SI lv, SU, SU, SU, SU, SU, SU, SU, SU, SU, SU, SU, SU, SU, SU] [(.int (2 : Int32)), (.int x3)]) (fun _ k => XS.istore X0.here hx rfl (hb hby at_32) rfl (l' := #[SI x0, SI x1, SI x2, SI x3, SI md, SI pv, SI lv, SU, SU, SU, SU, SU, SU, SU, SU, SU, SU, SU, SU, SU, SU]) rfl (XS.iloadN X0.here hx rfl (hb hby at_34) rfl (XS.iconst X0.here hx rfl (hb hby at_35)  k))) ?_
    refine gb s₁ (mkF m 37 #[SI x0, SI x1, SI x2, SI x3, SI md, SI pv, SI lv, SU, SU, SU, SU, SU, SU, SU, SU, SU, SU, SU, SU, SU, SU] [(.int (x3 &&& (2 : Int32)))]) (fun _ k => XS.iand X0.here hx rfl (hb hby at_36) rfl k) ?_
    have jp : ∀ (sv : Int32), sv = 0 ∨ (sv = 1 ∧ pv = 2) → Goes p e below (Fin1 below s room_1 (fun v h L => v = some (.int 1) ∧ Fr n0 L)) s₁ (mkF m 51 #[SI x0, SI x1, SI x2, SI x3, SI md, SI pv, SI lv, SU, SU, SU, SU, SU, SU, SU, SU, SU, SU, SU, SU, SU, SU] [(.int sv)]) := by
      intro sv hsv
      refine gb s₁ (mkF m 55 #[SI x0, SI x1, SI x2, SI x3, SI md, SI pv, SI lv, SI sv, SU, SU, SU, SU, SU, SU, SU, SU, SU, SU, SU, SU, SU] [(.int (2 : Int32)), (.int x3)]) (fun _ k => XS.istore X0.here hx rfl (hb hby at_51) rfl (l' := #[SI x0, SI x1, SI x2, SI x3, SI md, SI pv, SI lv, SI sv, SU, SU, SU, SU, SU, SU, SU, SU, SU, SU, SU, SU, SU]) rfl (XS.iloadN X0.here hx rfl (hb hby at_53) rfl (XS.iconst X0.here hx rfl (hb hby at_54)  k))) ?_
      refine gb s₁ (mkF m 56 #[SI x0, SI x1, SI x2, SI x3, SI md, SI pv, SI lv, SI sv, SU, SU, SU, SU, SU, SU, SU, SU, SU, SU, SU, SU, SU] [(.int (((x3).toUInt32 >>> ((2 : Int32) &&& 31).toUInt32).toInt32))]) (fun _ k => XS.iushr X0.here hx rfl (hb hby at_55) rfl k) ?_
      refine gb s₁ (mkF m 57 #[SI x0, SI x1, SI x2, SI x3, SI md, SI pv, SI lv, SI sv, SU, SU, SU, SU, SU, SU, SU, SU, SU, SU, SU, SU, SU] [(.int (3 : Int32)), (.int (((x3).toUInt32 >>> ((2 : Int32) &&& 31).toUInt32).toInt32))]) (fun _ k => XS.iconst X0.here hx rfl (hb hby at_56)  k) ?_
      refine gb s₁ (mkF m 58 #[SI x0, SI x1, SI x2, SI x3, SI md, SI pv, SI lv, SI sv, SU, SU, SU, SU, SU, SU, SU, SU, SU, SU, SU, SU, SU] [(.int ((((x3).toUInt32 >>> ((2 : Int32) &&& 31).toUInt32).toInt32) &&& (3 : Int32)))]) (fun _ k => XS.iand X0.here hx rfl (hb hby at_57) rfl k) ?_
      obtain ⟨fs, q_fs⟩ : ∃ zz : Int32, zz = ((((x3).toUInt32 >>> ((2 : Int32) &&& 31).toUInt32).toInt32) &&& (3 : Int32)) := ⟨_, rfl⟩
      rw [← q_fs]
      refine gb s₁ (mkF m 60 #[SI x0, SI x1, SI x2, SI x3, SI md, SI pv, SI lv, SI sv, SI fs, SU, SU, SU, SU, SU, SU, SU, SU, SU, SU, SU, SU] []) (fun _ k => XS.istore X0.here hx rfl (hb hby at_58) rfl (l' := #[SI x0, SI x1, SI x2, SI x3, SI md, SI pv, SI lv, SI sv, SI fs, SU, SU, SU, SU, SU, SU, SU, SU, SU, SU, SU, SU]) rfl k) ?_
      have jf : ∀ (f : Addr) (Tj4668 : State) (hj4668 : Heap) (Lj4668 : List Loc), Stand p l e room_1 s m #[(.int x0), (.int x1), (.int x2), (.int x3)] below meth c Tj4668 Lj4668 0 0 → Tj4668.heap = hj4668 → Fr n0 Lj4668 → n0 ≤ hj4668.size → Ext h0 hj4668 → (f = fD ∨ f = fE ∨ f = fL ∨ f = fR) → Goes p e below (Fin1 below s room_1 (fun v h L => v = some (.int 1) ∧ Fr n0 L)) Tj4668 (mkF m 98 #[SI x0, SI x1, SI x2, SI x3, SI md, SI pv, SI lv, SI sv, SI fs, SU, SU, SU, SU, SU, SU, SU, SU, SU, SU, SU, SU] [(.ref f)]) := by
        intro f Tj4668 hj4668 Lj4668 Xj4668 ej4668 N0 Z0  B0 hf
        refine gb Tj4668 (mkF m 100 #[SI x0, SI x1, SI x2, SI x3, SI md, SI pv, SI lv, SI sv, SI fs, SA f, SU, SU, SU, SU, SU, SU, SU, SU, SU, SU, SU] []) (fun _ k => XS.astore Xj4668.here hx rfl (hb hby at_98) rfl rfl (l' := #[SI x0, SI x1, SI x2, SI x3, SI md, SI pv, SI lv, SI sv, SI fs, SA f, SU, SU, SU, SU, SU, SU, SU, SU, SU, SU, SU]) rfl k) ?_
        refine gb Tj4668 (mkF m 103 #[SI x0, SI x1, SI x2, SI x3, SI md, SI pv, SI lv, SI sv, SI fs, SA f, SU, SU, SU, SU, SU, SU, SU, SU, SU, SU, SU] [(.double (4607182418800017409 : UInt64))]) (Xj4668.ldc2DoubleC hx hown (mvT hZ (ww hw 4 rfl)) (g := (mkF m 100 #[SI x0, SI x1, SI x2, SI x3, SI md, SI pv, SI lv, SI sv, SI fs, SA f, SU, SU, SU, SU, SU, SU, SU, SU, SU, SU, SU] [])) rfl (hb hby at_100)) ?_
        refine gb Tj4668 (mkF m 107 #[SI x0, SI x1, SI x2, SI x3, SI md, SI pv, SI lv, SI sv, SI fs, SA f, SD 4607182418800017409, S2, SU, SU, SU, SU, SU, SU, SU, SU, SU] [(.int md)]) (fun _ k => XS.dstore Xj4668.here hx rfl (hb hby at_103) rfl (l' := #[SI x0, SI x1, SI x2, SI x3, SI md, SI pv, SI lv, SI sv, SI fs, SA f, SD 4607182418800017409, S2, SU, SU, SU, SU, SU, SU, SU, SU, SU]) rfl (XS.iload Xj4668.here hx rfl (hb hby at_105) rfl k)) ?_
        have je : ∀ (ev : UInt64), (md = 0 ∧ ev = (4607182418800017409 : UInt64)) ∨ (md = 1 ∧ ev = (4607182418800017408 : UInt64)) ∨ (md = 2 ∧ ∃ ki : Int, Core.DInt ki ev ∧ 2 ≤ ki) → Goes p e below (Fin1 below s room_1 (fun v h L => v = some (.int 1) ∧ Fr n0 L)) Tj4668 (mkF m 132 #[SI x0, SI x1, SI x2, SI x3, SI md, SI pv, SI lv, SI sv, SI fs, SA f, SD 4607182418800017409, S2, SU, SU, SU, SU, SU, SU, SU, SU, SU] [(.double ev)]) := by
          intro ev hev
          refine gb Tj4668 (mkF m 134 (LF x0 x1 x2 x3 md pv lv sv fs f ev [SU, SU, SU, SU, SU, SU, SU]) []) (fun _ k => XS.dstore Xj4668.here hx rfl (hb hby at_132) rfl (l' := (LF x0 x1 x2 x3 md pv lv sv fs f ev [SU, SU, SU, SU, SU, SU, SU])) rfl k) ?_
          obtain ⟨T4673, h4673, X4673, e4673, E4673, A4673, D4673, -, st4673⟩ := newO Xj4668 hx hZ hown (ww hw 5 rfl) (ww hw 6 rfl) (ww hw 7 rfl) ej4668 (g := (mkF m 134 (LF x0 x1 x2 x3 md pv lv sv fs f ev [SU, SU, SU, SU, SU, SU, SU]) [])) rfl (hb hby at_134) (by decide) (by decide)
          obtain ⟨q1, g4673⟩ : ∃ z, z = hj4668.size := ⟨_, rfl⟩
          rw [← g4673] at A4673 D4673 st4673
          have ge_q1 : n0 ≤ q1 := Nat.le_trans Z0 (Nat.le_of_eq g4673.symm)
          have B0 := own_extT B0 E4673
          have Z0 := Nat.le_trans Z0 E4673.1
          have E_q1 := A4673
          have f4674 : Fld Z h4673 q1 sn5 "limit" "J" (.long (0 : Int64)) := D4673 (Or.inr (ww hw 19 rfl)) (ty := .long) (by decide)
          have f4675 : Fld Z h4673 q1 sn5 "pool" sn33 .null := D4673 (Or.inr (ww hw 21 rfl)) (ty := (.object "com/example/hqsim/hqsim/engine/kernel/EventBudget$Pool")) (by decide)
          have f4676 : Fld Z h4673 q1 sn5 "allowed" "J" (.long (0 : Int64)) := D4673 (Or.inl (ww hw 23 rfl)) (ty := .long) (by decide)
          have f4677 : Fld Z h4673 q1 sn5 "spent" "J" (.long (0 : Int64)) := D4673 (Or.inl (ww hw 25 rfl)) (ty := .long) (by decide)
          refine gb T4673 (mkF m 137 (LF x0 x1 x2 x3 md pv lv sv fs f ev [SU, SU, SU, SU, SU, SU, SU]) [(.ref q1)]) st4673 ?_
          refine gb T4673 (mkF m 138 (LF x0 x1 x2 x3 md pv lv sv fs f ev [SU, SU, SU, SU, SU, SU, SU]) [(.ref q1), (.ref q1)]) (fun _ k => XS.dup X4673.here hx rfl (hb hby at_137) rfl rfl k) ?_
          refine gb T4673 (mkF m 141 (LF x0 x1 x2 x3 md pv lv sv fs f ev [SU, SU, SU, SU, SU, SU, SU]) [(.long (1000 : Int64)), (.ref q1), (.ref q1)]) (X4673.ldc2Long hx hown (mvT hZ (ww hw 8 rfl)) (g := (mkF m 138 (LF x0 x1 x2 x3 md pv lv sv fs f ev [SU, SU, SU, SU, SU, SU, SU]) [(.ref q1), (.ref q1)])) rfl (hb hby at_138)) ?_
          refine own_c1 (callI X4673 hx hZ (y := mn34) rfl hown (ww hw 9 rfl) (ww hw 10 rfl) (ww hw 11 rfl) (ww hw 7 rfl) (by decide) e4673 (a := q1) (argsL := [(.long (1000 : Int64))]) (rest := [(.ref q1)]) (W := 1) (au3_init l Z a0 hw q1 (1000 : Int64) (0 : Int64) (0 : Int64) (0 : Int64) h4673 n0 Z0 E_q1 f4674 f4675 f4676 f4677 ge_q1) rfl (by decide) (by decide) (by decide) (by decide) rfl (by rw [hml]; rfl) (lenOf pd3 rfl) rfl (by show 2 * 0 + _ ≤ _; exact Nat.le_of_eq rfl) (hb hby at_141)) fun v4680 T4680 L4680 X4680 hQ4680 => ?_
          obtain ⟨rfl, NL4680, K4680, f4678, f4679⟩ := hQ4680
          have N0 := Fr.app N0 NL4680
          have e4680 : T4680.heap = T4680.heap := rfl
          have B0 := own_extK B0 K4680 (allS (Nat.le_trans qH ge_q1) all0)
          have E_q1 := E_q1.keep K4680
          have Z0 := Nat.le_trans Z0 K4680.1
          refine gb T4680 (mkF m 146 (LF x0 x1 x2 x3 md pv lv sv fs f ev [SA q1, SU, SU, SU, SU, SU, SU]) []) (fun _ k => XS.astore X4680.here hx rfl (hb hby at_144) rfl rfl (l' := (LF x0 x1 x2 x3 md pv lv sv fs f ev [SA q1, SU, SU, SU, SU, SU, SU])) rfl k) ?_
          obtain ⟨T4681, h4681, X4681, e4681, E4681, A4681, D4681, -, st4681⟩ := newO X4680 hx hZ hown (ww hw 26 rfl) (ww hw 27 rfl) (ww hw 28 rfl) e4680 (g := (mkF m 146 (LF x0 x1 x2 x3 md pv lv sv fs f ev [SA q1, SU, SU, SU, SU, SU, SU]) [])) rfl (hb hby at_146) (by decide) (by decide)
          obtain ⟨q2, g4681⟩ : ∃ z, z = T4680.heap.size := ⟨_, rfl⟩
          rw [← g4681] at A4681 D4681 st4681
          have ne_q1_q2 : q1 ≠ q2 := own_nb E_q1.lt g4681
          have ge_q2 : n0 ≤ q2 := Nat.le_trans Z0 (Nat.le_of_eq g4681.symm)
          have E_q1 := E_q1.ext E4681
          have f4678 := f4678.ext E4681
          have f4679 := f4679.ext E4681
          have B0 := own_extT B0 E4681
          have Z0 := Nat.le_trans Z0 E4681.1
          have E_q2 := A4681
          have f4682 : Fld Z h4681 q2 sn2 "budget" sn16 .null := D4681 (Or.inr (ww hw 37 rfl)) (ty := (.object sn5)) (by decide)
          have f4683 : Fld Z h4681 q2 sn2 "pending" sn21 .null := D4681 (Or.inr (ww hw 52 rfl)) (ty := (.object sn4)) (by decide)
          have f4684 : Fld Z h4681 q2 sn2 "now" "D" (.double (0 : UInt64)) := D4681 (Or.inl (ww hw 106 rfl)) (ty := .double) (by decide)
          have f4685 : Fld Z h4681 q2 sn2 "scheduled" "J" (.long (0 : Int64)) := D4681 (Or.inl (ww hw 120 rfl)) (ty := .long) (by decide)
          refine gb T4681 (mkF m 149 (LF x0 x1 x2 x3 md pv lv sv fs f ev [SA q1, SU, SU, SU, SU, SU, SU]) [(.ref q2)]) st4681 ?_
          refine gb T4681 (mkF m 152 (LF x0 x1 x2 x3 md pv lv sv fs f ev [SA q1, SU, SU, SU, SU, SU, SU]) [(.ref q1), (.ref q2), (.ref q2)]) (fun _ k => XS.dup X4681.here hx rfl (hb hby at_149) rfl rfl (XS.aload X4681.here hx rfl (hb hby at_150) rfl rfl k)) ?_
          refine own_c1 (callI X4681 hx hZ (y := mn37) rfl hown (ww hw 29 rfl) (ww hw 30 rfl) (ww hw 31 rfl) (ww hw 28 rfl) (by decide) e4681 (a := q2) (argsL := [(.ref q1)]) (rest := [(.ref q2)]) (W := 1) (au6_init l Z a0 hw q2 q1 (0 : Int64) (0 : UInt64) h4681 n0 Z0 E_q2 f4682 f4683 f4684 f4685 ge_q2) rfl (by decide) (by decide) (by decide) (by decide) rfl (by rw [hml]; rfl) (lenOf pd6 rfl) rfl (by show 2 * 0 + _ ≤ _; exact Nat.le_of_eq rfl) (hb hby at_152)) fun v4696 T4696 L4696 X4696 hQ4696 => ?_
          obtain ⟨q3, q4, rfl, NL4696, K4696, sz4696_q3, sz4696_q4, ne_q3_q4, f4686, f4687, f4688, f4689, f4690, f4691, f4692, f4693, f4694, f4695⟩ := hQ4696
          have N0 := Fr.app N0 NL4696
          have ne_q1_q3 : q1 ≠ q3 := own_nc E_q1.lt sz4696_q3
          have ne_q2_q3 : q2 ≠ q3 := own_nc E_q2.lt sz4696_q3
          have ge_q3 : n0 ≤ q3 := Nat.le_trans Z0 sz4696_q3
          have ne_q1_q4 : q1 ≠ q4 := own_nc E_q1.lt sz4696_q4
          have ne_q2_q4 : q2 ≠ q4 := own_nc E_q2.lt sz4696_q4
          have ge_q4 : n0 ≤ q4 := Nat.le_trans Z0 sz4696_q4
          have e4696 : T4696.heap = T4696.heap := rfl
          have B0 := own_extK B0 K4696 (allS (Nat.le_trans qH ge_q2) all0)
          have E_q1 := E_q1.keep K4696
          have f4678 := f4678.keep K4696 (ninS ne_q1_q2 nin0)
          have f4679 := f4679.keep K4696 (ninS ne_q1_q2 nin0)
          have E_q2 := E_q2.keep K4696
          have Z0 := Nat.le_trans Z0 K4696.1
          refine gb T4696 (mkF m 157 (LF x0 x1 x2 x3 md pv lv sv fs f ev [SA q1, SA q2, SU, SU, SU, SU, SU]) []) (fun _ k => XS.astore X4696.here hx rfl (hb hby at_155) rfl rfl (l' := (LF x0 x1 x2 x3 md pv lv sv fs f ev [SA q1, SA q2, SU, SU, SU, SU, SU])) rfl k) ?_
          obtain ⟨T4697, h4697, X4697, e4697, E4697, A4697, D4697, -, st4697⟩ := newO X4696 hx hZ hown (ww hw 53 rfl) (ww hw 54 rfl) (ww hw 55 rfl) e4696 (g := (mkF m 157 (LF x0 x1 x2 x3 md pv lv sv fs f ev [SA q1, SA q2, SU, SU, SU, SU, SU]) [])) rfl (hb hby at_157) (by decide) (by decide)
          obtain ⟨q5, g4697⟩ : ∃ z, z = T4696.heap.size := ⟨_, rfl⟩
          rw [← g4697] at A4697 D4697 st4697
          have ne_q1_q5 : q1 ≠ q5 := own_nb E_q1.lt g4697
          have ne_q2_q5 : q2 ≠ q5 := own_nb E_q2.lt g4697
          have ne_q3_q5 : q3 ≠ q5 := own_nb f4690.lt g4697
          have ne_q4_q5 : q4 ≠ q5 := own_nb f4694.lt g4697
          have ge_q5 : n0 ≤ q5 := Nat.le_trans Z0 (Nat.le_of_eq g4697.symm)
          have E_q1 := E_q1.ext E4697
          have f4678 := f4678.ext E4697
          have f4679 := f4679.ext E4697
          have E_q2 := E_q2.ext E4697
          have f4686 := f4686.ext E4697
          have f4687 := f4687.ext E4697
          have f4688 := f4688.ext E4697
          have f4689 := f4689.ext E4697
          have f4690 := f4690.ext E4697
          have f4691 := f4691.ext E4697
          have f4692 := f4692.ext E4697
          have f4693 := f4693.ext E4697
          have f4694 := f4694.ext E4697
          have f4695 := f4695.ext E4697
          have B0 := own_extT B0 E4697
          have Z0 := Nat.le_trans Z0 E4697.1
          have E_q5 := A4697
          have f4698 : Fld Z h4697 q5 sn12 "begun" "J" (.long (0 : Int64)) := D4697 (Or.inl (ww hw 279 rfl)) (ty := .long) (by decide)
          have f4699 : Fld Z h4697 q5 sn12 "inside" "J" (.long (0 : Int64)) := D4697 (Or.inl (ww hw 339 rfl)) (ty := .long) (by decide)
          refine gb T4697 (mkF m 160 (LF x0 x1 x2 x3 md pv lv sv fs f ev [SA q1, SA q2, SU, SU, SU, SU, SU]) [(.ref q5)]) st4697 ?_
          refine gb T4697 (mkF m 163 (LF x0 x1 x2 x3 md pv lv sv fs f ev [SA q1, SA q2, SU, SU, SU, SU, SU]) [(.ref q2), (.ref q5), (.ref q5)]) (fun _ k => XS.dup X4697.here hx rfl (hb hby at_160) rfl rfl (XS.aload X4697.here hx rfl (hb hby at_161) rfl rfl k)) ?_
          obtain ⟨T4700, h4700, X4700, e4700, E4700, A4700, D4700, -, st4700⟩ := newO X4697 hx hZ hown (ww hw 56 rfl) (ww hw 57 rfl) (ww hw 58 rfl) e4697 (g := (mkF m 163 (LF x0 x1 x2 x3 md pv lv sv fs f ev [SA q1, SA q2, SU, SU, SU, SU, SU]) [(.ref q2), (.ref q5), (.ref q5)])) rfl (hb hby at_163) (by decide) (by decide)
          obtain ⟨q6, g4700⟩ : ∃ z, z = h4697.size := ⟨_, rfl⟩
          rw [← g4700] at A4700 D4700 st4700
          have ne_q1_q6 : q1 ≠ q6 := own_nb E_q1.lt g4700
          have ne_q2_q6 : q2 ≠ q6 := own_nb E_q2.lt g4700
          have ne_q3_q6 : q3 ≠ q6 := own_nb f4690.lt g4700
          have ne_q4_q6 : q4 ≠ q6 := own_nb f4694.lt g4700
          have ne_q5_q6 : q5 ≠ q6 := own_nb E_q5.lt g4700
          have ge_q6 : n0 ≤ q6 := Nat.le_trans Z0 (Nat.le_of_eq g4700.symm)
          have E_q1 := E_q1.ext E4700
          have f4678 := f4678.ext E4700
          have f4679 := f4679.ext E4700
          have E_q2 := E_q2.ext E4700
          have f4686 := f4686.ext E4700
          have f4687 := f4687.ext E4700
          have f4688 := f4688.ext E4700
          have f4689 := f4689.ext E4700
          have f4690 := f4690.ext E4700
          have f4691 := f4691.ext E4700
          have f4692 := f4692.ext E4700
          have f4693 := f4693.ext E4700
          have f4694 := f4694.ext E4700
          have f4695 := f4695.ext E4700
          have E_q5 := E_q5.ext E4700
          have f4698 := f4698.ext E4700
          have f4699 := f4699.ext E4700
          have B0 := own_extT B0 E4700
          have Z0 := Nat.le_trans Z0 E4700.1
          have E_q6 := A4700
          have f4701 : Fld Z h4700 q6 sn13 "start" "D" (.double (0 : UInt64)) := D4700 (Or.inr (ww hw 69 rfl)) (ty := .double) (by decide)
          have f4702 : Fld Z h4700 q6 sn13 "end" "D" (.double (0 : UInt64)) := D4700 (Or.inr (ww hw 71 rfl)) (ty := .double) (by decide)
          refine gb T4700 (mkF m 166 (LF x0 x1 x2 x3 md pv lv sv fs f ev [SA q1, SA q2, SU, SU, SU, SU, SU]) [(.ref q6), (.ref q2), (.ref q5), (.ref q5)]) st4700 ?_
          refine gb T4700 (mkF m 169 (LF x0 x1 x2 x3 md pv lv sv fs f ev [SA q1, SA q2, SU, SU, SU, SU, SU]) [(.double (4607182418800017408 : UInt64)), (.double (0 : UInt64)), (.ref q6), (.ref q6), (.ref q2), (.ref q5), (.ref q5)]) (fun _ k => XS.dup X4700.here hx rfl (hb hby at_166) rfl rfl (XS.dconst0 X4700.here hx rfl (hb hby at_167) rfl (XS.dconst1 X4700.here hx rfl (hb hby at_168) rfl k))) ?_
          refine own_c1 (callI X4700 hx hZ (y := mn28) rfl hown (ww hw 59 rfl) (ww hw 60 rfl) (ww hw 61 rfl) (ww hw 58 rfl) (by decide) e4700 (a := q6) (argsL := [(.double (0 : UInt64)), (.double (4607182418800017408 : UInt64))]) (rest := [(.ref q6), (.ref q2), (.ref q5), (.ref q5)]) (W := 4) (au8_init l Z a0 hw q6 (0 : UInt64) (4607182418800017408 : UInt64) (0 : UInt64) (0 : UInt64) h4700 n0 Z0 E_q6 f4701 f4702 ge_q6) rfl (by decide) (by decide) (by decide) (by decide) rfl (by rw [hml]; rfl) (lenOf pd8 rfl) rfl (by show 2 * 0 + _ ≤ _; exact Nat.le_of_eq rfl) (hb hby at_169)) fun v4705 T4705 L4705 X4705 hQ4705 => ?_
          obtain ⟨rfl, NL4705, K4705, f4703, f4704⟩ := hQ4705
          have N0 := Fr.app N0 NL4705
          have e4705 : T4705.heap = T4705.heap := rfl
          have B0 := own_extK B0 K4705 (allS (Nat.le_trans qH ge_q6) all0)
          have E_q1 := E_q1.keep K4705
          have f4678 := f4678.keep K4705 (ninS ne_q1_q6 nin0)
          have f4679 := f4679.keep K4705 (ninS ne_q1_q6 nin0)
          have E_q2 := E_q2.keep K4705
          have f4686 := f4686.keep K4705 (ninS ne_q2_q6 nin0)
          have f4687 := f4687.keep K4705 (ninS ne_q2_q6 nin0)
          have f4688 := f4688.keep K4705 (ninS ne_q2_q6 nin0)
          have f4689 := f4689.keep K4705 (ninS ne_q2_q6 nin0)
          have f4690 := f4690.keep K4705
          have f4691 := f4691.keep K4705 (ninS ne_q3_q6 nin0)
          have f4692 := f4692.keep K4705 (ninS ne_q3_q6 nin0)
          have f4693 := f4693.keep K4705 (ninS ne_q3_q6 nin0)
          have f4694 := f4694.keep K4705
          have f4695 := f4695.keep K4705 (ninS ne_q4_q6 nin0)
          have E_q5 := E_q5.keep K4705
          have f4698 := f4698.keep K4705 (ninS ne_q5_q6 nin0)
          have f4699 := f4699.keep K4705 (ninS ne_q5_q6 nin0)
          have E_q6 := E_q6.keep K4705
          have Z0 := Nat.le_trans Z0 K4705.1
          refine own_c1 (callI X4705 hx hZ (y := mn41) rfl hown (ww hw 72 rfl) (ww hw 73 rfl) (ww hw 74 rfl) (ww hw 55 rfl) (by decide) e4705 (a := q5) (argsL := [(.ref q2), (.ref q6)]) (rest := [(.ref q5)]) (W := 1) (au25_init l Z a0 hw q5 q2 q6 q1 q3 q4 (0 : Int64) (0 : UInt64) T4705.heap n0 Z0 E_q2 f4686 f4687 f4688 f4689 f4690 f4691 f4692 f4693 f4694 f4695 E_q6 f4703 f4704 ne_q2_q3 ne_q2_q4 ne_q2_q6 ne_q3_q4 ne_q3_q6 ne_q4_q6 ge_q2 ge_q3 ge_q4) rfl (by decide) (by decide) (by decide) (by decide) rfl (by rw [hml]; rfl) (lenOf pd16 rfl) rfl (by show 2 * 0 + _ ≤ _; exact Nat.le_of_eq rfl) (hb hby at_172)) fun v4726 T4726 L4726 X4726 hQ4726 => ?_
          obtain ⟨q7, q8, rfl, NL4726, K4726, sz4726_q7, sz4726_q8, ne_q7_q8, f4706, f4707, f4708, f4709, f4710, f4711, f4712, f4713, f4714, f4715, f4716, f4717, f4718, f4719, f4720, f4721, f4722, f4723, f4724, f4725⟩ := hQ4726
          have N0 := Fr.app N0 NL4726
          have ne_q1_q7 : q1 ≠ q7 := own_nc E_q1.lt sz4726_q7
          have ne_q2_q7 : q2 ≠ q7 := own_nc E_q2.lt sz4726_q7
          have ne_q3_q7 : q3 ≠ q7 := own_nc f4690.lt sz4726_q7
          have ne_q4_q7 : q4 ≠ q7 := own_nc f4694.lt sz4726_q7
          have ne_q5_q7 : q5 ≠ q7 := own_nc E_q5.lt sz4726_q7
          have ge_q7 : n0 ≤ q7 := Nat.le_trans Z0 sz4726_q7
          have ne_q1_q8 : q1 ≠ q8 := own_nc E_q1.lt sz4726_q8
          have ne_q2_q8 : q2 ≠ q8 := own_nc E_q2.lt sz4726_q8
          have ne_q3_q8 : q3 ≠ q8 := own_nc f4690.lt sz4726_q8
          have ne_q4_q8 : q4 ≠ q8 := own_nc f4694.lt sz4726_q8
          have ne_q5_q8 : q5 ≠ q8 := own_nc E_q5.lt sz4726_q8
          have ge_q8 : n0 ≤ q8 := Nat.le_trans Z0 sz4726_q8
          have e4726 : T4726.heap = T4726.heap := rfl
          have B0 := own_extK B0 K4726 (allS (Nat.le_trans qH ge_q2) (allS (Nat.le_trans qH ge_q3) (allS (Nat.le_trans qH ge_q4) all0)))
          have E_q1 := E_q1.keep K4726
          have nin_q1 := (ninS ne_q1_q2 (ninS ne_q1_q3 (ninS ne_q1_q4 nin0)))
          have f4678 := f4678.keep K4726 nin_q1
          have f4679 := f4679.keep K4726 nin_q1
          have E_q2 := E_q2.keep K4726
          have f4690 := f4690.keep K4726
          have f4694 := f4694.keep K4726
          have E_q5 := E_q5.keep K4726
          have nin_q5 := (ninS (Ne.symm ne_q2_q5) (ninS (Ne.symm ne_q3_q5) (ninS (Ne.symm ne_q4_q5) nin0)))
          have f4698 := f4698.keep K4726 nin_q5
          have f4699 := f4699.keep K4726 nin_q5
          have Z0 := Nat.le_trans Z0 K4726.1
          have f4716 : Fld Z T4726.heap q2 sn2 "scheduled" "J" (.long (2 : Int64)) := f4716
          have f4725 : Fld Z T4726.heap q8 sn1 "sequence" "J" (.long (1 : Int64)) := f4725
          refine gb T4726 (mkF m 177 (LF x0 x1 x2 x3 md pv lv sv fs f ev [SA q1, SA q2, SA q5, SU, SU, SU, SU]) []) (fun _ k => XS.astore X4726.here hx rfl (hb hby at_175) rfl rfl (l' := (LF x0 x1 x2 x3 md pv lv sv fs f ev [SA q1, SA q2, SA q5, SU, SU, SU, SU])) rfl k) ?_
          obtain ⟨T4727, h4727, X4727, e4727, E4727, A4727, D4727, -, st4727⟩ := newO X4726 hx hZ hown (ww hw 161 rfl) (ww hw 162 rfl) (ww hw 163 rfl) e4726 (g := (mkF m 177 (LF x0 x1 x2 x3 md pv lv sv fs f ev [SA q1, SA q2, SA q5, SU, SU, SU, SU]) [])) rfl (hb hby at_177) (by decide) (by decide)
          obtain ⟨q9, g4727⟩ : ∃ z, z = T4726.heap.size := ⟨_, rfl⟩
          rw [← g4727] at A4727 D4727 st4727
          have ne_q1_q9 : q1 ≠ q9 := own_nb E_q1.lt g4727
          have ne_q2_q9 : q2 ≠ q9 := own_nb E_q2.lt g4727
          have ne_q3_q9 : q3 ≠ q9 := own_nb f4690.lt g4727
          have ne_q4_q9 : q4 ≠ q9 := own_nb f4694.lt g4727
          have ne_q5_q9 : q5 ≠ q9 := own_nb E_q5.lt g4727
          have ne_q7_q9 : q7 ≠ q9 := own_nb f4706.lt g4727
          have ne_q8_q9 : q8 ≠ q9 := own_nb f4712.lt g4727
          have ge_q9 : n0 ≤ q9 := Nat.le_trans Z0 (Nat.le_of_eq g4727.symm)
          have E_q1 := E_q1.ext E4727
          have f4678 := f4678.ext E4727
          have f4679 := f4679.ext E4727
          have E_q2 := E_q2.ext E4727
          have f4690 := f4690.ext E4727
          have f4694 := f4694.ext E4727
          have E_q5 := E_q5.ext E4727
          have f4698 := f4698.ext E4727
          have f4699 := f4699.ext E4727
          have f4706 := f4706.ext E4727
          have f4707 := f4707.ext E4727
          have f4708 := f4708.ext E4727
          have f4709 := f4709.ext E4727
          have f4710 := f4710.ext E4727
          have f4711 := f4711.ext E4727
          have f4712 := f4712.ext E4727
          have f4713 := f4713.ext E4727
          have f4714 := f4714.ext E4727
          have f4715 := f4715.ext E4727
          have f4716 := f4716.ext E4727
          have f4717 := f4717.ext E4727
          have f4718 := f4718.ext E4727
          have f4719 := f4719.ext E4727
          have f4720 := f4720.ext E4727
          have f4721 := f4721.ext E4727
          have f4722 := f4722.ext E4727
          have f4723 := f4723.ext E4727
          have f4724 := f4724.ext E4727
          have f4725 := f4725.ext E4727
          have B0 := own_extT B0 E4727
          have Z0 := Nat.le_trans Z0 E4727.1
          have E_q9 := A4727
          have f4728 : Fld Z h4727 q9 sn0 "left" "[J" .null := D4727 (Or.inr (ww hw 191 rfl)) (ty := (.array .long)) (by decide)
          have f4729 : Fld Z h4727 q9 sn0 "responseTimes" sn19 .null := D4727 (Or.inr (ww hw 204 rfl)) (ty := (.object sn11)) (by decide)
          have f4730 : Fld Z h4727 q9 sn0 "watchers" sn17 .null := D4727 (Or.inr (ww hw 230 rfl)) (ty := (.object "java/util/List")) (by decide)
          have f4731 : Fld Z h4727 q9 sn0 "simulation" sn14 .null := D4727 (Or.inr (ww hw 232 rfl)) (ty := (.object sn2)) (by decide)
          have f4732 : Fld Z h4727 q9 sn0 "window" sn15 .null := D4727 (Or.inr (ww hw 234 rfl)) (ty := (.object sn13)) (by decide)
          have f4733 : Fld Z h4727 q9 sn0 "measurement" sn6 .null := D4727 (Or.inr (ww hw 236 rfl)) (ty := (.object sn12)) (by decide)
          have f4734 : Fld Z h4727 q9 sn0 "deliveryTimeMetrics" sn34 .null := D4727 (Or.inr (ww hw 238 rfl)) (ty := (.object sn27)) (by decide)
          have f4735 : Fld Z h4727 q9 sn0 "within" "[D" .null := D4727 (Or.inr (ww hw 260 rfl)) (ty := (.array .double)) (by decide)
          have f4736 : Fld Z h4727 q9 sn0 "deliveredBy" "[J" .null := D4727 (Or.inr (ww hw 262 rfl)) (ty := (.array .long)) (by decide)
          have f4737 : Fld Z h4727 q9 sn0 "inNetwork" "J" (.long (0 : Int64)) := D4727 (Or.inl (ww hw 281 rfl)) (ty := .long) (by decide)
          have f4738 : Fld Z h4727 q9 sn0 "produced" "J" (.long (0 : Int64)) := D4727 (Or.inl (ww hw 283 rfl)) (ty := .long) (by decide)
          have f4739 : Fld Z h4727 q9 sn0 sn18 "J" (.long (0 : Int64)) := D4727 (Or.inl (ww hw 348 rfl)) (ty := .long) (by decide)
          have f4740 : Fld Z h4727 q9 sn0 sn20 "D" (.double (0 : UInt64)) := D4727 (Or.inl (ww hw 443 rfl)) (ty := .double) (by decide)
          refine gb T4727 (mkF m 180 (LF x0 x1 x2 x3 md pv lv sv fs f ev [SA q1, SA q2, SA q5, SU, SU, SU, SU]) [(.ref q9)]) st4727 ?_
          refine gb T4727 (mkF m 183 (LF x0 x1 x2 x3 md pv lv sv fs f ev [SA q1, SA q2, SA q5, SU, SU, SU, SU]) [(.ref q2), (.ref q9), (.ref q9)]) (fun _ k => XS.dup X4727.here hx rfl (hb hby at_180) rfl rfl (XS.aload X4727.here hx rfl (hb hby at_181) rfl rfl k)) ?_
          obtain ⟨T4741, h4741, X4741, e4741, E4741, A4741, D4741, -, st4741⟩ := newO X4727 hx hZ hown (ww hw 56 rfl) (ww hw 57 rfl) (ww hw 58 rfl) e4727 (g := (mkF m 183 (LF x0 x1 x2 x3 md pv lv sv fs f ev [SA q1, SA q2, SA q5, SU, SU, SU, SU]) [(.ref q2), (.ref q9), (.ref q9)])) rfl (hb hby at_183) (by decide) (by decide)
          obtain ⟨q10, g4741⟩ : ∃ z, z = h4727.size := ⟨_, rfl⟩
          rw [← g4741] at A4741 D4741 st4741
          have ne_q1_q10 : q1 ≠ q10 := own_nb E_q1.lt g4741
          have ne_q2_q10 : q2 ≠ q10 := own_nb E_q2.lt g4741
          have ne_q3_q10 : q3 ≠ q10 := own_nb f4690.lt g4741
          have ne_q4_q10 : q4 ≠ q10 := own_nb f4694.lt g4741
          have ne_q5_q10 : q5 ≠ q10 := own_nb E_q5.lt g4741
          have ne_q7_q10 : q7 ≠ q10 := own_nb f4706.lt g4741
          have ne_q8_q10 : q8 ≠ q10 := own_nb f4712.lt g4741
          have ne_q9_q10 : q9 ≠ q10 := own_nb E_q9.lt g4741
          have ge_q10 : n0 ≤ q10 := Nat.le_trans Z0 (Nat.le_of_eq g4741.symm)
          have E_q1 := E_q1.ext E4741
          have f4678 := f4678.ext E4741
          have f4679 := f4679.ext E4741
          have E_q2 := E_q2.ext E4741
          have f4690 := f4690.ext E4741
          have f4694 := f4694.ext E4741
          have E_q5 := E_q5.ext E4741
          have f4698 := f4698.ext E4741
          have f4699 := f4699.ext E4741
          have f4706 := f4706.ext E4741
          have f4707 := f4707.ext E4741
          have f4708 := f4708.ext E4741
          have f4709 := f4709.ext E4741
          have f4710 := f4710.ext E4741
          have f4711 := f4711.ext E4741
          have f4712 := f4712.ext E4741
          have f4713 := f4713.ext E4741
          have f4714 := f4714.ext E4741
          have f4715 := f4715.ext E4741
          have f4716 := f4716.ext E4741
          have f4717 := f4717.ext E4741
          have f4718 := f4718.ext E4741
          have f4719 := f4719.ext E4741
          have f4720 := f4720.ext E4741
          have f4721 := f4721.ext E4741
          have f4722 := f4722.ext E4741
          have f4723 := f4723.ext E4741
          have f4724 := f4724.ext E4741
          have f4725 := f4725.ext E4741
          have E_q9 := E_q9.ext E4741
          have f4728 := f4728.ext E4741
          have f4729 := f4729.ext E4741
          have f4730 := f4730.ext E4741
          have f4731 := f4731.ext E4741
          have f4732 := f4732.ext E4741
          have f4733 := f4733.ext E4741
          have f4734 := f4734.ext E4741
          have f4735 := f4735.ext E4741
          have f4736 := f4736.ext E4741
          have f4737 := f4737.ext E4741
          have f4738 := f4738.ext E4741
          have f4739 := f4739.ext E4741
          have f4740 := f4740.ext E4741
          have B0 := own_extT B0 E4741
          have Z0 := Nat.le_trans Z0 E4741.1
          have E_q10 := A4741
          have f4742 : Fld Z h4741 q10 sn13 "start" "D" (.double (0 : UInt64)) := D4741 (Or.inr (ww hw 69 rfl)) (ty := .double) (by decide)
          have f4743 : Fld Z h4741 q10 sn13 "end" "D" (.double (0 : UInt64)) := D4741 (Or.inr (ww hw 71 rfl)) (ty := .double) (by decide)
          refine gb T4741 (mkF m 186 (LF x0 x1 x2 x3 md pv lv sv fs f ev [SA q1, SA q2, SA q5, SU, SU, SU, SU]) [(.ref q10), (.ref q2), (.ref q9), (.ref q9)]) st4741 ?_
          refine gb T4741 (mkF m 190 (LF x0 x1 x2 x3 md pv lv sv fs f ev [SA q1, SA q2, SA q5, SU, SU, SU, SU]) [(.double ev), (.double (0 : UInt64)), (.ref q10), (.ref q10), (.ref q2), (.ref q9), (.ref q9)]) (fun _ k => XS.dup X4741.here hx rfl (hb hby at_186) rfl rfl (XS.dconst0 X4741.here hx rfl (hb hby at_187) rfl (XS.dload X4741.here hx rfl (hb hby at_188) rfl k))) ?_
          refine own_c1 (callI X4741 hx hZ (y := mn28) rfl hown (ww hw 59 rfl) (ww hw 60 rfl) (ww hw 61 rfl) (ww hw 58 rfl) (by decide) e4741 (a := q10) (argsL := [(.double (0 : UInt64)), (.double ev)]) (rest := [(.ref q10), (.ref q2), (.ref q9), (.ref q9)]) (W := 4) (au8_init l Z a0 hw q10 (0 : UInt64) ev (0 : UInt64) (0 : UInt64) h4741 n0 Z0 E_q10 f4742 f4743 ge_q10) rfl (by decide) (by decide) (by decide) (by decide) rfl (by rw [hml]; rfl) (lenOf pd8 rfl) rfl (by show 2 * 0 + _ ≤ _; exact Nat.le_of_eq rfl) (hb hby at_190)) fun v4746 T4746 L4746 X4746 hQ4746 => ?_
          obtain ⟨rfl, NL4746, K4746, f4744, f4745⟩ := hQ4746
          have N0 := Fr.app N0 NL4746
          have e4746 : T4746.heap = T4746.heap := rfl
          have B0 := own_extK B0 K4746 (allS (Nat.le_trans qH ge_q10) all0)
          have E_q1 := E_q1.keep K4746
          have f4678 := f4678.keep K4746 (ninS ne_q1_q10 nin0)
          have f4679 := f4679.keep K4746 (ninS ne_q1_q10 nin0)
          have E_q2 := E_q2.keep K4746
          have f4690 := f4690.keep K4746
          have f4694 := f4694.keep K4746
          have E_q5 := E_q5.keep K4746
          have f4698 := f4698.keep K4746 (ninS ne_q5_q10 nin0)
          have f4699 := f4699.keep K4746 (ninS ne_q5_q10 nin0)
          have f4706 := f4706.keep K4746
          have f4707 := f4707.keep K4746 (ninS ne_q7_q10 nin0)
          have f4708 := f4708.keep K4746 (ninS ne_q7_q10 nin0)
          have f4709 := f4709.keep K4746 (ninS ne_q7_q10 nin0)
          have f4710 := f4710.keep K4746 (ninS ne_q7_q10 nin0)
          have f4711 := f4711.keep K4746 (ninS ne_q7_q10 nin0)
          have f4712 := f4712.keep K4746
          have f4713 := f4713.keep K4746 (ninS ne_q2_q10 nin0)
          have f4714 := f4714.keep K4746 (ninS ne_q2_q10 nin0)
          have f4715 := f4715.keep K4746 (ninS ne_q2_q10 nin0)
          have f4716 := f4716.keep K4746 (ninS ne_q2_q10 nin0)
          have f4717 := f4717.keep K4746 (ninS ne_q3_q10 nin0)
          have f4718 := f4718.keep K4746 (ninS ne_q3_q10 nin0)
          have f4719 := f4719.keep K4746 (ninS ne_q3_q10 nin0)
          have f4720 := f4720.keep K4746 (ninS ne_q4_q10 nin0)
          have f4721 := f4721.keep K4746 (ninS ne_q8_q10 nin0)
          have f4722 := f4722.keep K4746 (ninS ne_q8_q10 nin0)
          have f4723 := f4723.keep K4746 (ninS ne_q8_q10 nin0)
          have f4724 := f4724.keep K4746 (ninS ne_q8_q10 nin0)
          have f4725 := f4725.keep K4746 (ninS ne_q8_q10 nin0)
          have E_q9 := E_q9.keep K4746
          have f4728 := f4728.keep K4746 (ninS ne_q9_q10 nin0)
          have f4729 := f4729.keep K4746 (ninS ne_q9_q10 nin0)
          have f4730 := f4730.keep K4746 (ninS ne_q9_q10 nin0)
          have f4731 := f4731.keep K4746 (ninS ne_q9_q10 nin0)
          have f4732 := f4732.keep K4746 (ninS ne_q9_q10 nin0)
          have f4733 := f4733.keep K4746 (ninS ne_q9_q10 nin0)
          have f4734 := f4734.keep K4746 (ninS ne_q9_q10 nin0)
          have f4735 := f4735.keep K4746 (ninS ne_q9_q10 nin0)
          have f4736 := f4736.keep K4746 (ninS ne_q9_q10 nin0)
          have f4737 := f4737.keep K4746 (ninS ne_q9_q10 nin0)
          have f4738 := f4738.keep K4746 (ninS ne_q9_q10 nin0)
          have f4739 := f4739.keep K4746 (ninS ne_q9_q10 nin0)
          have f4740 := f4740.keep K4746 (ninS ne_q9_q10 nin0)
          have E_q10 := E_q10.keep K4746
          have Z0 := Nat.le_trans Z0 K4746.1
          refine gb T4746 (mkF m 195 (LF x0 x1 x2 x3 md pv lv sv fs f ev [SA q1, SA q2, SA q5, SU, SU, SU, SU]) [(.ref q5), (.ref q10), (.ref q2), (.ref q9), (.ref q9)]) (fun _ k => XS.aload X4746.here hx rfl (hb hby at_193) rfl rfl k) ?_
          refine own_g1 (getS X4746 hx hZ (host := "") hown (ww hw 164 rfl) Via.refl e4746 (S_NONE.ext B0) rfl (hb hby at_195)) fun T4747 X4747 e4747 => ?_
          refine own_c1 (callI X4747 hx hZ (y := mn45) rfl hown (ww hw 167 rfl) (ww hw 168 rfl) (ww hw 169 rfl) (ww hw 163 rfl) (by decide) e4747 (a := q9) (argsL := [(.ref q2), (.ref q10), (.ref q5), (.ref nn)]) (rest := [(.ref q9)]) (W := 1) (au33_init l Z a0 hw q9 q2 q10 q5 nn vals dc li els fD fE fL fR (0 : Int64) (0 : Int64) (0 : Int64) (0 : UInt64) h0 T4746.heap n0 Z0 S__VALUES S_DEFAULTCAPACITY_EMPTY_ELEMENTDATA E_nn E_li E_vals F_within_nn F_elements_li V_vals V_els E_q9 f4728 f4729 f4730 f4731 f4732 f4733 f4734 f4735 f4736 f4737 f4738 f4739 f4740 ge_q9 qH B0) rfl (by decide) (by decide) (by decide) (by decide) rfl (by rw [hml]; rfl) (lenOf pd20 rfl) rfl (by show 2 * 0 + _ ≤ _; exact Nat.le_of_eq rfl) (hb hby at_198)) fun v4769 T4769 L4769 X4769 hQ4769 => ?_
          obtain ⟨q11, q12, q13, q14, q15, rfl, NL4769, K4769, sz4769_q11, sz4769_q12, sz4769_q13, sz4769_q14, sz4769_q15, ne_q11_q12, ne_q11_q13, ne_q11_q14, ne_q11_q15, ne_q12_q13, ne_q12_q14, ne_q12_q15, ne_q13_q14, ne_q13_q15, ne_q14_q15, f4748, f4749, f4750, f4751, f4752, f4753, f4754, f4755, f4756, f4757, f4758, f4759, f4760, f4761, f4762, f4763, f4764, f4765, f4766, f4767, f4768⟩ := hQ4769
          have N0 := Fr.app N0 NL4769
          have ne_q1_q11 : q1 ≠ q11 := own_nc E_q1.lt sz4769_q11
          have ne_q2_q11 : q2 ≠ q11 := own_nc E_q2.lt sz4769_q11
          have ne_q3_q11 : q3 ≠ q11 := own_nc f4690.lt sz4769_q11
          have ne_q4_q11 : q4 ≠ q11 := own_nc f4694.lt sz4769_q11
          have ne_q5_q11 : q5 ≠ q11 := own_nc E_q5.lt sz4769_q11
          have ne_q7_q11 : q7 ≠ q11 := own_nc f4706.lt sz4769_q11
          have ne_q8_q11 : q8 ≠ q11 := own_nc f4712.lt sz4769_q11
          have ne_q9_q11 : q9 ≠ q11 := own_nc E_q9.lt sz4769_q11
          have ne_q10_q11 : q10 ≠ q11 := own_nc E_q10.lt sz4769_q11
          have ge_q11 : n0 ≤ q11 := Nat.le_trans Z0 sz4769_q11
          have ne_q1_q12 : q1 ≠ q12 := own_nc E_q1.lt sz4769_q12
          have ne_q2_q12 : q2 ≠ q12 := own_nc E_q2.lt sz4769_q12
          have ne_q3_q12 : q3 ≠ q12 := own_nc f4690.lt sz4769_q12
          have ne_q4_q12 : q4 ≠ q12 := own_nc f4694.lt sz4769_q12
          have ne_q5_q12 : q5 ≠ q12 := own_nc E_q5.lt sz4769_q12
          have ne_q7_q12 : q7 ≠ q12 := own_nc f4706.lt sz4769_q12
          have ne_q8_q12 : q8 ≠ q12 := own_nc f4712.lt sz4769_q12
          have ne_q9_q12 : q9 ≠ q12 := own_nc E_q9.lt sz4769_q12
          have ne_q10_q12 : q10 ≠ q12 := own_nc E_q10.lt sz4769_q12
          have ge_q12 : n0 ≤ q12 := Nat.le_trans Z0 sz4769_q12
          have ne_q1_q13 : q1 ≠ q13 := own_nc E_q1.lt sz4769_q13
          have ne_q2_q13 : q2 ≠ q13 := own_nc E_q2.lt sz4769_q13
          have ne_q3_q13 : q3 ≠ q13 := own_nc f4690.lt sz4769_q13
          have ne_q4_q13 : q4 ≠ q13 := own_nc f4694.lt sz4769_q13
          have ne_q5_q13 : q5 ≠ q13 := own_nc E_q5.lt sz4769_q13
          have ne_q7_q13 : q7 ≠ q13 := own_nc f4706.lt sz4769_q13
          have ne_q8_q13 : q8 ≠ q13 := own_nc f4712.lt sz4769_q13
          have ne_q9_q13 : q9 ≠ q13 := own_nc E_q9.lt sz4769_q13
          have ge_q13 : n0 ≤ q13 := Nat.le_trans Z0 sz4769_q13
          have ne_q1_q14 : q1 ≠ q14 := own_nc E_q1.lt sz4769_q14
          have ne_q2_q14 : q2 ≠ q14 := own_nc E_q2.lt sz4769_q14
          have ne_q3_q14 : q3 ≠ q14 := own_nc f4690.lt sz4769_q14
          have ne_q4_q14 : q4 ≠ q14 := own_nc f4694.lt sz4769_q14
          have ne_q5_q14 : q5 ≠ q14 := own_nc E_q5.lt sz4769_q14
          have ne_q7_q14 : q7 ≠ q14 := own_nc f4706.lt sz4769_q14
          have ne_q8_q14 : q8 ≠ q14 := own_nc f4712.lt sz4769_q14
          have ne_q9_q14 : q9 ≠ q14 := own_nc E_q9.lt sz4769_q14
          have ge_q14 : n0 ≤ q14 := Nat.le_trans Z0 sz4769_q14
          have ne_q1_q15 : q1 ≠ q15 := own_nc E_q1.lt sz4769_q15
          have ne_q2_q15 : q2 ≠ q15 := own_nc E_q2.lt sz4769_q15
          have ne_q3_q15 : q3 ≠ q15 := own_nc f4690.lt sz4769_q15
          have ne_q4_q15 : q4 ≠ q15 := own_nc f4694.lt sz4769_q15
          have ne_q5_q15 : q5 ≠ q15 := own_nc E_q5.lt sz4769_q15
          have ne_q7_q15 : q7 ≠ q15 := own_nc f4706.lt sz4769_q15
          have ne_q8_q15 : q8 ≠ q15 := own_nc f4712.lt sz4769_q15
          have ne_q9_q15 : q9 ≠ q15 := own_nc E_q9.lt sz4769_q15
          have ne_q10_q15 : q10 ≠ q15 := own_nc E_q10.lt sz4769_q15
          have ge_q15 : n0 ≤ q15 := Nat.le_trans Z0 sz4769_q15
          have e4769 : T4769.heap = T4769.heap := rfl
          have B0 := own_extK B0 K4769 (allS (Nat.le_trans qH ge_q9) all0)
          have E_q1 := E_q1.keep K4769
          have f4678 := f4678.keep K4769 (ninS ne_q1_q9 nin0)
          have f4679 := f4679.keep K4769 (ninS ne_q1_q9 nin0)
          have E_q2 := E_q2.keep K4769
          have f4690 := f4690.keep K4769
          have f4694 := f4694.keep K4769
          have E_q5 := E_q5.keep K4769
          have f4698 := f4698.keep K4769 (ninS ne_q5_q9 nin0)
          have f4699 := f4699.keep K4769 (ninS ne_q5_q9 nin0)
          have f4706 := f4706.keep K4769
          have f4707 := f4707.keep K4769 (ninS ne_q7_q9 nin0)
          have f4708 := f4708.keep K4769 (ninS ne_q7_q9 nin0)
          have f4709 := f4709.keep K4769 (ninS ne_q7_q9 nin0)
          have f4710 := f4710.keep K4769 (ninS ne_q7_q9 nin0)
          have f4711 := f4711.keep K4769 (ninS ne_q7_q9 nin0)
          have f4712 := f4712.keep K4769
          have f4713 := f4713.keep K4769 (ninS ne_q2_q9 nin0)
          have f4714 := f4714.keep K4769 (ninS ne_q2_q9 nin0)
          have f4715 := f4715.keep K4769 (ninS ne_q2_q9 nin0)
          have f4716 := f4716.keep K4769 (ninS ne_q2_q9 nin0)
          have f4717 := f4717.keep K4769 (ninS ne_q3_q9 nin0)
          have f4718 := f4718.keep K4769 (ninS ne_q3_q9 nin0)
          have f4719 := f4719.keep K4769 (ninS ne_q3_q9 nin0)
          have f4720 := f4720.keep K4769 (ninS ne_q4_q9 nin0)
          have f4721 := f4721.keep K4769 (ninS ne_q8_q9 nin0)
          have f4722 := f4722.keep K4769 (ninS ne_q8_q9 nin0)
          have f4723 := f4723.keep K4769 (ninS ne_q8_q9 nin0)
          have f4724 := f4724.keep K4769 (ninS ne_q8_q9 nin0)
          have f4725 := f4725.keep K4769 (ninS ne_q8_q9 nin0)
          have E_q9 := E_q9.keep K4769
          have E_q10 := E_q10.keep K4769
          have f4745 := f4745.keep K4769 (ninS (Ne.symm ne_q9_q10) nin0)
          have Z0 := Nat.le_trans Z0 K4769.1
          refine gb T4769 (mkF m 206 (LF x0 x1 x2 x3 md pv lv sv fs f ev [SA q1, SA q2, SA q5, SA q9, SN, SU, SU]) []) (fun _ k => XS.astore X4769.here hx rfl (hb hby at_201) rfl rfl (l' := (LF x0 x1 x2 x3 md pv lv sv fs f ev [SA q1, SA q2, SA q5, SA q9, SU, SU, SU])) rfl (XS.aconstNull X4769.here hx rfl (hb hby at_203)  (XS.astore X4769.here hx rfl (hb hby at_204) rfl rfl (l' := (LF x0 x1 x2 x3 md pv lv sv fs f ev [SA q1, SA q2, SA q5, SA q9, SN, SU, SU])) rfl k))) ?_
          have jz : ∀ (pj lj : Int32) (nv : Int64) (fj : Addr) (v18 v19 : Value) (Tj4770 : State) (hj4770 : Heap) (Lj4770 : List Loc), Stand p l e room_1 s m #[(.int x0), (.int x1), (.int x2), (.int x3)] below meth c Tj4770 Lj4770 48 4416 → Tj4770.heap = hj4770 → Fr n0 Lj4770 → n0 ≤ hj4770.size → Exa Z hj4770 q9 sn0 → Exa Z hj4770 q2 sn2 → Exa Z hj4770 q10 sn13 → Fld Z hj4770 q9 sn0 "simulation" sn14 (.ref q2) → Fld Z hj4770 q9 sn0 "window" sn15 (.ref q10) → Fld Z hj4770 q2 sn2 "now" "D" (.double (4607182418800017409 : UInt64)) → Fld Z hj4770 q10 sn13 "end" "D" (.double ev) → Fld Z hj4770 q9 sn0 "inNetwork" "J" (.long nv) → (pj = 0 ∧ lj = 0 ∧ nv = 0) ∨ (pj = 1 ∧ lj = 0 ∧ nv = 1) ∨ (pj = 1 ∧ lj = 1 ∧ nv = 0) ∨ (pj = 2 ∧ lj = 0 ∧ nv = 2) ∨ (pj = 2 ∧ lj = 1 ∧ nv = 1) → Goes p e below (Fin1 below s room_1 (fun v h L => v = some (.int 1) ∧ Fr n0 L)) Tj4770 (mkF m 271 (LF x0 x1 x2 x3 md pj lj sv fs fj ev [SA q1, SA q2, SA q5, SA q9, .val v18, .val v19, SU]) []) := by
            intro pj lj nv fj v18 v19 Tj4770 hj4770 Lj4770 Xj4770 ej4770 N0 Z0 E_q9_j E_q2_j E_q10_j F_simulation_q9_j F_window_q9_j F_now_q2_j F_end_q10_j F_inNetwork_q9_j hJ
            rcases hev with ⟨rfl, rfl⟩ | ⟨rfl, rfl⟩ | ⟨rfl, ki, hki, hk2⟩ <;> rcases hJ with ⟨rfl, rfl, rfl⟩ | ⟨rfl, rfl, rfl⟩ | ⟨rfl, rfl, rfl⟩ | ⟨rfl, rfl, rfl⟩ | ⟨rfl, rfl, rfl⟩
            · refine gb Tj4770 (mkF m 274 (LF x0 x1 x2 x3 0 0 0 sv fs fj 4607182418800017409 [SA q1, SA q2, SA q5, SA q9, .val v18, .val v19, SU]) [(.int (2 : Int32)), (.int (0 : Int32))]) (fun _ k => XS.iload Xj4770.here hx rfl (hb hby at_271) rfl (XS.iconst Xj4770.here hx rfl (hb hby at_273)  k)) ?_
              refine gb Tj4770 (mkF m 277 (LF x0 x1 x2 x3 0 0 0 sv fs fj 4607182418800017409 [SA q1, SA q2, SA q5, SA q9, .val v18, .val v19, SU]) []) (fun _ k => XS.icmpNo Xj4770.here hx rfl (hb hby at_274) rfl (by decide) k) ?_
              refine gb Tj4770 (mkF m 281 (LF x0 x1 x2 x3 0 0 0 sv fs fj 4607182418800017409 [SA q1, SA q2, SA q5, SA q9, .val v18, .val v19, SU]) [(.int (0 : Int32)), (.int (0 : Int32))]) (fun _ k => XS.iload Xj4770.here hx rfl (hb hby at_277) rfl (XS.iload Xj4770.here hx rfl (hb hby at_279) rfl k)) ?_
              refine gb Tj4770 (mkF m 282 (LF x0 x1 x2 x3 0 0 0 sv fs fj 4607182418800017409 [SA q1, SA q2, SA q5, SA q9, .val v18, .val v19, SU]) [(.int (0 : Int32))]) (fun _ k => XS.isub Xj4770.here hx rfl (hb hby at_281) rfl k) ?_
              refine gb Tj4770 (mkF m 289 (LF x0 x1 x2 x3 0 0 0 sv fs fj 4607182418800017409 [SA q1, SA q2, SA q5, SA q9, .val v18, .val v19, SU]) []) (fun _ k => XS.ifYes Xj4770.here hx rfl (pc0 := 282) (pc' := 289) rfl (hb hby at_282) rfl (by decide) (by decide) (by decide) k) ?_
              refine gb Tj4770 (mkF m 294 (LF x0 x1 x2 x3 0 0 0 sv fs fj 4607182418800017409 [SA q1, SA q2, SA q5, SA q9, .val v18, .val v19, SI 0]) [(.ref q9)]) (fun _ k => XS.iconst Xj4770.here hx rfl (hb hby at_289)  (XS.istore Xj4770.here hx rfl (hb hby at_290) rfl (l' := (LF x0 x1 x2 x3 0 0 0 sv fs fj 4607182418800017409 [SA q1, SA q2, SA q5, SA q9, .val v18, .val v19, SI 0])) rfl (XS.aload Xj4770.here hx rfl (hb hby at_292) rfl rfl k))) ?_
              refine own_c1 (callV Xj4770 hx hZ (y := mn0) hown (ww hw 414 rfl) (ww hw 415 rfl) (ww hw 417 rfl) (ww hw 416 rfl) (ww hw 418 rfl) (ww hw 163 rfl) (by decide) ej4770 E_q9_j (argsL := []) (rest := []) (W := 0) (au_goesOn0 l Z a0 hw q9 q2 q10 _ _ (0 : Int32) hj4770 n0 Z0 E_q9_j E_q2_j E_q10_j F_simulation_q9_j F_window_q9_j F_now_q2_j F_end_q10_j F_inNetwork_q9_j (by decide +kernel) (by decide)) rfl (by decide) (by decide) (by decide) (by decide) rfl (by rw [hml]; rfl) (lenOf pd0 rfl) rfl (by show 2 * 0 + _ ≤ _; exact Nat.le_of_eq rfl) (hb hby at_294)) fun v4771 T4771 L4771 X4771 hQ4771 => ?_
              obtain ⟨rfl, NL4771, hk4771⟩ := hQ4771
              have N0 := Fr.app N0 NL4771
              refine gb T4771 (mkF m 299 (LF x0 x1 x2 x3 0 0 0 sv fs fj 4607182418800017409 [SA q1, SA q2, SA q5, SA q9, .val v18, .val v19, SI 0]) [(.int (0 : Int32)), (.int (0 : Int32))]) (fun _ k => XS.iload X4771.here hx rfl (hb hby at_297) rfl k) ?_
              refine gb T4771 (mkF m 302 (LF x0 x1 x2 x3 0 0 0 sv fs fj 4607182418800017409 [SA q1, SA q2, SA q5, SA q9, .val v18, .val v19, SI 0]) []) (fun _ k => XS.icmpNo X4771.here hx rfl (hb hby at_299) rfl (by decide) k) ?_
              refine gb T4771 (mkF m 303 (LF x0 x1 x2 x3 0 0 0 sv fs fj 4607182418800017409 [SA q1, SA q2, SA q5, SA q9, .val v18, .val v19, SI 0]) [(.int (1 : Int32))]) (fun _ k => XS.iconst X4771.here hx rfl (hb hby at_302)  k) ?_
              refine gb T4771 (mkF m 307 (LF x0 x1 x2 x3 0 0 0 sv fs fj 4607182418800017409 [SA q1, SA q2, SA q5, SA q9, .val v18, .val v19, SI 0]) [(.int (1 : Int32))]) (fun _ k => XS.goto X4771.here hx rfl (pc0 := 303) (pc' := 307) rfl (hb hby at_303) (by decide) (by decide) k) ?_
              exact outZ X4771 hx hlk hret (hb hby at_307) (by exact ⟨rfl, N0⟩) (by decide) (by decide)
            · refine gb Tj4770 (mkF m 274 (LF x0 x1 x2 x3 0 1 0 sv fs fj 4607182418800017409 [SA q1, SA q2, SA q5, SA q9, .val v18, .val v19, SU]) [(.int (2 : Int32)), (.int (0 : Int32))]) (fun _ k => XS.iload Xj4770.here hx rfl (hb hby at_271) rfl (XS.iconst Xj4770.here hx rfl (hb hby at_273)  k)) ?_
              refine gb Tj4770 (mkF m 277 (LF x0 x1 x2 x3 0 1 0 sv fs fj 4607182418800017409 [SA q1, SA q2, SA q5, SA q9, .val v18, .val v19, SU]) []) (fun _ k => XS.icmpNo Xj4770.here hx rfl (hb hby at_274) rfl (by decide) k) ?_
              refine gb Tj4770 (mkF m 281 (LF x0 x1 x2 x3 0 1 0 sv fs fj 4607182418800017409 [SA q1, SA q2, SA q5, SA q9, .val v18, .val v19, SU]) [(.int (0 : Int32)), (.int (1 : Int32))]) (fun _ k => XS.iload Xj4770.here hx rfl (hb hby at_277) rfl (XS.iload Xj4770.here hx rfl (hb hby at_279) rfl k)) ?_
              refine gb Tj4770 (mkF m 282 (LF x0 x1 x2 x3 0 1 0 sv fs fj 4607182418800017409 [SA q1, SA q2, SA q5, SA q9, .val v18, .val v19, SU]) [(.int (1 : Int32))]) (fun _ k => XS.isub Xj4770.here hx rfl (hb hby at_281) rfl k) ?_
              refine gb Tj4770 (mkF m 285 (LF x0 x1 x2 x3 0 1 0 sv fs fj 4607182418800017409 [SA q1, SA q2, SA q5, SA q9, .val v18, .val v19, SU]) []) (fun _ k => XS.ifNo Xj4770.here hx rfl (hb hby at_282) rfl (by decide) k) ?_
              refine gb Tj4770 (mkF m 286 (LF x0 x1 x2 x3 0 1 0 sv fs fj 4607182418800017409 [SA q1, SA q2, SA q5, SA q9, .val v18, .val v19, SU]) [(.int (1 : Int32))]) (fun _ k => XS.iconst Xj4770.here hx rfl (hb hby at_285)  k) ?_
              refine gb Tj4770 (mkF m 290 (LF x0 x1 x2 x3 0 1 0 sv fs fj 4607182418800017409 [SA q1, SA q2, SA q5, SA q9, .val v18, .val v19, SU]) [(.int (1 : Int32))]) (fun _ k => XS.goto Xj4770.here hx rfl (pc0 := 286) (pc' := 290) rfl (hb hby at_286) (by decide) (by decide) k) ?_
              refine gb Tj4770 (mkF m 294 (LF x0 x1 x2 x3 0 1 0 sv fs fj 4607182418800017409 [SA q1, SA q2, SA q5, SA q9, .val v18, .val v19, SI 1]) [(.ref q9)]) (fun _ k => XS.istore Xj4770.here hx rfl (hb hby at_290) rfl (l' := (LF x0 x1 x2 x3 0 1 0 sv fs fj 4607182418800017409 [SA q1, SA q2, SA q5, SA q9, .val v18, .val v19, SI 1])) rfl (XS.aload Xj4770.here hx rfl (hb hby at_292) rfl rfl k)) ?_
              refine own_c1 (callV Xj4770 hx hZ (y := mn0) hown (ww hw 414 rfl) (ww hw 415 rfl) (ww hw 417 rfl) (ww hw 416 rfl) (ww hw 418 rfl) (ww hw 163 rfl) (by decide) ej4770 E_q9_j (argsL := []) (rest := []) (W := 0) (au_goesOn1 l Z a0 hw q9 q2 q10 _ _ (0 : Int32) hj4770 n0 Z0 E_q9_j E_q2_j E_q10_j F_simulation_q9_j F_window_q9_j F_now_q2_j F_end_q10_j F_inNetwork_q9_j (by decide +kernel) (by decide)) rfl (by decide) (by decide) (by decide) (by decide) rfl (by rw [hml]; rfl) (lenOf pd0 rfl) rfl (by show 2 * 0 + _ ≤ _; exact Nat.le_of_eq rfl) (hb hby at_294)) fun v4772 T4772 L4772 X4772 hQ4772 => ?_
              obtain ⟨rfl, NL4772, hk4772⟩ := hQ4772
              have N0 := Fr.app N0 NL4772
              refine gb T4772 (mkF m 299 (LF x0 x1 x2 x3 0 1 0 sv fs fj 4607182418800017409 [SA q1, SA q2, SA q5, SA q9, .val v18, .val v19, SI 1]) [(.int (1 : Int32)), (.int (1 : Int32))]) (fun _ k => XS.iload X4772.here hx rfl (hb hby at_297) rfl k) ?_
              refine gb T4772 (mkF m 302 (LF x0 x1 x2 x3 0 1 0 sv fs fj 4607182418800017409 [SA q1, SA q2, SA q5, SA q9, .val v18, .val v19, SI 1]) []) (fun _ k => XS.icmpNo X4772.here hx rfl (hb hby at_299) rfl (by decide) k) ?_
              refine gb T4772 (mkF m 303 (LF x0 x1 x2 x3 0 1 0 sv fs fj 4607182418800017409 [SA q1, SA q2, SA q5, SA q9, .val v18, .val v19, SI 1]) [(.int (1 : Int32))]) (fun _ k => XS.iconst X4772.here hx rfl (hb hby at_302)  k) ?_
              refine gb T4772 (mkF m 307 (LF x0 x1 x2 x3 0 1 0 sv fs fj 4607182418800017409 [SA q1, SA q2, SA q5, SA q9, .val v18, .val v19, SI 1]) [(.int (1 : Int32))]) (fun _ k => XS.goto X4772.here hx rfl (pc0 := 303) (pc' := 307) rfl (hb hby at_303) (by decide) (by decide) k) ?_
              exact outZ X4772 hx hlk hret (hb hby at_307) (by exact ⟨rfl, N0⟩) (by decide) (by decide)
            · refine gb Tj4770 (mkF m 274 (LF x0 x1 x2 x3 0 1 1 sv fs fj 4607182418800017409 [SA q1, SA q2, SA q5, SA q9, .val v18, .val v19, SU]) [(.int (2 : Int32)), (.int (0 : Int32))]) (fun _ k => XS.iload Xj4770.here hx rfl (hb hby at_271) rfl (XS.iconst Xj4770.here hx rfl (hb hby at_273)  k)) ?_
              refine gb Tj4770 (mkF m 277 (LF x0 x1 x2 x3 0 1 1 sv fs fj 4607182418800017409 [SA q1, SA q2, SA q5, SA q9, .val v18, .val v19, SU]) []) (fun _ k => XS.icmpNo Xj4770.here hx rfl (hb hby at_274) rfl (by decide) k) ?_
              refine gb Tj4770 (mkF m 281 (LF x0 x1 x2 x3 0 1 1 sv fs fj 4607182418800017409 [SA q1, SA q2, SA q5, SA q9, .val v18, .val v19, SU]) [(.int (1 : Int32)), (.int (1 : Int32))]) (fun _ k => XS.iload Xj4770.here hx rfl (hb hby at_277) rfl (XS.iload Xj4770.here hx rfl (hb hby at_279) rfl k)) ?_
              refine gb Tj4770 (mkF m 282 (LF x0 x1 x2 x3 0 1 1 sv fs fj 4607182418800017409 [SA q1, SA q2, SA q5, SA q9, .val v18, .val v19, SU]) [(.int (0 : Int32))]) (fun _ k => XS.isub Xj4770.here hx rfl (hb hby at_281) rfl k) ?_
              refine gb Tj4770 (mkF m 289 (LF x0 x1 x2 x3 0 1 1 sv fs fj 4607182418800017409 [SA q1, SA q2, SA q5, SA q9, .val v18, .val v19, SU]) []) (fun _ k => XS.ifYes Xj4770.here hx rfl (pc0 := 282) (pc' := 289) rfl (hb hby at_282) rfl (by decide) (by decide) (by decide) k) ?_
              refine gb Tj4770 (mkF m 294 (LF x0 x1 x2 x3 0 1 1 sv fs fj 4607182418800017409 [SA q1, SA q2, SA q5, SA q9, .val v18, .val v19, SI 0]) [(.ref q9)]) (fun _ k => XS.iconst Xj4770.here hx rfl (hb hby at_289)  (XS.istore Xj4770.here hx rfl (hb hby at_290) rfl (l' := (LF x0 x1 x2 x3 0 1 1 sv fs fj 4607182418800017409 [SA q1, SA q2, SA q5, SA q9, .val v18, .val v19, SI 0])) rfl (XS.aload Xj4770.here hx rfl (hb hby at_292) rfl rfl k))) ?_
              refine own_c1 (callV Xj4770 hx hZ (y := mn0) hown (ww hw 414 rfl) (ww hw 415 rfl) (ww hw 417 rfl) (ww hw 416 rfl) (ww hw 418 rfl) (ww hw 163 rfl) (by decide) ej4770 E_q9_j (argsL := []) (rest := []) (W := 0) (au_goesOn0 l Z a0 hw q9 q2 q10 _ _ (0 : Int32) hj4770 n0 Z0 E_q9_j E_q2_j E_q10_j F_simulation_q9_j F_window_q9_j F_now_q2_j F_end_q10_j F_inNetwork_q9_j (by decide +kernel) (by decide)) rfl (by decide) (by decide) (by decide) (by decide) rfl (by rw [hml]; rfl) (lenOf pd0 rfl) rfl (by show 2 * 0 + _ ≤ _; exact Nat.le_of_eq rfl) (hb hby at_294)) fun v4773 T4773 L4773 X4773 hQ4773 => ?_
              obtain ⟨rfl, NL4773, hk4773⟩ := hQ4773
              have N0 := Fr.app N0 NL4773
              refine gb T4773 (mkF m 299 (LF x0 x1 x2 x3 0 1 1 sv fs fj 4607182418800017409 [SA q1, SA q2, SA q5, SA q9, .val v18, .val v19, SI 0]) [(.int (0 : Int32)), (.int (0 : Int32))]) (fun _ k => XS.iload X4773.here hx rfl (hb hby at_297) rfl k) ?_
              refine gb T4773 (mkF m 302 (LF x0 x1 x2 x3 0 1 1 sv fs fj 4607182418800017409 [SA q1, SA q2, SA q5, SA q9, .val v18, .val v19, SI 0]) []) (fun _ k => XS.icmpNo X4773.here hx rfl (hb hby at_299) rfl (by decide) k) ?_
              refine gb T4773 (mkF m 303 (LF x0 x1 x2 x3 0 1 1 sv fs fj 4607182418800017409 [SA q1, SA q2, SA q5, SA q9, .val v18, .val v19, SI 0]) [(.int (1 : Int32))]) (fun _ k => XS.iconst X4773.here hx rfl (hb hby at_302)  k) ?_
              refine gb T4773 (mkF m 307 (LF x0 x1 x2 x3 0 1 1 sv fs fj 4607182418800017409 [SA q1, SA q2, SA q5, SA q9, .val v18, .val v19, SI 0]) [(.int (1 : Int32))]) (fun _ k => XS.goto X4773.here hx rfl (pc0 := 303) (pc' := 307) rfl (hb hby at_303) (by decide) (by decide) k) ?_
              exact outZ X4773 hx hlk hret (hb hby at_307) (by exact ⟨rfl, N0⟩) (by decide) (by decide)
            · refine gb Tj4770 (mkF m 274 (LF x0 x1 x2 x3 0 2 0 sv fs fj 4607182418800017409 [SA q1, SA q2, SA q5, SA q9, .val v18, .val v19, SU]) [(.int (2 : Int32)), (.int (0 : Int32))]) (fun _ k => XS.iload Xj4770.here hx rfl (hb hby at_271) rfl (XS.iconst Xj4770.here hx rfl (hb hby at_273)  k)) ?_
              refine gb Tj4770 (mkF m 277 (LF x0 x1 x2 x3 0 2 0 sv fs fj 4607182418800017409 [SA q1, SA q2, SA q5, SA q9, .val v18, .val v19, SU]) []) (fun _ k => XS.icmpNo Xj4770.here hx rfl (hb hby at_274) rfl (by decide) k) ?_
              refine gb Tj4770 (mkF m 281 (LF x0 x1 x2 x3 0 2 0 sv fs fj 4607182418800017409 [SA q1, SA q2, SA q5, SA q9, .val v18, .val v19, SU]) [(.int (0 : Int32)), (.int (2 : Int32))]) (fun _ k => XS.iload Xj4770.here hx rfl (hb hby at_277) rfl (XS.iload Xj4770.here hx rfl (hb hby at_279) rfl k)) ?_
              refine gb Tj4770 (mkF m 282 (LF x0 x1 x2 x3 0 2 0 sv fs fj 4607182418800017409 [SA q1, SA q2, SA q5, SA q9, .val v18, .val v19, SU]) [(.int (2 : Int32))]) (fun _ k => XS.isub Xj4770.here hx rfl (hb hby at_281) rfl k) ?_
              refine gb Tj4770 (mkF m 285 (LF x0 x1 x2 x3 0 2 0 sv fs fj 4607182418800017409 [SA q1, SA q2, SA q5, SA q9, .val v18, .val v19, SU]) []) (fun _ k => XS.ifNo Xj4770.here hx rfl (hb hby at_282) rfl (by decide) k) ?_
              refine gb Tj4770 (mkF m 286 (LF x0 x1 x2 x3 0 2 0 sv fs fj 4607182418800017409 [SA q1, SA q2, SA q5, SA q9, .val v18, .val v19, SU]) [(.int (1 : Int32))]) (fun _ k => XS.iconst Xj4770.here hx rfl (hb hby at_285)  k) ?_
              refine gb Tj4770 (mkF m 290 (LF x0 x1 x2 x3 0 2 0 sv fs fj 4607182418800017409 [SA q1, SA q2, SA q5, SA q9, .val v18, .val v19, SU]) [(.int (1 : Int32))]) (fun _ k => XS.goto Xj4770.here hx rfl (pc0 := 286) (pc' := 290) rfl (hb hby at_286) (by decide) (by decide) k) ?_
              refine gb Tj4770 (mkF m 294 (LF x0 x1 x2 x3 0 2 0 sv fs fj 4607182418800017409 [SA q1, SA q2, SA q5, SA q9, .val v18, .val v19, SI 1]) [(.ref q9)]) (fun _ k => XS.istore Xj4770.here hx rfl (hb hby at_290) rfl (l' := (LF x0 x1 x2 x3 0 2 0 sv fs fj 4607182418800017409 [SA q1, SA q2, SA q5, SA q9, .val v18, .val v19, SI 1])) rfl (XS.aload Xj4770.here hx rfl (hb hby at_292) rfl rfl k)) ?_
              refine own_c1 (callV Xj4770 hx hZ (y := mn0) hown (ww hw 414 rfl) (ww hw 415 rfl) (ww hw 417 rfl) (ww hw 416 rfl) (ww hw 418 rfl) (ww hw 163 rfl) (by decide) ej4770 E_q9_j (argsL := []) (rest := []) (W := 0) (au_goesOn2 l Z a0 hw q9 q2 q10 _ _ (0 : Int32) hj4770 n0 Z0 E_q9_j E_q2_j E_q10_j F_simulation_q9_j F_window_q9_j F_now_q2_j F_end_q10_j F_inNetwork_q9_j (by decide +kernel) (by decide)) rfl (by decide) (by decide) (by decide) (by decide) rfl (by rw [hml]; rfl) (lenOf pd0 rfl) rfl (by show 2 * 0 + _ ≤ _; exact Nat.le_of_eq rfl) (hb hby at_294)) fun v4774 T4774 L4774 X4774 hQ4774 => ?_
              obtain ⟨rfl, NL4774, hk4774⟩ := hQ4774
              have N0 := Fr.app N0 NL4774
              refine gb T4774 (mkF m 299 (LF x0 x1 x2 x3 0 2 0 sv fs fj 4607182418800017409 [SA q1, SA q2, SA q5, SA q9, .val v18, .val v19, SI 1]) [(.int (1 : Int32)), (.int (1 : Int32))]) (fun _ k => XS.iload X4774.here hx rfl (hb hby at_297) rfl k) ?_
              refine gb T4774 (mkF m 302 (LF x0 x1 x2 x3 0 2 0 sv fs fj 4607182418800017409 [SA q1, SA q2, SA q5, SA q9, .val v18, .val v19, SI 1]) []) (fun _ k => XS.icmpNo X4774.here hx rfl (hb hby at_299) rfl (by decide) k) ?_
              refine gb T4774 (mkF m 303 (LF x0 x1 x2 x3 0 2 0 sv fs fj 4607182418800017409 [SA q1, SA q2, SA q5, SA q9, .val v18, .val v19, SI 1]) [(.int (1 : Int32))]) (fun _ k => XS.iconst X4774.here hx rfl (hb hby at_302)  k) ?_
              refine gb T4774 (mkF m 307 (LF x0 x1 x2 x3 0 2 0 sv fs fj 4607182418800017409 [SA q1, SA q2, SA q5, SA q9, .val v18, .val v19, SI 1]) [(.int (1 : Int32))]) (fun _ k => XS.goto X4774.here hx rfl (pc0 := 303) (pc' := 307) rfl (hb hby at_303) (by decide) (by decide) k) ?_
              exact outZ X4774 hx hlk hret (hb hby at_307) (by exact ⟨rfl, N0⟩) (by decide) (by decide)
            · refine gb Tj4770 (mkF m 274 (LF x0 x1 x2 x3 0 2 1 sv fs fj 4607182418800017409 [SA q1, SA q2, SA q5, SA q9, .val v18, .val v19, SU]) [(.int (2 : Int32)), (.int (0 : Int32))]) (fun _ k => XS.iload Xj4770.here hx rfl (hb hby at_271) rfl (XS.iconst Xj4770.here hx rfl (hb hby at_273)  k)) ?_
              refine gb Tj4770 (mkF m 277 (LF x0 x1 x2 x3 0 2 1 sv fs fj 4607182418800017409 [SA q1, SA q2, SA q5, SA q9, .val v18, .val v19, SU]) []) (fun _ k => XS.icmpNo Xj4770.here hx rfl (hb hby at_274) rfl (by decide) k) ?_
              refine gb Tj4770 (mkF m 281 (LF x0 x1 x2 x3 0 2 1 sv fs fj 4607182418800017409 [SA q1, SA q2, SA q5, SA q9, .val v18, .val v19, SU]) [(.int (1 : Int32)), (.int (2 : Int32))]) (fun _ k => XS.iload Xj4770.here hx rfl (hb hby at_277) rfl (XS.iload Xj4770.here hx rfl (hb hby at_279) rfl k)) ?_
              refine gb Tj4770 (mkF m 282 (LF x0 x1 x2 x3 0 2 1 sv fs fj 4607182418800017409 [SA q1, SA q2, SA q5, SA q9, .val v18, .val v19, SU]) [(.int (1 : Int32))]) (fun _ k => XS.isub Xj4770.here hx rfl (hb hby at_281) rfl k) ?_
              refine gb Tj4770 (mkF m 285 (LF x0 x1 x2 x3 0 2 1 sv fs fj 4607182418800017409 [SA q1, SA q2, SA q5, SA q9, .val v18, .val v19, SU]) []) (fun _ k => XS.ifNo Xj4770.here hx rfl (hb hby at_282) rfl (by decide) k) ?_
              refine gb Tj4770 (mkF m 286 (LF x0 x1 x2 x3 0 2 1 sv fs fj 4607182418800017409 [SA q1, SA q2, SA q5, SA q9, .val v18, .val v19, SU]) [(.int (1 : Int32))]) (fun _ k => XS.iconst Xj4770.here hx rfl (hb hby at_285)  k) ?_
              refine gb Tj4770 (mkF m 290 (LF x0 x1 x2 x3 0 2 1 sv fs fj 4607182418800017409 [SA q1, SA q2, SA q5, SA q9, .val v18, .val v19, SU]) [(.int (1 : Int32))]) (fun _ k => XS.goto Xj4770.here hx rfl (pc0 := 286) (pc' := 290) rfl (hb hby at_286) (by decide) (by decide) k) ?_
              refine gb Tj4770 (mkF m 294 (LF x0 x1 x2 x3 0 2 1 sv fs fj 4607182418800017409 [SA q1, SA q2, SA q5, SA q9, .val v18, .val v19, SI 1]) [(.ref q9)]) (fun _ k => XS.istore Xj4770.here hx rfl (hb hby at_290) rfl (l' := (LF x0 x1 x2 x3 0 2 1 sv fs fj 4607182418800017409 [SA q1, SA q2, SA q5, SA q9, .val v18, .val v19, SI 1])) rfl (XS.aload Xj4770.here hx rfl (hb hby at_292) rfl rfl k)) ?_
              refine own_c1 (callV Xj4770 hx hZ (y := mn0) hown (ww hw 414 rfl) (ww hw 415 rfl) (ww hw 417 rfl) (ww hw 416 rfl) (ww hw 418 rfl) (ww hw 163 rfl) (by decide) ej4770 E_q9_j (argsL := []) (rest := []) (W := 0) (au_goesOn1 l Z a0 hw q9 q2 q10 _ _ (0 : Int32) hj4770 n0 Z0 E_q9_j E_q2_j E_q10_j F_simulation_q9_j F_window_q9_j F_now_q2_j F_end_q10_j F_inNetwork_q9_j (by decide +kernel) (by decide)) rfl (by decide) (by decide) (by decide) (by decide) rfl (by rw [hml]; rfl) (lenOf pd0 rfl) rfl (by show 2 * 0 + _ ≤ _; exact Nat.le_of_eq rfl) (hb hby at_294)) fun v4775 T4775 L4775 X4775 hQ4775 => ?_
              obtain ⟨rfl, NL4775, hk4775⟩ := hQ4775
              have N0 := Fr.app N0 NL4775
              refine gb T4775 (mkF m 299 (LF x0 x1 x2 x3 0 2 1 sv fs fj 4607182418800017409 [SA q1, SA q2, SA q5, SA q9, .val v18, .val v19, SI 1]) [(.int (1 : Int32)), (.int (1 : Int32))]) (fun _ k => XS.iload X4775.here hx rfl (hb hby at_297) rfl k) ?_
              refine gb T4775 (mkF m 302 (LF x0 x1 x2 x3 0 2 1 sv fs fj 4607182418800017409 [SA q1, SA q2, SA q5, SA q9, .val v18, .val v19, SI 1]) []) (fun _ k => XS.icmpNo X4775.here hx rfl (hb hby at_299) rfl (by decide) k) ?_
              refine gb T4775 (mkF m 303 (LF x0 x1 x2 x3 0 2 1 sv fs fj 4607182418800017409 [SA q1, SA q2, SA q5, SA q9, .val v18, .val v19, SI 1]) [(.int (1 : Int32))]) (fun _ k => XS.iconst X4775.here hx rfl (hb hby at_302)  k) ?_
              refine gb T4775 (mkF m 307 (LF x0 x1 x2 x3 0 2 1 sv fs fj 4607182418800017409 [SA q1, SA q2, SA q5, SA q9, .val v18, .val v19, SI 1]) [(.int (1 : Int32))]) (fun _ k => XS.goto X4775.here hx rfl (pc0 := 303) (pc' := 307) rfl (hb hby at_303) (by decide) (by decide) k) ?_
              exact outZ X4775 hx hlk hret (hb hby at_307) (by exact ⟨rfl, N0⟩) (by decide) (by decide)
            · refine gb Tj4770 (mkF m 274 (LF x0 x1 x2 x3 1 0 0 sv fs fj 4607182418800017408 [SA q1, SA q2, SA q5, SA q9, .val v18, .val v19, SU]) [(.int (2 : Int32)), (.int (1 : Int32))]) (fun _ k => XS.iload Xj4770.here hx rfl (hb hby at_271) rfl (XS.iconst Xj4770.here hx rfl (hb hby at_273)  k)) ?_
              refine gb Tj4770 (mkF m 277 (LF x0 x1 x2 x3 1 0 0 sv fs fj 4607182418800017408 [SA q1, SA q2, SA q5, SA q9, .val v18, .val v19, SU]) []) (fun _ k => XS.icmpNo Xj4770.here hx rfl (hb hby at_274) rfl (by decide) k) ?_
              refine gb Tj4770 (mkF m 281 (LF x0 x1 x2 x3 1 0 0 sv fs fj 4607182418800017408 [SA q1, SA q2, SA q5, SA q9, .val v18, .val v19, SU]) [(.int (0 : Int32)), (.int (0 : Int32))]) (fun _ k => XS.iload Xj4770.here hx rfl (hb hby at_277) rfl (XS.iload Xj4770.here hx rfl (hb hby at_279) rfl k)) ?_
              refine gb Tj4770 (mkF m 282 (LF x0 x1 x2 x3 1 0 0 sv fs fj 4607182418800017408 [SA q1, SA q2, SA q5, SA q9, .val v18, .val v19, SU]) [(.int (0 : Int32))]) (fun _ k => XS.isub Xj4770.here hx rfl (hb hby at_281) rfl k) ?_
              refine gb Tj4770 (mkF m 289 (LF x0 x1 x2 x3 1 0 0 sv fs fj 4607182418800017408 [SA q1, SA q2, SA q5, SA q9, .val v18, .val v19, SU]) []) (fun _ k => XS.ifYes Xj4770.here hx rfl (pc0 := 282) (pc' := 289) rfl (hb hby at_282) rfl (by decide) (by decide) (by decide) k) ?_
              refine gb Tj4770 (mkF m 294 (LF x0 x1 x2 x3 1 0 0 sv fs fj 4607182418800017408 [SA q1, SA q2, SA q5, SA q9, .val v18, .val v19, SI 0]) [(.ref q9)]) (fun _ k => XS.iconst Xj4770.here hx rfl (hb hby at_289)  (XS.istore Xj4770.here hx rfl (hb hby at_290) rfl (l' := (LF x0 x1 x2 x3 1 0 0 sv fs fj 4607182418800017408 [SA q1, SA q2, SA q5, SA q9, .val v18, .val v19, SI 0])) rfl (XS.aload Xj4770.here hx rfl (hb hby at_292) rfl rfl k))) ?_
              refine own_c1 (callV Xj4770 hx hZ (y := mn0) hown (ww hw 414 rfl) (ww hw 415 rfl) (ww hw 417 rfl) (ww hw 416 rfl) (ww hw 418 rfl) (ww hw 163 rfl) (by decide) ej4770 E_q9_j (argsL := []) (rest := []) (W := 0) (au_goesOn0 l Z a0 hw q9 q2 q10 _ _ (1 : Int32) hj4770 n0 Z0 E_q9_j E_q2_j E_q10_j F_simulation_q9_j F_window_q9_j F_now_q2_j F_end_q10_j F_inNetwork_q9_j (by decide +kernel) (by decide)) rfl (by decide) (by decide) (by decide) (by decide) rfl (by rw [hml]; rfl) (lenOf pd0 rfl) rfl (by show 2 * 0 + _ ≤ _; exact Nat.le_of_eq rfl) (hb hby at_294)) fun v4776 T4776 L4776 X4776 hQ4776 => ?_
              obtain ⟨rfl, NL4776, hk4776⟩ := hQ4776
              have N0 := Fr.app N0 NL4776
              refine gb T4776 (mkF m 299 (LF x0 x1 x2 x3 1 0 0 sv fs fj 4607182418800017408 [SA q1, SA q2, SA q5, SA q9, .val v18, .val v19, SI 0]) [(.int (0 : Int32)), (.int (0 : Int32))]) (fun _ k => XS.iload X4776.here hx rfl (hb hby at_297) rfl k) ?_
              refine gb T4776 (mkF m 302 (LF x0 x1 x2 x3 1 0 0 sv fs fj 4607182418800017408 [SA q1, SA q2, SA q5, SA q9, .val v18, .val v19, SI 0]) []) (fun _ k => XS.icmpNo X4776.here hx rfl (hb hby at_299) rfl (by decide) k) ?_
              refine gb T4776 (mkF m 303 (LF x0 x1 x2 x3 1 0 0 sv fs fj 4607182418800017408 [SA q1, SA q2, SA q5, SA q9, .val v18, .val v19, SI 0]) [(.int (1 : Int32))]) (fun _ k => XS.iconst X4776.here hx rfl (hb hby at_302)  k) ?_
              refine gb T4776 (mkF m 307 (LF x0 x1 x2 x3 1 0 0 sv fs fj 4607182418800017408 [SA q1, SA q2, SA q5, SA q9, .val v18, .val v19, SI 0]) [(.int (1 : Int32))]) (fun _ k => XS.goto X4776.here hx rfl (pc0 := 303) (pc' := 307) rfl (hb hby at_303) (by decide) (by decide) k) ?_
              exact outZ X4776 hx hlk hret (hb hby at_307) (by exact ⟨rfl, N0⟩) (by decide) (by decide)
            · refine gb Tj4770 (mkF m 274 (LF x0 x1 x2 x3 1 1 0 sv fs fj 4607182418800017408 [SA q1, SA q2, SA q5, SA q9, .val v18, .val v19, SU]) [(.int (2 : Int32)), (.int (1 : Int32))]) (fun _ k => XS.iload Xj4770.here hx rfl (hb hby at_271) rfl (XS.iconst Xj4770.here hx rfl (hb hby at_273)  k)) ?_
              refine gb Tj4770 (mkF m 277 (LF x0 x1 x2 x3 1 1 0 sv fs fj 4607182418800017408 [SA q1, SA q2, SA q5, SA q9, .val v18, .val v19, SU]) []) (fun _ k => XS.icmpNo Xj4770.here hx rfl (hb hby at_274) rfl (by decide) k) ?_
              refine gb Tj4770 (mkF m 281 (LF x0 x1 x2 x3 1 1 0 sv fs fj 4607182418800017408 [SA q1, SA q2, SA q5, SA q9, .val v18, .val v19, SU]) [(.int (0 : Int32)), (.int (1 : Int32))]) (fun _ k => XS.iload Xj4770.here hx rfl (hb hby at_277) rfl (XS.iload Xj4770.here hx rfl (hb hby at_279) rfl k)) ?_
              refine gb Tj4770 (mkF m 282 (LF x0 x1 x2 x3 1 1 0 sv fs fj 4607182418800017408 [SA q1, SA q2, SA q5, SA q9, .val v18, .val v19, SU]) [(.int (1 : Int32))]) (fun _ k => XS.isub Xj4770.here hx rfl (hb hby at_281) rfl k) ?_
              refine gb Tj4770 (mkF m 285 (LF x0 x1 x2 x3 1 1 0 sv fs fj 4607182418800017408 [SA q1, SA q2, SA q5, SA q9, .val v18, .val v19, SU]) []) (fun _ k => XS.ifNo Xj4770.here hx rfl (hb hby at_282) rfl (by decide) k) ?_
              refine gb Tj4770 (mkF m 286 (LF x0 x1 x2 x3 1 1 0 sv fs fj 4607182418800017408 [SA q1, SA q2, SA q5, SA q9, .val v18, .val v19, SU]) [(.int (1 : Int32))]) (fun _ k => XS.iconst Xj4770.here hx rfl (hb hby at_285)  k) ?_
              refine gb Tj4770 (mkF m 290 (LF x0 x1 x2 x3 1 1 0 sv fs fj 4607182418800017408 [SA q1, SA q2, SA q5, SA q9, .val v18, .val v19, SU]) [(.int (1 : Int32))]) (fun _ k => XS.goto Xj4770.here hx rfl (pc0 := 286) (pc' := 290) rfl (hb hby at_286) (by decide) (by decide) k) ?_
              refine gb Tj4770 (mkF m 294 (LF x0 x1 x2 x3 1 1 0 sv fs fj 4607182418800017408 [SA q1, SA q2, SA q5, SA q9, .val v18, .val v19, SI 1]) [(.ref q9)]) (fun _ k => XS.istore Xj4770.here hx rfl (hb hby at_290) rfl (l' := (LF x0 x1 x2 x3 1 1 0 sv fs fj 4607182418800017408 [SA q1, SA q2, SA q5, SA q9, .val v18, .val v19, SI 1])) rfl (XS.aload Xj4770.here hx rfl (hb hby at_292) rfl rfl k)) ?_
              refine own_c1 (callV Xj4770 hx hZ (y := mn0) hown (ww hw 414 rfl) (ww hw 415 rfl) (ww hw 417 rfl) (ww hw 416 rfl) (ww hw 418 rfl) (ww hw 163 rfl) (by decide) ej4770 E_q9_j (argsL := []) (rest := []) (W := 0) (au_goesOn1 l Z a0 hw q9 q2 q10 _ _ (1 : Int32) hj4770 n0 Z0 E_q9_j E_q2_j E_q10_j F_simulation_q9_j F_window_q9_j F_now_q2_j F_end_q10_j F_inNetwork_q9_j (by decide +kernel) (by decide)) rfl (by decide) (by decide) (by decide) (by decide) rfl (by rw [hml]; rfl) (lenOf pd0 rfl) rfl (by show 2 * 0 + _ ≤ _; exact Nat.le_of_eq rfl) (hb hby at_294)) fun v4777 T4777 L4777 X4777 hQ4777 => ?_
              obtain ⟨rfl, NL4777, hk4777⟩ := hQ4777
              have N0 := Fr.app N0 NL4777
              refine gb T4777 (mkF m 299 (LF x0 x1 x2 x3 1 1 0 sv fs fj 4607182418800017408 [SA q1, SA q2, SA q5, SA q9, .val v18, .val v19, SI 1]) [(.int (1 : Int32)), (.int (1 : Int32))]) (fun _ k => XS.iload X4777.here hx rfl (hb hby at_297) rfl k) ?_
              refine gb T4777 (mkF m 302 (LF x0 x1 x2 x3 1 1 0 sv fs fj 4607182418800017408 [SA q1, SA q2, SA q5, SA q9, .val v18, .val v19, SI 1]) []) (fun _ k => XS.icmpNo X4777.here hx rfl (hb hby at_299) rfl (by decide) k) ?_
              refine gb T4777 (mkF m 303 (LF x0 x1 x2 x3 1 1 0 sv fs fj 4607182418800017408 [SA q1, SA q2, SA q5, SA q9, .val v18, .val v19, SI 1]) [(.int (1 : Int32))]) (fun _ k => XS.iconst X4777.here hx rfl (hb hby at_302)  k) ?_
              refine gb T4777 (mkF m 307 (LF x0 x1 x2 x3 1 1 0 sv fs fj 4607182418800017408 [SA q1, SA q2, SA q5, SA q9, .val v18, .val v19, SI 1]) [(.int (1 : Int32))]) (fun _ k => XS.goto X4777.here hx rfl (pc0 := 303) (pc' := 307) rfl (hb hby at_303) (by decide) (by decide) k) ?_
              exact outZ X4777 hx hlk hret (hb hby at_307) (by exact ⟨rfl, N0⟩) (by decide) (by decide)
            · refine gb Tj4770 (mkF m 274 (LF x0 x1 x2 x3 1 1 1 sv fs fj 4607182418800017408 [SA q1, SA q2, SA q5, SA q9, .val v18, .val v19, SU]) [(.int (2 : Int32)), (.int (1 : Int32))]) (fun _ k => XS.iload Xj4770.here hx rfl (hb hby at_271) rfl (XS.iconst Xj4770.here hx rfl (hb hby at_273)  k)) ?_
              refine gb Tj4770 (mkF m 277 (LF x0 x1 x2 x3 1 1 1 sv fs fj 4607182418800017408 [SA q1, SA q2, SA q5, SA q9, .val v18, .val v19, SU]) []) (fun _ k => XS.icmpNo Xj4770.here hx rfl (hb hby at_274) rfl (by decide) k) ?_
              refine gb Tj4770 (mkF m 281 (LF x0 x1 x2 x3 1 1 1 sv fs fj 4607182418800017408 [SA q1, SA q2, SA q5, SA q9, .val v18, .val v19, SU]) [(.int (1 : Int32)), (.int (1 : Int32))]) (fun _ k => XS.iload Xj4770.here hx rfl (hb hby at_277) rfl (XS.iload Xj4770.here hx rfl (hb hby at_279) rfl k)) ?_
              refine gb Tj4770 (mkF m 282 (LF x0 x1 x2 x3 1 1 1 sv fs fj 4607182418800017408 [SA q1, SA q2, SA q5, SA q9, .val v18, .val v19, SU]) [(.int (0 : Int32))]) (fun _ k => XS.isub Xj4770.here hx rfl (hb hby at_281) rfl k) ?_
              refine gb Tj4770 (mkF m 289 (LF x0 x1 x2 x3 1 1 1 sv fs fj 4607182418800017408 [SA q1, SA q2, SA q5, SA q9, .val v18, .val v19, SU]) []) (fun _ k => XS.ifYes Xj4770.here hx rfl (pc0 := 282) (pc' := 289) rfl (hb hby at_282) rfl (by decide) (by decide) (by decide) k) ?_
              refine gb Tj4770 (mkF m 294 (LF x0 x1 x2 x3 1 1 1 sv fs fj 4607182418800017408 [SA q1, SA q2, SA q5, SA q9, .val v18, .val v19, SI 0]) [(.ref q9)]) (fun _ k => XS.iconst Xj4770.here hx rfl (hb hby at_289)  (XS.istore Xj4770.here hx rfl (hb hby at_290) rfl (l' := (LF x0 x1 x2 x3 1 1 1 sv fs fj 4607182418800017408 [SA q1, SA q2, SA q5, SA q9, .val v18, .val v19, SI 0])) rfl (XS.aload Xj4770.here hx rfl (hb hby at_292) rfl rfl k))) ?_
              refine own_c1 (callV Xj4770 hx hZ (y := mn0) hown (ww hw 414 rfl) (ww hw 415 rfl) (ww hw 417 rfl) (ww hw 416 rfl) (ww hw 418 rfl) (ww hw 163 rfl) (by decide) ej4770 E_q9_j (argsL := []) (rest := []) (W := 0) (au_goesOn0 l Z a0 hw q9 q2 q10 _ _ (1 : Int32) hj4770 n0 Z0 E_q9_j E_q2_j E_q10_j F_simulation_q9_j F_window_q9_j F_now_q2_j F_end_q10_j F_inNetwork_q9_j (by decide +kernel) (by decide)) rfl (by decide) (by decide) (by decide) (by decide) rfl (by rw [hml]; rfl) (lenOf pd0 rfl) rfl (by show 2 * 0 + _ ≤ _; exact Nat.le_of_eq rfl) (hb hby at_294)) fun v4778 T4778 L4778 X4778 hQ4778 => ?_
              obtain ⟨rfl, NL4778, hk4778⟩ := hQ4778
              have N0 := Fr.app N0 NL4778
              refine gb T4778 (mkF m 299 (LF x0 x1 x2 x3 1 1 1 sv fs fj 4607182418800017408 [SA q1, SA q2, SA q5, SA q9, .val v18, .val v19, SI 0]) [(.int (0 : Int32)), (.int (0 : Int32))]) (fun _ k => XS.iload X4778.here hx rfl (hb hby at_297) rfl k) ?_
              refine gb T4778 (mkF m 302 (LF x0 x1 x2 x3 1 1 1 sv fs fj 4607182418800017408 [SA q1, SA q2, SA q5, SA q9, .val v18, .val v19, SI 0]) []) (fun _ k => XS.icmpNo X4778.here hx rfl (hb hby at_299) rfl (by decide) k) ?_
              refine gb T4778 (mkF m 303 (LF x0 x1 x2 x3 1 1 1 sv fs fj 4607182418800017408 [SA q1, SA q2, SA q5, SA q9, .val v18, .val v19, SI 0]) [(.int (1 : Int32))]) (fun _ k => XS.iconst X4778.here hx rfl (hb hby at_302)  k) ?_
              refine gb T4778 (mkF m 307 (LF x0 x1 x2 x3 1 1 1 sv fs fj 4607182418800017408 [SA q1, SA q2, SA q5, SA q9, .val v18, .val v19, SI 0]) [(.int (1 : Int32))]) (fun _ k => XS.goto X4778.here hx rfl (pc0 := 303) (pc' := 307) rfl (hb hby at_303) (by decide) (by decide) k) ?_
              exact outZ X4778 hx hlk hret (hb hby at_307) (by exact ⟨rfl, N0⟩) (by decide) (by decide)
            · refine gb Tj4770 (mkF m 274 (LF x0 x1 x2 x3 1 2 0 sv fs fj 4607182418800017408 [SA q1, SA q2, SA q5, SA q9, .val v18, .val v19, SU]) [(.int (2 : Int32)), (.int (1 : Int32))]) (fun _ k => XS.iload Xj4770.here hx rfl (hb hby at_271) rfl (XS.iconst Xj4770.here hx rfl (hb hby at_273)  k)) ?_
              refine gb Tj4770 (mkF m 277 (LF x0 x1 x2 x3 1 2 0 sv fs fj 4607182418800017408 [SA q1, SA q2, SA q5, SA q9, .val v18, .val v19, SU]) []) (fun _ k => XS.icmpNo Xj4770.here hx rfl (hb hby at_274) rfl (by decide) k) ?_
              refine gb Tj4770 (mkF m 281 (LF x0 x1 x2 x3 1 2 0 sv fs fj 4607182418800017408 [SA q1, SA q2, SA q5, SA q9, .val v18, .val v19, SU]) [(.int (0 : Int32)), (.int (2 : Int32))]) (fun _ k => XS.iload Xj4770.here hx rfl (hb hby at_277) rfl (XS.iload Xj4770.here hx rfl (hb hby at_279) rfl k)) ?_
              refine gb Tj4770 (mkF m 282 (LF x0 x1 x2 x3 1 2 0 sv fs fj 4607182418800017408 [SA q1, SA q2, SA q5, SA q9, .val v18, .val v19, SU]) [(.int (2 : Int32))]) (fun _ k => XS.isub Xj4770.here hx rfl (hb hby at_281) rfl k) ?_
              refine gb Tj4770 (mkF m 285 (LF x0 x1 x2 x3 1 2 0 sv fs fj 4607182418800017408 [SA q1, SA q2, SA q5, SA q9, .val v18, .val v19, SU]) []) (fun _ k => XS.ifNo Xj4770.here hx rfl (hb hby at_282) rfl (by decide) k) ?_
              refine gb Tj4770 (mkF m 286 (LF x0 x1 x2 x3 1 2 0 sv fs fj 4607182418800017408 [SA q1, SA q2, SA q5, SA q9, .val v18, .val v19, SU]) [(.int (1 : Int32))]) (fun _ k => XS.iconst Xj4770.here hx rfl (hb hby at_285)  k) ?_
              refine gb Tj4770 (mkF m 290 (LF x0 x1 x2 x3 1 2 0 sv fs fj 4607182418800017408 [SA q1, SA q2, SA q5, SA q9, .val v18, .val v19, SU]) [(.int (1 : Int32))]) (fun _ k => XS.goto Xj4770.here hx rfl (pc0 := 286) (pc' := 290) rfl (hb hby at_286) (by decide) (by decide) k) ?_
              refine gb Tj4770 (mkF m 294 (LF x0 x1 x2 x3 1 2 0 sv fs fj 4607182418800017408 [SA q1, SA q2, SA q5, SA q9, .val v18, .val v19, SI 1]) [(.ref q9)]) (fun _ k => XS.istore Xj4770.here hx rfl (hb hby at_290) rfl (l' := (LF x0 x1 x2 x3 1 2 0 sv fs fj 4607182418800017408 [SA q1, SA q2, SA q5, SA q9, .val v18, .val v19, SI 1])) rfl (XS.aload Xj4770.here hx rfl (hb hby at_292) rfl rfl k)) ?_
              refine own_c1 (callV Xj4770 hx hZ (y := mn0) hown (ww hw 414 rfl) (ww hw 415 rfl) (ww hw 417 rfl) (ww hw 416 rfl) (ww hw 418 rfl) (ww hw 163 rfl) (by decide) ej4770 E_q9_j (argsL := []) (rest := []) (W := 0) (au_goesOn2 l Z a0 hw q9 q2 q10 _ _ (1 : Int32) hj4770 n0 Z0 E_q9_j E_q2_j E_q10_j F_simulation_q9_j F_window_q9_j F_now_q2_j F_end_q10_j F_inNetwork_q9_j (by decide +kernel) (by decide)) rfl (by decide) (by decide) (by decide) (by decide) rfl (by rw [hml]; rfl) (lenOf pd0 rfl) rfl (by show 2 * 0 + _ ≤ _; exact Nat.le_of_eq rfl) (hb hby at_294)) fun v4779 T4779 L4779 X4779 hQ4779 => ?_
              obtain ⟨rfl, NL4779, hk4779⟩ := hQ4779
              have N0 := Fr.app N0 NL4779
              refine gb T4779 (mkF m 299 (LF x0 x1 x2 x3 1 2 0 sv fs fj 4607182418800017408 [SA q1, SA q2, SA q5, SA q9, .val v18, .val v19, SI 1]) [(.int (1 : Int32)), (.int (1 : Int32))]) (fun _ k => XS.iload X4779.here hx rfl (hb hby at_297) rfl k) ?_
              refine gb T4779 (mkF m 302 (LF x0 x1 x2 x3 1 2 0 sv fs fj 4607182418800017408 [SA q1, SA q2, SA q5, SA q9, .val v18, .val v19, SI 1]) []) (fun _ k => XS.icmpNo X4779.here hx rfl (hb hby at_299) rfl (by decide) k) ?_
              refine gb T4779 (mkF m 303 (LF x0 x1 x2 x3 1 2 0 sv fs fj 4607182418800017408 [SA q1, SA q2, SA q5, SA q9, .val v18, .val v19, SI 1]) [(.int (1 : Int32))]) (fun _ k => XS.iconst X4779.here hx rfl (hb hby at_302)  k) ?_
              refine gb T4779 (mkF m 307 (LF x0 x1 x2 x3 1 2 0 sv fs fj 4607182418800017408 [SA q1, SA q2, SA q5, SA q9, .val v18, .val v19, SI 1]) [(.int (1 : Int32))]) (fun _ k => XS.goto X4779.here hx rfl (pc0 := 303) (pc' := 307) rfl (hb hby at_303) (by decide) (by decide) k) ?_
              exact outZ X4779 hx hlk hret (hb hby at_307) (by exact ⟨rfl, N0⟩) (by decide) (by decide)
            · refine gb Tj4770 (mkF m 274 (LF x0 x1 x2 x3 1 2 1 sv fs fj 4607182418800017408 [SA q1, SA q2, SA q5, SA q9, .val v18, .val v19, SU]) [(.int (2 : Int32)), (.int (1 : Int32))]) (fun _ k => XS.iload Xj4770.here hx rfl (hb hby at_271) rfl (XS.iconst Xj4770.here hx rfl (hb hby at_273)  k)) ?_
              refine gb Tj4770 (mkF m 277 (LF x0 x1 x2 x3 1 2 1 sv fs fj 4607182418800017408 [SA q1, SA q2, SA q5, SA q9, .val v18, .val v19, SU]) []) (fun _ k => XS.icmpNo Xj4770.here hx rfl (hb hby at_274) rfl (by decide) k) ?_
              refine gb Tj4770 (mkF m 281 (LF x0 x1 x2 x3 1 2 1 sv fs fj 4607182418800017408 [SA q1, SA q2, SA q5, SA q9, .val v18, .val v19, SU]) [(.int (1 : Int32)), (.int (2 : Int32))]) (fun _ k => XS.iload Xj4770.here hx rfl (hb hby at_277) rfl (XS.iload Xj4770.here hx rfl (hb hby at_279) rfl k)) ?_
              refine gb Tj4770 (mkF m 282 (LF x0 x1 x2 x3 1 2 1 sv fs fj 4607182418800017408 [SA q1, SA q2, SA q5, SA q9, .val v18, .val v19, SU]) [(.int (1 : Int32))]) (fun _ k => XS.isub Xj4770.here hx rfl (hb hby at_281) rfl k) ?_
              refine gb Tj4770 (mkF m 285 (LF x0 x1 x2 x3 1 2 1 sv fs fj 4607182418800017408 [SA q1, SA q2, SA q5, SA q9, .val v18, .val v19, SU]) []) (fun _ k => XS.ifNo Xj4770.here hx rfl (hb hby at_282) rfl (by decide) k) ?_
              refine gb Tj4770 (mkF m 286 (LF x0 x1 x2 x3 1 2 1 sv fs fj 4607182418800017408 [SA q1, SA q2, SA q5, SA q9, .val v18, .val v19, SU]) [(.int (1 : Int32))]) (fun _ k => XS.iconst Xj4770.here hx rfl (hb hby at_285)  k) ?_
              refine gb Tj4770 (mkF m 290 (LF x0 x1 x2 x3 1 2 1 sv fs fj 4607182418800017408 [SA q1, SA q2, SA q5, SA q9, .val v18, .val v19, SU]) [(.int (1 : Int32))]) (fun _ k => XS.goto Xj4770.here hx rfl (pc0 := 286) (pc' := 290) rfl (hb hby at_286) (by decide) (by decide) k) ?_
              refine gb Tj4770 (mkF m 294 (LF x0 x1 x2 x3 1 2 1 sv fs fj 4607182418800017408 [SA q1, SA q2, SA q5, SA q9, .val v18, .val v19, SI 1]) [(.ref q9)]) (fun _ k => XS.istore Xj4770.here hx rfl (hb hby at_290) rfl (l' := (LF x0 x1 x2 x3 1 2 1 sv fs fj 4607182418800017408 [SA q1, SA q2, SA q5, SA q9, .val v18, .val v19, SI 1])) rfl (XS.aload Xj4770.here hx rfl (hb hby at_292) rfl rfl k)) ?_
              refine own_c1 (callV Xj4770 hx hZ (y := mn0) hown (ww hw 414 rfl) (ww hw 415 rfl) (ww hw 417 rfl) (ww hw 416 rfl) (ww hw 418 rfl) (ww hw 163 rfl) (by decide) ej4770 E_q9_j (argsL := []) (rest := []) (W := 0) (au_goesOn1 l Z a0 hw q9 q2 q10 _ _ (1 : Int32) hj4770 n0 Z0 E_q9_j E_q2_j E_q10_j F_simulation_q9_j F_window_q9_j F_now_q2_j F_end_q10_j F_inNetwork_q9_j (by decide +kernel) (by decide)) rfl (by decide) (by decide) (by decide) (by decide) rfl (by rw [hml]; rfl) (lenOf pd0 rfl) rfl (by show 2 * 0 + _ ≤ _; exact Nat.le_of_eq rfl) (hb hby at_294)) fun v4780 T4780 L4780 X4780 hQ4780 => ?_
              obtain ⟨rfl, NL4780, hk4780⟩ := hQ4780
              have N0 := Fr.app N0 NL4780
              refine gb T4780 (mkF m 299 (LF x0 x1 x2 x3 1 2 1 sv fs fj 4607182418800017408 [SA q1, SA q2, SA q5, SA q9, .val v18, .val v19, SI 1]) [(.int (1 : Int32)), (.int (1 : Int32))]) (fun _ k => XS.iload X4780.here hx rfl (hb hby at_297) rfl k) ?_
              refine gb T4780 (mkF m 302 (LF x0 x1 x2 x3 1 2 1 sv fs fj 4607182418800017408 [SA q1, SA q2, SA q5, SA q9, .val v18, .val v19, SI 1]) []) (fun _ k => XS.icmpNo X4780.here hx rfl (hb hby at_299) rfl (by decide) k) ?_
              refine gb T4780 (mkF m 303 (LF x0 x1 x2 x3 1 2 1 sv fs fj 4607182418800017408 [SA q1, SA q2, SA q5, SA q9, .val v18, .val v19, SI 1]) [(.int (1 : Int32))]) (fun _ k => XS.iconst X4780.here hx rfl (hb hby at_302)  k) ?_
              refine gb T4780 (mkF m 307 (LF x0 x1 x2 x3 1 2 1 sv fs fj 4607182418800017408 [SA q1, SA q2, SA q5, SA q9, .val v18, .val v19, SI 1]) [(.int (1 : Int32))]) (fun _ k => XS.goto X4780.here hx rfl (pc0 := 303) (pc' := 307) rfl (hb hby at_303) (by decide) (by decide) k) ?_
              exact outZ X4780 hx hlk hret (hb hby at_307) (by exact ⟨rfl, N0⟩) (by decide) (by decide)
            · refine gb Tj4770 (mkF m 274 (LF x0 x1 x2 x3 2 0 0 sv fs fj ev [SA q1, SA q2, SA q5, SA q9, .val v18, .val v19, SU]) [(.int (2 : Int32)), (.int (2 : Int32))]) (fun _ k => XS.iload Xj4770.here hx rfl (hb hby at_271) rfl (XS.iconst Xj4770.here hx rfl (hb hby at_273)  k)) ?_
              refine gb Tj4770 (mkF m 285 (LF x0 x1 x2 x3 2 0 0 sv fs fj ev [SA q1, SA q2, SA q5, SA q9, .val v18, .val v19, SU]) []) (fun _ k => XS.icmpYes Xj4770.here hx rfl (pc0 := 274) (pc' := 285) rfl (hb hby at_274) rfl (by decide) (by decide) (by decide) k) ?_
              refine gb Tj4770 (mkF m 286 (LF x0 x1 x2 x3 2 0 0 sv fs fj ev [SA q1, SA q2, SA q5, SA q9, .val v18, .val v19, SU]) [(.int (1 : Int32))]) (fun _ k => XS.iconst Xj4770.here hx rfl (hb hby at_285)  k) ?_
              refine gb Tj4770 (mkF m 290 (LF x0 x1 x2 x3 2 0 0 sv fs fj ev [SA q1, SA q2, SA q5, SA q9, .val v18, .val v19, SU]) [(.int (1 : Int32))]) (fun _ k => XS.goto Xj4770.here hx rfl (pc0 := 286) (pc' := 290) rfl (hb hby at_286) (by decide) (by decide) k) ?_
              refine gb Tj4770 (mkF m 294 (LF x0 x1 x2 x3 2 0 0 sv fs fj ev [SA q1, SA q2, SA q5, SA q9, .val v18, .val v19, SI 1]) [(.ref q9)]) (fun _ k => XS.istore Xj4770.here hx rfl (hb hby at_290) rfl (l' := (LF x0 x1 x2 x3 2 0 0 sv fs fj ev [SA q1, SA q2, SA q5, SA q9, .val v18, .val v19, SI 1])) rfl (XS.aload Xj4770.here hx rfl (hb hby at_292) rfl rfl k)) ?_
              refine own_c1 (callV Xj4770 hx hZ (y := mn0) hown (ww hw 414 rfl) (ww hw 415 rfl) (ww hw 417 rfl) (ww hw 416 rfl) (ww hw 418 rfl) (ww hw 163 rfl) (by decide) ej4770 E_q9_j (argsL := []) (rest := []) (W := 0) (au_goesOnL l Z a0 hw q9 q2 q10 _ _ hj4770 n0 Z0 E_q9_j E_q2_j E_q10_j F_simulation_q9_j F_window_q9_j F_now_q2_j F_end_q10_j (own_T_lt hki hk2)) rfl (by decide) (by decide) (by decide) (by decide) rfl (by rw [hml]; rfl) (lenOf pd0 rfl) rfl (by show 2 * 0 + _ ≤ _; exact Nat.le_of_eq rfl) (hb hby at_294)) fun v4781 T4781 L4781 X4781 hQ4781 => ?_
              obtain ⟨rfl, NL4781, hk4781⟩ := hQ4781
              have N0 := Fr.app N0 NL4781
              refine gb T4781 (mkF m 299 (LF x0 x1 x2 x3 2 0 0 sv fs fj ev [SA q1, SA q2, SA q5, SA q9, .val v18, .val v19, SI 1]) [(.int (1 : Int32)), (.int (1 : Int32))]) (fun _ k => XS.iload X4781.here hx rfl (hb hby at_297) rfl k) ?_
              refine gb T4781 (mkF m 302 (LF x0 x1 x2 x3 2 0 0 sv fs fj ev [SA q1, SA q2, SA q5, SA q9, .val v18, .val v19, SI 1]) []) (fun _ k => XS.icmpNo X4781.here hx rfl (hb hby at_299) rfl (by decide) k) ?_
              refine gb T4781 (mkF m 303 (LF x0 x1 x2 x3 2 0 0 sv fs fj ev [SA q1, SA q2, SA q5, SA q9, .val v18, .val v19, SI 1]) [(.int (1 : Int32))]) (fun _ k => XS.iconst X4781.here hx rfl (hb hby at_302)  k) ?_
              refine gb T4781 (mkF m 307 (LF x0 x1 x2 x3 2 0 0 sv fs fj ev [SA q1, SA q2, SA q5, SA q9, .val v18, .val v19, SI 1]) [(.int (1 : Int32))]) (fun _ k => XS.goto X4781.here hx rfl (pc0 := 303) (pc' := 307) rfl (hb hby at_303) (by decide) (by decide) k) ?_
              exact outZ X4781 hx hlk hret (hb hby at_307) (by exact ⟨rfl, N0⟩) (by decide) (by decide)
            · refine gb Tj4770 (mkF m 274 (LF x0 x1 x2 x3 2 1 0 sv fs fj ev [SA q1, SA q2, SA q5, SA q9, .val v18, .val v19, SU]) [(.int (2 : Int32)), (.int (2 : Int32))]) (fun _ k => XS.iload Xj4770.here hx rfl (hb hby at_271) rfl (XS.iconst Xj4770.here hx rfl (hb hby at_273)  k)) ?_
              refine gb Tj4770 (mkF m 285 (LF x0 x1 x2 x3 2 1 0 sv fs fj ev [SA q1, SA q2, SA q5, SA q9, .val v18, .val v19, SU]) []) (fun _ k => XS.icmpYes Xj4770.here hx rfl (pc0 := 274) (pc' := 285) rfl (hb hby at_274) rfl (by decide) (by decide) (by decide) k) ?_
              refine gb Tj4770 (mkF m 286 (LF x0 x1 x2 x3 2 1 0 sv fs fj ev [SA q1, SA q2, SA q5, SA q9, .val v18, .val v19, SU]) [(.int (1 : Int32))]) (fun _ k => XS.iconst Xj4770.here hx rfl (hb hby at_285)  k) ?_
              refine gb Tj4770 (mkF m 290 (LF x0 x1 x2 x3 2 1 0 sv fs fj ev [SA q1, SA q2, SA q5, SA q9, .val v18, .val v19, SU]) [(.int (1 : Int32))]) (fun _ k => XS.goto Xj4770.here hx rfl (pc0 := 286) (pc' := 290) rfl (hb hby at_286) (by decide) (by decide) k) ?_
              refine gb Tj4770 (mkF m 294 (LF x0 x1 x2 x3 2 1 0 sv fs fj ev [SA q1, SA q2, SA q5, SA q9, .val v18, .val v19, SI 1]) [(.ref q9)]) (fun _ k => XS.istore Xj4770.here hx rfl (hb hby at_290) rfl (l' := (LF x0 x1 x2 x3 2 1 0 sv fs fj ev [SA q1, SA q2, SA q5, SA q9, .val v18, .val v19, SI 1])) rfl (XS.aload Xj4770.here hx rfl (hb hby at_292) rfl rfl k)) ?_
              refine own_c1 (callV Xj4770 hx hZ (y := mn0) hown (ww hw 414 rfl) (ww hw 415 rfl) (ww hw 417 rfl) (ww hw 416 rfl) (ww hw 418 rfl) (ww hw 163 rfl) (by decide) ej4770 E_q9_j (argsL := []) (rest := []) (W := 0) (au_goesOnL l Z a0 hw q9 q2 q10 _ _ hj4770 n0 Z0 E_q9_j E_q2_j E_q10_j F_simulation_q9_j F_window_q9_j F_now_q2_j F_end_q10_j (own_T_lt hki hk2)) rfl (by decide) (by decide) (by decide) (by decide) rfl (by rw [hml]; rfl) (lenOf pd0 rfl) rfl (by show 2 * 0 + _ ≤ _; exact Nat.le_of_eq rfl) (hb hby at_294)) fun v4782 T4782 L4782 X4782 hQ4782 => ?_
              obtain ⟨rfl, NL4782, hk4782⟩ := hQ4782
              have N0 := Fr.app N0 NL4782
              refine gb T4782 (mkF m 299 (LF x0 x1 x2 x3 2 1 0 sv fs fj ev [SA q1, SA q2, SA q5, SA q9, .val v18, .val v19, SI 1]) [(.int (1 : Int32)), (.int (1 : Int32))]) (fun _ k => XS.iload X4782.here hx rfl (hb hby at_297) rfl k) ?_
              refine gb T4782 (mkF m 302 (LF x0 x1 x2 x3 2 1 0 sv fs fj ev [SA q1, SA q2, SA q5, SA q9, .val v18, .val v19, SI 1]) []) (fun _ k => XS.icmpNo X4782.here hx rfl (hb hby at_299) rfl (by decide) k) ?_
              refine gb T4782 (mkF m 303 (LF x0 x1 x2 x3 2 1 0 sv fs fj ev [SA q1, SA q2, SA q5, SA q9, .val v18, .val v19, SI 1]) [(.int (1 : Int32))]) (fun _ k => XS.iconst X4782.here hx rfl (hb hby at_302)  k) ?_
              refine gb T4782 (mkF m 307 (LF x0 x1 x2 x3 2 1 0 sv fs fj ev [SA q1, SA q2, SA q5, SA q9, .val v18, .val v19, SI 1]) [(.int (1 : Int32))]) (fun _ k => XS.goto X4782.here hx rfl (pc0 := 303) (pc' := 307) rfl (hb hby at_303) (by decide) (by decide) k) ?_
              exact outZ X4782 hx hlk hret (hb hby at_307) (by exact ⟨rfl, N0⟩) (by decide) (by decide)
            · refine gb Tj4770 (mkF m 274 (LF x0 x1 x2 x3 2 1 1 sv fs fj ev [SA q1, SA q2, SA q5, SA q9, .val v18, .val v19, SU]) [(.int (2 : Int32)), (.int (2 : Int32))]) (fun _ k => XS.iload Xj4770.here hx rfl (hb hby at_271) rfl (XS.iconst Xj4770.here hx rfl (hb hby at_273)  k)) ?_
              refine gb Tj4770 (mkF m 285 (LF x0 x1 x2 x3 2 1 1 sv fs fj ev [SA q1, SA q2, SA q5, SA q9, .val v18, .val v19, SU]) []) (fun _ k => XS.icmpYes Xj4770.here hx rfl (pc0 := 274) (pc' := 285) rfl (hb hby at_274) rfl (by decide) (by decide) (by decide) k) ?_
              refine gb Tj4770 (mkF m 286 (LF x0 x1 x2 x3 2 1 1 sv fs fj ev [SA q1, SA q2, SA q5, SA q9, .val v18, .val v19, SU]) [(.int (1 : Int32))]) (fun _ k => XS.iconst Xj4770.here hx rfl (hb hby at_285)  k) ?_
              refine gb Tj4770 (mkF m 290 (LF x0 x1 x2 x3 2 1 1 sv fs fj ev [SA q1, SA q2, SA q5, SA q9, .val v18, .val v19, SU]) [(.int (1 : Int32))]) (fun _ k => XS.goto Xj4770.here hx rfl (pc0 := 286) (pc' := 290) rfl (hb hby at_286) (by decide) (by decide) k) ?_
              refine gb Tj4770 (mkF m 294 (LF x0 x1 x2 x3 2 1 1 sv fs fj ev [SA q1, SA q2, SA q5, SA q9, .val v18, .val v19, SI 1]) [(.ref q9)]) (fun _ k => XS.istore Xj4770.here hx rfl (hb hby at_290) rfl (l' := (LF x0 x1 x2 x3 2 1 1 sv fs fj ev [SA q1, SA q2, SA q5, SA q9, .val v18, .val v19, SI 1])) rfl (XS.aload Xj4770.here hx rfl (hb hby at_292) rfl rfl k)) ?_
              refine own_c1 (callV Xj4770 hx hZ (y := mn0) hown (ww hw 414 rfl) (ww hw 415 rfl) (ww hw 417 rfl) (ww hw 416 rfl) (ww hw 418 rfl) (ww hw 163 rfl) (by decide) ej4770 E_q9_j (argsL := []) (rest := []) (W := 0) (au_goesOnL l Z a0 hw q9 q2 q10 _ _ hj4770 n0 Z0 E_q9_j E_q2_j E_q10_j F_simulation_q9_j F_window_q9_j F_now_q2_j F_end_q10_j (own_T_lt hki hk2)) rfl (by decide) (by decide) (by decide) (by decide) rfl (by rw [hml]; rfl) (lenOf pd0 rfl) rfl (by show 2 * 0 + _ ≤ _; exact Nat.le_of_eq rfl) (hb hby at_294)) fun v4783 T4783 L4783 X4783 hQ4783 => ?_
              obtain ⟨rfl, NL4783, hk4783⟩ := hQ4783
              have N0 := Fr.app N0 NL4783
              refine gb T4783 (mkF m 299 (LF x0 x1 x2 x3 2 1 1 sv fs fj ev [SA q1, SA q2, SA q5, SA q9, .val v18, .val v19, SI 1]) [(.int (1 : Int32)), (.int (1 : Int32))]) (fun _ k => XS.iload X4783.here hx rfl (hb hby at_297) rfl k) ?_
              refine gb T4783 (mkF m 302 (LF x0 x1 x2 x3 2 1 1 sv fs fj ev [SA q1, SA q2, SA q5, SA q9, .val v18, .val v19, SI 1]) []) (fun _ k => XS.icmpNo X4783.here hx rfl (hb hby at_299) rfl (by decide) k) ?_
              refine gb T4783 (mkF m 303 (LF x0 x1 x2 x3 2 1 1 sv fs fj ev [SA q1, SA q2, SA q5, SA q9, .val v18, .val v19, SI 1]) [(.int (1 : Int32))]) (fun _ k => XS.iconst X4783.here hx rfl (hb hby at_302)  k) ?_
              refine gb T4783 (mkF m 307 (LF x0 x1 x2 x3 2 1 1 sv fs fj ev [SA q1, SA q2, SA q5, SA q9, .val v18, .val v19, SI 1]) [(.int (1 : Int32))]) (fun _ k => XS.goto X4783.here hx rfl (pc0 := 303) (pc' := 307) rfl (hb hby at_303) (by decide) (by decide) k) ?_
              exact outZ X4783 hx hlk hret (hb hby at_307) (by exact ⟨rfl, N0⟩) (by decide) (by decide)
            · refine gb Tj4770 (mkF m 274 (LF x0 x1 x2 x3 2 2 0 sv fs fj ev [SA q1, SA q2, SA q5, SA q9, .val v18, .val v19, SU]) [(.int (2 : Int32)), (.int (2 : Int32))]) (fun _ k => XS.iload Xj4770.here hx rfl (hb hby at_271) rfl (XS.iconst Xj4770.here hx rfl (hb hby at_273)  k)) ?_
              refine gb Tj4770 (mkF m 285 (LF x0 x1 x2 x3 2 2 0 sv fs fj ev [SA q1, SA q2, SA q5, SA q9, .val v18, .val v19, SU]) []) (fun _ k => XS.icmpYes Xj4770.here hx rfl (pc0 := 274) (pc' := 285) rfl (hb hby at_274) rfl (by decide) (by decide) (by decide) k) ?_
              refine gb Tj4770 (mkF m 286 (LF x0 x1 x2 x3 2 2 0 sv fs fj ev [SA q1, SA q2, SA q5, SA q9, .val v18, .val v19, SU]) [(.int (1 : Int32))]) (fun _ k => XS.iconst Xj4770.here hx rfl (hb hby at_285)  k) ?_
              refine gb Tj4770 (mkF m 290 (LF x0 x1 x2 x3 2 2 0 sv fs fj ev [SA q1, SA q2, SA q5, SA q9, .val v18, .val v19, SU]) [(.int (1 : Int32))]) (fun _ k => XS.goto Xj4770.here hx rfl (pc0 := 286) (pc' := 290) rfl (hb hby at_286) (by decide) (by decide) k) ?_
              refine gb Tj4770 (mkF m 294 (LF x0 x1 x2 x3 2 2 0 sv fs fj ev [SA q1, SA q2, SA q5, SA q9, .val v18, .val v19, SI 1]) [(.ref q9)]) (fun _ k => XS.istore Xj4770.here hx rfl (hb hby at_290) rfl (l' := (LF x0 x1 x2 x3 2 2 0 sv fs fj ev [SA q1, SA q2, SA q5, SA q9, .val v18, .val v19, SI 1])) rfl (XS.aload Xj4770.here hx rfl (hb hby at_292) rfl rfl k)) ?_
              refine own_c1 (callV Xj4770 hx hZ (y := mn0) hown (ww hw 414 rfl) (ww hw 415 rfl) (ww hw 417 rfl) (ww hw 416 rfl) (ww hw 418 rfl) (ww hw 163 rfl) (by decide) ej4770 E_q9_j (argsL := []) (rest := []) (W := 0) (au_goesOnL l Z a0 hw q9 q2 q10 _ _ hj4770 n0 Z0 E_q9_j E_q2_j E_q10_j F_simulation_q9_j F_window_q9_j F_now_q2_j F_end_q10_j (own_T_lt hki hk2)) rfl (by decide) (by decide) (by decide) (by decide) rfl (by rw [hml]; rfl) (lenOf pd0 rfl) rfl (by show 2 * 0 + _ ≤ _; exact Nat.le_of_eq rfl) (hb hby at_294)) fun v4784 T4784 L4784 X4784 hQ4784 => ?_
              obtain ⟨rfl, NL4784, hk4784⟩ := hQ4784
              have N0 := Fr.app N0 NL4784
              refine gb T4784 (mkF m 299 (LF x0 x1 x2 x3 2 2 0 sv fs fj ev [SA q1, SA q2, SA q5, SA q9, .val v18, .val v19, SI 1]) [(.int (1 : Int32)), (.int (1 : Int32))]) (fun _ k => XS.iload X4784.here hx rfl (hb hby at_297) rfl k) ?_
              refine gb T4784 (mkF m 302 (LF x0 x1 x2 x3 2 2 0 sv fs fj ev [SA q1, SA q2, SA q5, SA q9, .val v18, .val v19, SI 1]) []) (fun _ k => XS.icmpNo X4784.here hx rfl (hb hby at_299) rfl (by decide) k) ?_
              refine gb T4784 (mkF m 303 (LF x0 x1 x2 x3 2 2 0 sv fs fj ev [SA q1, SA q2, SA q5, SA q9, .val v18, .val v19, SI 1]) [(.int (1 : Int32))]) (fun _ k => XS.iconst X4784.here hx rfl (hb hby at_302)  k) ?_
              refine gb T4784 (mkF m 307 (LF x0 x1 x2 x3 2 2 0 sv fs fj ev [SA q1, SA q2, SA q5, SA q9, .val v18, .val v19, SI 1]) [(.int (1 : Int32))]) (fun _ k => XS.goto X4784.here hx rfl (pc0 := 303) (pc' := 307) rfl (hb hby at_303) (by decide) (by decide) k) ?_
              exact outZ X4784 hx hlk hret (hb hby at_307) (by exact ⟨rfl, N0⟩) (by decide) (by decide)
            · refine gb Tj4770 (mkF m 274 (LF x0 x1 x2 x3 2 2 1 sv fs fj ev [SA q1, SA q2, SA q5, SA q9, .val v18, .val v19, SU]) [(.int (2 : Int32)), (.int (2 : Int32))]) (fun _ k => XS.iload Xj4770.here hx rfl (hb hby at_271) rfl (XS.iconst Xj4770.here hx rfl (hb hby at_273)  k)) ?_
              refine gb Tj4770 (mkF m 285 (LF x0 x1 x2 x3 2 2 1 sv fs fj ev [SA q1, SA q2, SA q5, SA q9, .val v18, .val v19, SU]) []) (fun _ k => XS.icmpYes Xj4770.here hx rfl (pc0 := 274) (pc' := 285) rfl (hb hby at_274) rfl (by decide) (by decide) (by decide) k) ?_
              refine gb Tj4770 (mkF m 286 (LF x0 x1 x2 x3 2 2 1 sv fs fj ev [SA q1, SA q2, SA q5, SA q9, .val v18, .val v19, SU]) [(.int (1 : Int32))]) (fun _ k => XS.iconst Xj4770.here hx rfl (hb hby at_285)  k) ?_
              refine gb Tj4770 (mkF m 290 (LF x0 x1 x2 x3 2 2 1 sv fs fj ev [SA q1, SA q2, SA q5, SA q9, .val v18, .val v19, SU]) [(.int (1 : Int32))]) (fun _ k => XS.goto Xj4770.here hx rfl (pc0 := 286) (pc' := 290) rfl (hb hby at_286) (by decide) (by decide) k) ?_
              refine gb Tj4770 (mkF m 294 (LF x0 x1 x2 x3 2 2 1 sv fs fj ev [SA q1, SA q2, SA q5, SA q9, .val v18, .val v19, SI 1]) [(.ref q9)]) (fun _ k => XS.istore Xj4770.here hx rfl (hb hby at_290) rfl (l' := (LF x0 x1 x2 x3 2 2 1 sv fs fj ev [SA q1, SA q2, SA q5, SA q9, .val v18, .val v19, SI 1])) rfl (XS.aload Xj4770.here hx rfl (hb hby at_292) rfl rfl k)) ?_
              refine own_c1 (callV Xj4770 hx hZ (y := mn0) hown (ww hw 414 rfl) (ww hw 415 rfl) (ww hw 417 rfl) (ww hw 416 rfl) (ww hw 418 rfl) (ww hw 163 rfl) (by decide) ej4770 E_q9_j (argsL := []) (rest := []) (W := 0) (au_goesOnL l Z a0 hw q9 q2 q10 _ _ hj4770 n0 Z0 E_q9_j E_q2_j E_q10_j F_simulation_q9_j F_window_q9_j F_now_q2_j F_end_q10_j (own_T_lt hki hk2)) rfl (by decide) (by decide) (by decide) (by decide) rfl (by rw [hml]; rfl) (lenOf pd0 rfl) rfl (by show 2 * 0 + _ ≤ _; exact Nat.le_of_eq rfl) (hb hby at_294)) fun v4785 T4785 L4785 X4785 hQ4785 => ?_
              obtain ⟨rfl, NL4785, hk4785⟩ := hQ4785
              have N0 := Fr.app N0 NL4785
              refine gb T4785 (mkF m 299 (LF x0 x1 x2 x3 2 2 1 sv fs fj ev [SA q1, SA q2, SA q5, SA q9, .val v18, .val v19, SI 1]) [(.int (1 : Int32)), (.int (1 : Int32))]) (fun _ k => XS.iload X4785.here hx rfl (hb hby at_297) rfl k) ?_
              refine gb T4785 (mkF m 302 (LF x0 x1 x2 x3 2 2 1 sv fs fj ev [SA q1, SA q2, SA q5, SA q9, .val v18, .val v19, SI 1]) []) (fun _ k => XS.icmpNo X4785.here hx rfl (hb hby at_299) rfl (by decide) k) ?_
              refine gb T4785 (mkF m 303 (LF x0 x1 x2 x3 2 2 1 sv fs fj ev [SA q1, SA q2, SA q5, SA q9, .val v18, .val v19, SI 1]) [(.int (1 : Int32))]) (fun _ k => XS.iconst X4785.here hx rfl (hb hby at_302)  k) ?_
              refine gb T4785 (mkF m 307 (LF x0 x1 x2 x3 2 2 1 sv fs fj ev [SA q1, SA q2, SA q5, SA q9, .val v18, .val v19, SI 1]) [(.int (1 : Int32))]) (fun _ k => XS.goto X4785.here hx rfl (pc0 := 303) (pc' := 307) rfl (hb hby at_303) (by decide) (by decide) k) ?_
              exact outZ X4785 hx hlk hret (hb hby at_307) (by exact ⟨rfl, N0⟩) (by decide) (by decide)
          rcases hpv with rfl | rfl | rfl
          · refine gb T4769 (mkF m 209 (LF x0 x1 x2 x3 md 0 lv sv fs f ev [SA q1, SA q2, SA q5, SA q9, SN, SU, SU]) [(.int (1 : Int32)), (.int (0 : Int32))]) (fun _ k => XS.iload X4769.here hx rfl (hb hby at_206) rfl (XS.iconst X4769.here hx rfl (hb hby at_208)  k)) ?_
            refine gb T4769 (mkF m 222 (LF x0 x1 x2 x3 md 0 lv sv fs f ev [SA q1, SA q2, SA q5, SA q9, SN, SU, SU]) []) (fun _ k => XS.icmpYes X4769.here hx rfl (pc0 := 209) (pc' := 222) rfl (hb hby at_209) rfl (by decide) (by decide) (by decide) k) ?_
            refine gb T4769 (mkF m 224 (LF x0 x1 x2 x3 md 0 lv sv fs f ev [SA q1, SA q2, SA q5, SA q9, SN, SU, SU]) [(.ref q2)]) (fun _ k => XS.aload X4769.here hx rfl (hb hby at_222) rfl rfl k) ?_
            refine own_c1 (callV X4769 hx hZ (y := mn25) hown (ww hw 301 rfl) (ww hw 302 rfl) (ww hw 304 rfl) (ww hw 303 rfl) (ww hw 305 rfl) (ww hw 28 rfl) (by decide) e4769 E_q2 (argsL := []) (rest := []) (W := 0) (au44_run l Z a0 hw q2 q1 q3 q4 q5 q7 q8 (0 : Int64) (0 : Int64) (0 : Int64) (1 : Int64) (0 : Int64) (2 : Int64) (1 : Int64) (0 : Int64) (1 : Int64) (0 : UInt64) (0 : UInt64) (0 : UInt64) (4607182418800017409 : UInt64) T4769.heap n0 Z0 E_q1 f4678 f4679 E_q2 f4690 f4694 E_q5 f4698 f4699 f4706 f4707 f4708 f4709 f4710 f4711 f4712 f4713 f4714 f4715 f4716 f4717 f4718 f4719 f4720 f4721 f4722 f4723 f4724 f4725 ne_q1_q2 ne_q1_q3 ne_q1_q4 ne_q1_q5 ne_q1_q7 ne_q1_q8 ne_q2_q3 ne_q2_q4 ne_q2_q5 ne_q2_q7 ne_q2_q8 ne_q3_q4 ne_q3_q5 ne_q3_q7 ne_q3_q8 ne_q4_q5 ne_q4_q7 ne_q4_q8 ne_q5_q7 ne_q5_q8 ne_q7_q8 ge_q1 ge_q2 ge_q3 ge_q4 ge_q5 ge_q7 ge_q8) rfl (by decide) (by decide) (by decide) (by decide) rfl (by rw [hml]; rfl) (lenOf pd7 rfl) rfl (by show 2 * 0 + _ ≤ _; exact Nat.le_of_eq rfl) (hb hby at_224)) fun v4809 T4809 L4809 X4809 hQ4809 => ?_
            obtain ⟨rfl, NL4809, K4809, f4786, f4787, f4788, f4789, f4790, f4791, f4792, f4793, f4794, f4795, f4796, f4797, f4798, f4799, f4800, f4801, f4802, f4803, f4804, f4805, f4806, f4807⟩ := hQ4809
            have N0 := Fr.app N0 NL4809
            have e4809 : T4809.heap = T4809.heap := rfl
            have B0 := own_extK B0 K4809 (allS (Nat.le_trans qH ge_q1) (allS (Nat.le_trans qH ge_q2) (allS (Nat.le_trans qH ge_q3) (allS (Nat.le_trans qH ge_q4) (allS (Nat.le_trans qH ge_q5) (allS (Nat.le_trans qH ge_q7) (allS (Nat.le_trans qH ge_q8) all0)))))))
            have E_q1 := E_q1.keep K4809
            have E_q2 := E_q2.keep K4809
            have f4690 := f4690.keep K4809
            have f4694 := f4694.keep K4809
            have E_q5 := E_q5.keep K4809
            have f4706 := f4706.keep K4809
            have f4712 := f4712.keep K4809
            have E_q9 := E_q9.keep K4809
            have E_q10 := E_q10.keep K4809
            have nin_q10 := (ninS (Ne.symm ne_q1_q10) (ninS (Ne.symm ne_q2_q10) (ninS (Ne.symm ne_q3_q10) (ninS (Ne.symm ne_q4_q10) (ninS (Ne.symm ne_q5_q10) (ninS (Ne.symm ne_q7_q10) (ninS (Ne.symm ne_q8_q10) nin0)))))))
            have f4745 := f4745.keep K4809 nin_q10
            have nin_q9 := (ninS (Ne.symm ne_q1_q9) (ninS (Ne.symm ne_q2_q9) (ninS (Ne.symm ne_q3_q9) (ninS (Ne.symm ne_q4_q9) (ninS (Ne.symm ne_q5_q9) (ninS (Ne.symm ne_q7_q9) (ninS (Ne.symm ne_q8_q9) nin0)))))))
            have f4748 := f4748.keep K4809 nin_q9
            have f4749 := f4749.keep K4809 nin_q9
            have f4750 := f4750.keep K4809 nin_q9
            have f4751 := f4751.keep K4809 nin_q9
            have f4752 := f4752.keep K4809 nin_q9
            have f4753 := f4753.keep K4809 nin_q9
            have f4754 := f4754.keep K4809 nin_q9
            have f4755 := f4755.keep K4809 nin_q9
            have f4756 := f4756.keep K4809 nin_q9
            have f4757 := f4757.keep K4809 nin_q9
            have f4758 := f4758.keep K4809 nin_q9
            have f4759 := f4759.keep K4809 nin_q9
            have nin_q11 := (ninS (Ne.symm ne_q1_q11) (ninS (Ne.symm ne_q2_q11) (ninS (Ne.symm ne_q3_q11) (ninS (Ne.symm ne_q4_q11) (ninS (Ne.symm ne_q5_q11) (ninS (Ne.symm ne_q7_q11) (ninS (Ne.symm ne_q8_q11) nin0)))))))
            have f4760 := f4760.keep K4809 nin_q11
            have f4761 := f4761.keep K4809
            have nin_q12 := (ninS (Ne.symm ne_q1_q12) (ninS (Ne.symm ne_q2_q12) (ninS (Ne.symm ne_q3_q12) (ninS (Ne.symm ne_q4_q12) (ninS (Ne.symm ne_q5_q12) (ninS (Ne.symm ne_q7_q12) (ninS (Ne.symm ne_q8_q12) nin0)))))))
            have f4762 := f4762.keep K4809 nin_q12
            have f4763 := f4763.keep K4809 nin_q12
            have f4764 := f4764.keep K4809
            have nin_q13 := (ninS (Ne.symm ne_q1_q13) (ninS (Ne.symm ne_q2_q13) (ninS (Ne.symm ne_q3_q13) (ninS (Ne.symm ne_q4_q13) (ninS (Ne.symm ne_q5_q13) (ninS (Ne.symm ne_q7_q13) (ninS (Ne.symm ne_q8_q13) nin0)))))))
            have f4765 := f4765.keep K4809 nin_q13
            have f4766 := f4766.keep K4809 nin_q13
            have nin_q14 := (ninS (Ne.symm ne_q1_q14) (ninS (Ne.symm ne_q2_q14) (ninS (Ne.symm ne_q3_q14) (ninS (Ne.symm ne_q4_q14) (ninS (Ne.symm ne_q5_q14) (ninS (Ne.symm ne_q7_q14) (ninS (Ne.symm ne_q8_q14) nin0)))))))
            have f4767 := f4767.keep K4809 nin_q14
            have nin_q15 := (ninS (Ne.symm ne_q1_q15) (ninS (Ne.symm ne_q2_q15) (ninS (Ne.symm ne_q3_q15) (ninS (Ne.symm ne_q4_q15) (ninS (Ne.symm ne_q5_q15) (ninS (Ne.symm ne_q7_q15) (ninS (Ne.symm ne_q8_q15) nin0)))))))
            have f4768 := f4768.keep K4809 nin_q15
            have Z0 := Nat.le_trans Z0 K4809.1
            refine gb T4809 (mkF m 233 (LF x0 x1 x2 x3 md 0 lv sv fs f ev [SA q1, SA q2, SA q5, SA q9, SN, SN, SU]) [(.int (2 : Int32)), (.int (0 : Int32))]) (fun _ k => XS.aconstNull X4809.here hx rfl (hb hby at_227)  (XS.astore X4809.here hx rfl (hb hby at_228) rfl rfl (l' := (LF x0 x1 x2 x3 md 0 lv sv fs f ev [SA q1, SA q2, SA q5, SA q9, SN, SN, SU])) rfl (XS.iload X4809.here hx rfl (hb hby at_230) rfl (XS.iconst X4809.here hx rfl (hb hby at_232)  k)))) ?_
            refine gb T4809 (mkF m 246 (LF x0 x1 x2 x3 md 0 lv sv fs f ev [SA q1, SA q2, SA q5, SA q9, SN, SN, SU]) []) (fun _ k => XS.icmpYes X4809.here hx rfl (pc0 := 233) (pc' := 246) rfl (hb hby at_233) rfl (by decide) (by decide) (by decide) k) ?_
            rcases hlv with rfl | ⟨rfl, hl1⟩
            · refine gb T4809 (mkF m 249 (LF x0 x1 x2 x3 md 0 0 sv fs f ev [SA q1, SA q2, SA q5, SA q9, SN, SN, SU]) [(.int (1 : Int32)), (.int (0 : Int32))]) (fun _ k => XS.iload X4809.here hx rfl (hb hby at_246) rfl (XS.iconst X4809.here hx rfl (hb hby at_248)  k)) ?_
              refine gb T4809 (mkF m 271 (LF x0 x1 x2 x3 md 0 0 sv fs f ev [SA q1, SA q2, SA q5, SA q9, SN, SN, SU]) []) (fun _ k => XS.icmpYes X4809.here hx rfl (pc0 := 249) (pc' := 271) rfl (hb hby at_249) rfl (by decide) (by decide) (by decide) k) ?_
              exact jz _ _ _ _ .null .null _ _ _ (X4809.wide (fun x hx _ => hx) (by decide) (by decide)) e4809 N0 Z0 E_q9 E_q2 E_q10 f4751 f4752 f4788 f4745 f4756 (Or.inl ⟨rfl, rfl, rfl⟩)
            · exact absurd rfl hl1
          · refine gb T4769 (mkF m 209 (LF x0 x1 x2 x3 md 1 lv sv fs f ev [SA q1, SA q2, SA q5, SA q9, SN, SU, SU]) [(.int (1 : Int32)), (.int (1 : Int32))]) (fun _ k => XS.iload X4769.here hx rfl (hb hby at_206) rfl (XS.iconst X4769.here hx rfl (hb hby at_208)  k)) ?_
            refine gb T4769 (mkF m 212 (LF x0 x1 x2 x3 md 1 lv sv fs f ev [SA q1, SA q2, SA q5, SA q9, SN, SU, SU]) []) (fun _ k => XS.icmpNo X4769.here hx rfl (hb hby at_209) rfl (by decide) k) ?_
            refine gb T4769 (mkF m 217 (LF x0 x1 x2 x3 md 1 lv sv fs f ev [SA q1, SA q2, SA q5, SA q9, SN, SU, SU]) [(.double (4607182418800017408 : UInt64)), (.long (0 : Int64)), .null, (.ref q9)]) (fun _ k => XS.aload X4769.here hx rfl (hb hby at_212) rfl rfl (XS.aconstNull X4769.here hx rfl (hb hby at_214)  (XS.lconst X4769.here hx rfl (hb hby at_215)  (XS.dconst1 X4769.here hx rfl (hb hby at_216) rfl k)))) ?_
            refine own_c1 (callV X4769 hx hZ (y := mn15) hown (ww hw 263 rfl) (ww hw 264 rfl) (ww hw 266 rfl) (ww hw 265 rfl) (ww hw 267 rfl) (ww hw 163 rfl) (by decide) e4769 E_q9 (argsL := [.null, (.long (0 : Int64)), (.double (4607182418800017408 : UInt64))]) (rest := []) (W := 0) (au47_produce l Z a0 hw q9 q2 q5 q11 q12 q13 q10 q14 q15 (0 : Int64) (0 : Int64) (0 : Int64) (0 : Int64) (0 : UInt64) T4769.heap n0 Z0 E_q2 E_q5 f4698 f4715 E_q9 f4748 f4749 f4750 f4751 f4752 f4753 f4754 f4755 f4756 f4757 f4758 f4759 ge_q9) rfl (by decide) (by decide) (by decide) (by decide) rfl (by rw [hml]; rfl) (lenOf pd25 rfl) rfl (by show 2 * 0 + _ ≤ _; exact Nat.le_of_eq rfl) (hb hby at_217)) fun v4826 T4826 L4826 X4826 hQ4826 => ?_
            obtain ⟨q16, rfl, NL4826, K4826, sz4826_q16, f4810, f4811, f4812, f4813, f4814, f4815, f4816, f4817, f4818, f4819, f4820, f4821, f4822, f4823, f4824⟩ := hQ4826
            have N0 := Fr.app N0 NL4826
            have ne_q1_q16 : q1 ≠ q16 := own_nc E_q1.lt sz4826_q16
            have ne_q2_q16 : q2 ≠ q16 := own_nc E_q2.lt sz4826_q16
            have ne_q3_q16 : q3 ≠ q16 := own_nc f4690.lt sz4826_q16
            have ne_q4_q16 : q4 ≠ q16 := own_nc f4694.lt sz4826_q16
            have ne_q5_q16 : q5 ≠ q16 := own_nc E_q5.lt sz4826_q16
            have ne_q7_q16 : q7 ≠ q16 := own_nc f4706.lt sz4826_q16
            have ne_q8_q16 : q8 ≠ q16 := own_nc f4712.lt sz4826_q16
            have ne_q9_q16 : q9 ≠ q16 := own_nc E_q9.lt sz4826_q16
            have ge_q16 : n0 ≤ q16 := Nat.le_trans Z0 sz4826_q16
            have e4826 : T4826.heap = T4826.heap := rfl
            have B0 := own_extK B0 K4826 (allS (Nat.le_trans qH ge_q9) all0)
            have E_q1 := E_q1.keep K4826
            have f4678 := f4678.keep K4826 (ninS ne_q1_q9 nin0)
            have f4679 := f4679.keep K4826 (ninS ne_q1_q9 nin0)
            have E_q2 := E_q2.keep K4826
            have f4690 := f4690.keep K4826
            have f4694 := f4694.keep K4826
            have E_q5 := E_q5.keep K4826
            have f4698 := f4698.keep K4826 (ninS ne_q5_q9 nin0)
            have f4699 := f4699.keep K4826 (ninS ne_q5_q9 nin0)
            have f4706 := f4706.keep K4826
            have f4707 := f4707.keep K4826 (ninS ne_q7_q9 nin0)
            have f4708 := f4708.keep K4826 (ninS ne_q7_q9 nin0)
            have f4709 := f4709.keep K4826 (ninS ne_q7_q9 nin0)
            have f4710 := f4710.keep K4826 (ninS ne_q7_q9 nin0)
            have f4711 := f4711.keep K4826 (ninS ne_q7_q9 nin0)
            have f4712 := f4712.keep K4826
            have f4713 := f4713.keep K4826 (ninS ne_q2_q9 nin0)
            have f4714 := f4714.keep K4826 (ninS ne_q2_q9 nin0)
            have f4715 := f4715.keep K4826 (ninS ne_q2_q9 nin0)
            have f4716 := f4716.keep K4826 (ninS ne_q2_q9 nin0)
            have f4717 := f4717.keep K4826 (ninS ne_q3_q9 nin0)
            have f4718 := f4718.keep K4826 (ninS ne_q3_q9 nin0)
            have f4719 := f4719.keep K4826 (ninS ne_q3_q9 nin0)
            have f4720 := f4720.keep K4826 (ninS ne_q4_q9 nin0)
            have f4721 := f4721.keep K4826 (ninS ne_q8_q9 nin0)
            have f4722 := f4722.keep K4826 (ninS ne_q8_q9 nin0)
            have f4723 := f4723.keep K4826 (ninS ne_q8_q9 nin0)
            have f4724 := f4724.keep K4826 (ninS ne_q8_q9 nin0)
            have f4725 := f4725.keep K4826 (ninS ne_q8_q9 nin0)
            have E_q9 := E_q9.keep K4826
            have E_q10 := E_q10.keep K4826
            have f4745 := f4745.keep K4826 (ninS (Ne.symm ne_q9_q10) nin0)
            have f4760 := f4760.keep K4826 (ninS (Ne.symm ne_q9_q11) nin0)
            have f4761 := f4761.keep K4826
            have f4762 := f4762.keep K4826 (ninS (Ne.symm ne_q9_q12) nin0)
            have f4763 := f4763.keep K4826 (ninS (Ne.symm ne_q9_q12) nin0)
            have f4764 := f4764.keep K4826
            have f4765 := f4765.keep K4826 (ninS (Ne.symm ne_q9_q13) nin0)
            have f4766 := f4766.keep K4826 (ninS (Ne.symm ne_q9_q13) nin0)
            have f4767 := f4767.keep K4826 (ninS (Ne.symm ne_q9_q14) nin0)
            have f4768 := f4768.keep K4826 (ninS (Ne.symm ne_q9_q15) nin0)
            have Z0 := Nat.le_trans Z0 K4826.1
            have f4818 : Fld Z T4826.heap q9 sn0 "inNetwork" "J" (.long (1 : Int64)) := f4818
            have f4819 : Fld Z T4826.heap q9 sn0 "produced" "J" (.long (0 : Int64)) := f4819
            refine gb T4826 (mkF m 224 (LF x0 x1 x2 x3 md 1 lv sv fs f ev [SA q1, SA q2, SA q5, SA q9, SA q16, SU, SU]) [(.ref q2)]) (fun _ k => XS.astore X4826.here hx rfl (hb hby at_220) rfl rfl (l' := (LF x0 x1 x2 x3 md 1 lv sv fs f ev [SA q1, SA q2, SA q5, SA q9, SA q16, SU, SU])) rfl (XS.aload X4826.here hx rfl (hb hby at_222) rfl rfl k)) ?_
            refine own_c1 (callV X4826 hx hZ (y := mn25) hown (ww hw 301 rfl) (ww hw 302 rfl) (ww hw 304 rfl) (ww hw 303 rfl) (ww hw 305 rfl) (ww hw 28 rfl) (by decide) e4826 E_q2 (argsL := []) (rest := []) (W := 0) (au44_run l Z a0 hw q2 q1 q3 q4 q5 q7 q8 (0 : Int64) (0 : Int64) (0 : Int64) (1 : Int64) (0 : Int64) (2 : Int64) (1 : Int64) (0 : Int64) (1 : Int64) (0 : UInt64) (0 : UInt64) (0 : UInt64) (4607182418800017409 : UInt64) T4826.heap n0 Z0 E_q1 f4678 f4679 E_q2 f4690 f4694 E_q5 f4698 f4699 f4706 f4707 f4708 f4709 f4710 f4711 f4712 f4713 f4714 f4715 f4716 f4717 f4718 f4719 f4720 f4721 f4722 f4723 f4724 f4725 ne_q1_q2 ne_q1_q3 ne_q1_q4 ne_q1_q5 ne_q1_q7 ne_q1_q8 ne_q2_q3 ne_q2_q4 ne_q2_q5 ne_q2_q7 ne_q2_q8 ne_q3_q4 ne_q3_q5 ne_q3_q7 ne_q3_q8 ne_q4_q5 ne_q4_q7 ne_q4_q8 ne_q5_q7 ne_q5_q8 ne_q7_q8 ge_q1 ge_q2 ge_q3 ge_q4 ge_q5 ge_q7 ge_q8) rfl (by decide) (by decide) (by decide) (by decide) rfl (by rw [hml]; rfl) (lenOf pd7 rfl) rfl (by show 2 * 0 + _ ≤ _; exact Nat.le_of_eq rfl) (hb hby at_224)) fun v4850 T4850 L4850 X4850 hQ4850 => ?_
            obtain ⟨rfl, NL4850, K4850, f4827, f4828, f4829, f4830, f4831, f4832, f4833, f4834, f4835, f4836, f4837, f4838, f4839, f4840, f4841, f4842, f4843, f4844, f4845, f4846, f4847, f4848⟩ := hQ4850
            have N0 := Fr.app N0 NL4850
            have e4850 : T4850.heap = T4850.heap := rfl
            have B0 := own_extK B0 K4850 (allS (Nat.le_trans qH ge_q1) (allS (Nat.le_trans qH ge_q2) (allS (Nat.le_trans qH ge_q3) (allS (Nat.le_trans qH ge_q4) (allS (Nat.le_trans qH ge_q5) (allS (Nat.le_trans qH ge_q7) (allS (Nat.le_trans qH ge_q8) all0)))))))
            have E_q1 := E_q1.keep K4850
            have E_q2 := E_q2.keep K4850
            have E_q5 := E_q5.keep K4850
            have E_q9 := E_q9.keep K4850
            have E_q10 := E_q10.keep K4850
            have nin_q10 := (ninS (Ne.symm ne_q1_q10) (ninS (Ne.symm ne_q2_q10) (ninS (Ne.symm ne_q3_q10) (ninS (Ne.symm ne_q4_q10) (ninS (Ne.symm ne_q5_q10) (ninS (Ne.symm ne_q7_q10) (ninS (Ne.symm ne_q8_q10) nin0)))))))
            have f4745 := f4745.keep K4850 nin_q10
            have nin_q11 := (ninS (Ne.symm ne_q1_q11) (ninS (Ne.symm ne_q2_q11) (ninS (Ne.symm ne_q3_q11) (ninS (Ne.symm ne_q4_q11) (ninS (Ne.symm ne_q5_q11) (ninS (Ne.symm ne_q7_q11) (ninS (Ne.symm ne_q8_q11) nin0)))))))
            have f4760 := f4760.keep K4850 nin_q11
            have f4761 := f4761.keep K4850
            have nin_q12 := (ninS (Ne.symm ne_q1_q12) (ninS (Ne.symm ne_q2_q12) (ninS (Ne.symm ne_q3_q12) (ninS (Ne.symm ne_q4_q12) (ninS (Ne.symm ne_q5_q12) (ninS (Ne.symm ne_q7_q12) (ninS (Ne.symm ne_q8_q12) nin0)))))))
            have f4762 := f4762.keep K4850 nin_q12
            have f4763 := f4763.keep K4850 nin_q12
            have f4764 := f4764.keep K4850
            have nin_q13 := (ninS (Ne.symm ne_q1_q13) (ninS (Ne.symm ne_q2_q13) (ninS (Ne.symm ne_q3_q13) (ninS (Ne.symm ne_q4_q13) (ninS (Ne.symm ne_q5_q13) (ninS (Ne.symm ne_q7_q13) (ninS (Ne.symm ne_q8_q13) nin0)))))))
            have f4765 := f4765.keep K4850 nin_q13
            have f4766 := f4766.keep K4850 nin_q13
            have nin_q14 := (ninS (Ne.symm ne_q1_q14) (ninS (Ne.symm ne_q2_q14) (ninS (Ne.symm ne_q3_q14) (ninS (Ne.symm ne_q4_q14) (ninS (Ne.symm ne_q5_q14) (ninS (Ne.symm ne_q7_q14) (ninS (Ne.symm ne_q8_q14) nin0)))))))
            have f4767 := f4767.keep K4850 nin_q14
            have nin_q15 := (ninS (Ne.symm ne_q1_q15) (ninS (Ne.symm ne_q2_q15) (ninS (Ne.symm ne_q3_q15) (ninS (Ne.symm ne_q4_q15) (ninS (Ne.symm ne_q5_q15) (ninS (Ne.symm ne_q7_q15) (ninS (Ne.symm ne_q8_q15) nin0)))))))
            have f4768 := f4768.keep K4850 nin_q15
            have nin_q9 := (ninS (Ne.symm ne_q1_q9) (ninS (Ne.symm ne_q2_q9) (ninS (Ne.symm ne_q3_q9) (ninS (Ne.symm ne_q4_q9) (ninS (Ne.symm ne_q5_q9) (ninS (Ne.symm ne_q7_q9) (ninS (Ne.symm ne_q8_q9) nin0)))))))
            have f4810 := f4810.keep K4850 nin_q9
            have f4811 := f4811.keep K4850 nin_q9
            have f4812 := f4812.keep K4850 nin_q9
            have f4813 := f4813.keep K4850 nin_q9
            have f4814 := f4814.keep K4850 nin_q9
            have f4815 := f4815.keep K4850 nin_q9
            have f4816 := f4816.keep K4850 nin_q9
            have f4817 := f4817.keep K4850 nin_q9
            have f4818 := f4818.keep K4850 nin_q9
            have f4819 := f4819.keep K4850 nin_q9
            have f4820 := f4820.keep K4850 nin_q9
            have f4821 := f4821.keep K4850 nin_q9
            have f4822 := f4822.keep K4850
            have nin_q16 := (ninS (Ne.symm ne_q1_q16) (ninS (Ne.symm ne_q2_q16) (ninS (Ne.symm ne_q3_q16) (ninS (Ne.symm ne_q4_q16) (ninS (Ne.symm ne_q5_q16) (ninS (Ne.symm ne_q7_q16) (ninS (Ne.symm ne_q8_q16) nin0)))))))
            have f4824 := f4824.keep K4850 nin_q16
            have Z0 := Nat.le_trans Z0 K4850.1
            refine gb T4850 (mkF m 233 (LF x0 x1 x2 x3 md 1 lv sv fs f ev [SA q1, SA q2, SA q5, SA q9, SA q16, SN, SU]) [(.int (2 : Int32)), (.int (1 : Int32))]) (fun _ k => XS.aconstNull X4850.here hx rfl (hb hby at_227)  (XS.astore X4850.here hx rfl (hb hby at_228) rfl rfl (l' := (LF x0 x1 x2 x3 md 1 lv sv fs f ev [SA q1, SA q2, SA q5, SA q9, SA q16, SN, SU])) rfl (XS.iload X4850.here hx rfl (hb hby at_230) rfl (XS.iconst X4850.here hx rfl (hb hby at_232)  k)))) ?_
            refine gb T4850 (mkF m 246 (LF x0 x1 x2 x3 md 1 lv sv fs f ev [SA q1, SA q2, SA q5, SA q9, SA q16, SN, SU]) []) (fun _ k => XS.icmpYes X4850.here hx rfl (pc0 := 233) (pc' := 246) rfl (hb hby at_233) rfl (by decide) (by decide) (by decide) k) ?_
            rcases hlv with rfl | ⟨rfl, hl1⟩
            · refine gb T4850 (mkF m 249 (LF x0 x1 x2 x3 md 1 0 sv fs f ev [SA q1, SA q2, SA q5, SA q9, SA q16, SN, SU]) [(.int (1 : Int32)), (.int (0 : Int32))]) (fun _ k => XS.iload X4850.here hx rfl (hb hby at_246) rfl (XS.iconst X4850.here hx rfl (hb hby at_248)  k)) ?_
              refine gb T4850 (mkF m 271 (LF x0 x1 x2 x3 md 1 0 sv fs f ev [SA q1, SA q2, SA q5, SA q9, SA q16, SN, SU]) []) (fun _ k => XS.icmpYes X4850.here hx rfl (pc0 := 249) (pc' := 271) rfl (hb hby at_249) rfl (by decide) (by decide) (by decide) k) ?_
              exact jz _ _ _ _ (.ref q16) .null _ _ _ (X4850.wide (fun x hx _ => hx) (by decide) (by decide)) e4850 N0 Z0 E_q9 E_q2 E_q10 f4813 f4814 f4829 f4745 f4818 (Or.inr (Or.inl ⟨rfl, rfl, rfl⟩))
            · rcases hsv with rfl | ⟨rfl, hs2⟩
              · refine gb T4850 (mkF m 249 (LF x0 x1 x2 x3 md 1 1 0 fs f ev [SA q1, SA q2, SA q5, SA q9, SA q16, SN, SU]) [(.int (1 : Int32)), (.int (1 : Int32))]) (fun _ k => XS.iload X4850.here hx rfl (hb hby at_246) rfl (XS.iconst X4850.here hx rfl (hb hby at_248)  k)) ?_
                refine gb T4850 (mkF m 252 (LF x0 x1 x2 x3 md 1 1 0 fs f ev [SA q1, SA q2, SA q5, SA q9, SA q16, SN, SU]) []) (fun _ k => XS.icmpNo X4850.here hx rfl (hb hby at_249) rfl (by decide) k) ?_
                refine gb T4850 (mkF m 256 (LF x0 x1 x2 x3 md 1 1 0 fs f ev [SA q1, SA q2, SA q5, SA q9, SA q16, SN, SU]) [(.int (0 : Int32)), (.ref q9)]) (fun _ k => XS.aload X4850.here hx rfl (hb hby at_252) rfl rfl (XS.iload X4850.here hx rfl (hb hby at_254) rfl k)) ?_
                refine gb T4850 (mkF m 264 (LF x0 x1 x2 x3 md 1 1 0 fs f ev [SA q1, SA q2, SA q5, SA q9, SA q16, SN, SU]) [(.ref q9)]) (fun _ k => XS.ifYes X4850.here hx rfl (pc0 := 256) (pc' := 264) rfl (hb hby at_256) rfl (by decide) (by decide) (by decide) k) ?_
                refine gb T4850 (mkF m 268 (LF x0 x1 x2 x3 md 1 1 0 fs f ev [SA q1, SA q2, SA q5, SA q9, SA q16, SN, SU]) [(.ref f), (.ref q16), (.ref q9)]) (fun _ k => XS.aload X4850.here hx rfl (hb hby at_264) rfl rfl (XS.aload X4850.here hx rfl (hb hby at_266) rfl rfl k)) ?_
                rcases hf with hf | hf | hf | hf
                · rw [hf]
                  refine own_c1 (callV X4850 hx hZ (y := mn1) hown (ww hw 341 rfl) (ww hw 342 rfl) (ww hw 344 rfl) (ww hw 343 rfl) (ww hw 345 rfl) (ww hw 163 rfl) (by decide) e4850 E_q9 (argsL := [(.ref q16), (.ref fD)]) (rest := []) (W := 0) (au56_leave l Z a0 hw q9 q16 fD q1 q2 q5 q13 q11 q12 q10 q14 q15 (0 : Int32) (1 : Int64) (0 : Int64) (0 : Int64) (0 : Int64) (0 : UInt64) (4607182418800017409 : UInt64) h0 T4850.heap n0 Z0 S_DELIVERED E_q1 E_q2 E_q5 E_q9 f4764 f4765 f4766 f4810 f4811 f4812 f4813 f4814 f4815 f4816 f4817 f4818 f4819 f4820 f4821 f4822 f4824 f4827 f4829 f4836 f4837 f4848 ne_q1_q13 ne_q1_q9 ne_q2_q9 ne_q5_q9 ne_q9_q13 ne_q9_q16 ge_q1 ge_q9 qH B0) rfl (by decide) (by decide) (by decide) (by decide) rfl (by rw [hml]; rfl) (lenOf pd29 rfl) rfl (by show 2 * 0 + _ ≤ _; exact Nat.le_of_eq rfl) (hb hby at_268)) fun v4866 T4866 L4866 X4866 hQ4866 => ?_
                  obtain ⟨rfl, NL4866, K4866, f4851, f4852, f4853, f4854, f4855, f4856, f4857, f4858, f4859, f4860, f4861, f4862, f4863, f4864⟩ := hQ4866
                  have N0 := Fr.app N0 NL4866
                  have e4866 : T4866.heap = T4866.heap := rfl
                  have B0 := own_extK B0 K4866 (allS (Nat.le_trans qH ge_q1) (allS (Nat.le_trans qH ge_q9) all0))
                  have E_q1 := E_q1.keep K4866
                  have E_q2 := E_q2.keep K4866
                  have E_q5 := E_q5.keep K4866
                  have E_q9 := E_q9.keep K4866
                  have E_q10 := E_q10.keep K4866
                  have nin_q10 := (ninS (Ne.symm ne_q1_q10) (ninS (Ne.symm ne_q9_q10) nin0))
                  have f4745 := f4745.keep K4866 nin_q10
                  have nin_q11 := (ninS (Ne.symm ne_q1_q11) (ninS (Ne.symm ne_q9_q11) nin0))
                  have f4760 := f4760.keep K4866 nin_q11
                  have f4761 := f4761.keep K4866
                  have nin_q12 := (ninS (Ne.symm ne_q1_q12) (ninS (Ne.symm ne_q9_q12) nin0))
                  have f4762 := f4762.keep K4866 nin_q12
                  have f4763 := f4763.keep K4866 nin_q12
                  have f4764 := f4764.keep K4866
                  have nin_q13 := (ninS (Ne.symm ne_q1_q13) (ninS (Ne.symm ne_q9_q13) nin0))
                  have f4765 := f4765.keep K4866 nin_q13
                  have f4766 := f4766.keep K4866 nin_q13
                  have nin_q14 := (ninS (Ne.symm ne_q1_q14) (ninS (Ne.symm ne_q9_q14) nin0))
                  have f4767 := f4767.keep K4866 nin_q14
                  have nin_q15 := (ninS (Ne.symm ne_q1_q15) (ninS (Ne.symm ne_q9_q15) nin0))
                  have f4768 := f4768.keep K4866 nin_q15
                  have nin_q2 := (ninS (Ne.symm ne_q1_q2) (ninS ne_q2_q9 nin0))
                  have f4827 := f4827.keep K4866 nin_q2
                  have f4829 := f4829.keep K4866 nin_q2
                  have nin_q5 := (ninS (Ne.symm ne_q1_q5) (ninS ne_q5_q9 nin0))
                  have f4848 := f4848.keep K4866 nin_q5
                  have Z0 := Nat.le_trans Z0 K4866.1
                  have f4859 : Fld Z T4866.heap q9 sn0 "inNetwork" "J" (.long (0 : Int64)) := f4859
                  have f4861 : Fld Z T4866.heap q9 sn0 sn18 "J" (.long (0 : Int64)) := f4861
                  exact jz _ _ _ _ (.ref q16) .null _ _ _ (X4866.wide (fun x hx _ => hx) (by decide) (by decide)) e4866 N0 Z0 E_q9 E_q2 E_q10 f4854 f4855 f4829 f4745 f4859 (Or.inr (Or.inr (Or.inl ⟨rfl, rfl, rfl⟩)))
                · rw [hf]
                  refine own_c1 (callV X4850 hx hZ (y := mn1) hown (ww hw 341 rfl) (ww hw 342 rfl) (ww hw 344 rfl) (ww hw 343 rfl) (ww hw 345 rfl) (ww hw 163 rfl) (by decide) e4850 E_q9 (argsL := [(.ref q16), (.ref fE)]) (rest := []) (W := 0) (au57_leave l Z a0 hw q9 q16 fE fD q1 q2 q13 q11 q12 q10 q5 q14 q15 (0 : Int32) (1 : Int64) (0 : Int64) (0 : Int64) (0 : UInt64) (4607182418800017409 : UInt64) h0 T4850.heap n0 Z0 S_DELIVERED E_q1 E_q2 E_q9 f4764 f4765 f4766 f4810 f4811 f4812 f4813 f4814 f4815 f4816 f4817 f4818 f4819 f4820 f4821 f4822 f4824 f4827 f4829 f4836 f4837 ne_fE_fD ne_q1_q13 ne_q1_q9 ne_q2_q9 ne_q9_q13 ne_q9_q16 ge_q1 ge_q9 qH B0) rfl (by decide) (by decide) (by decide) (by decide) rfl (by rw [hml]; rfl) (lenOf pd29 rfl) rfl (by show 2 * 0 + _ ≤ _; exact Nat.le_of_eq rfl) (hb hby at_268)) fun v4882 T4882 L4882 X4882 hQ4882 => ?_
                  obtain ⟨rfl, NL4882, K4882, f4867, f4868, f4869, f4870, f4871, f4872, f4873, f4874, f4875, f4876, f4877, f4878, f4879, f4880⟩ := hQ4882
                  have N0 := Fr.app N0 NL4882
                  have e4882 : T4882.heap = T4882.heap := rfl
                  have B0 := own_extK B0 K4882 (allS (Nat.le_trans qH ge_q1) (allS (Nat.le_trans qH ge_q9) all0))
                  have E_q1 := E_q1.keep K4882
                  have E_q2 := E_q2.keep K4882
                  have E_q5 := E_q5.keep K4882
                  have E_q9 := E_q9.keep K4882
                  have E_q10 := E_q10.keep K4882
                  have nin_q10 := (ninS (Ne.symm ne_q1_q10) (ninS (Ne.symm ne_q9_q10) nin0))
                  have f4745 := f4745.keep K4882 nin_q10
                  have nin_q11 := (ninS (Ne.symm ne_q1_q11) (ninS (Ne.symm ne_q9_q11) nin0))
                  have f4760 := f4760.keep K4882 nin_q11
                  have f4761 := f4761.keep K4882
                  have nin_q12 := (ninS (Ne.symm ne_q1_q12) (ninS (Ne.symm ne_q9_q12) nin0))
                  have f4762 := f4762.keep K4882 nin_q12
                  have f4763 := f4763.keep K4882 nin_q12
                  have f4764 := f4764.keep K4882
                  have nin_q13 := (ninS (Ne.symm ne_q1_q13) (ninS (Ne.symm ne_q9_q13) nin0))
                  have f4765 := f4765.keep K4882 nin_q13
                  have f4766 := f4766.keep K4882 nin_q13
                  have nin_q14 := (ninS (Ne.symm ne_q1_q14) (ninS (Ne.symm ne_q9_q14) nin0))
                  have f4767 := f4767.keep K4882 nin_q14
                  have nin_q15 := (ninS (Ne.symm ne_q1_q15) (ninS (Ne.symm ne_q9_q15) nin0))
                  have f4768 := f4768.keep K4882 nin_q15
                  have nin_q2 := (ninS (Ne.symm ne_q1_q2) (ninS ne_q2_q9 nin0))
                  have f4827 := f4827.keep K4882 nin_q2
                  have f4829 := f4829.keep K4882 nin_q2
                  have nin_q5 := (ninS (Ne.symm ne_q1_q5) (ninS ne_q5_q9 nin0))
                  have f4848 := f4848.keep K4882 nin_q5
                  have Z0 := Nat.le_trans Z0 K4882.1
                  have f4875 : Fld Z T4882.heap q9 sn0 "inNetwork" "J" (.long (0 : Int64)) := f4875
                  exact jz _ _ _ _ (.ref q16) .null _ _ _ (X4882.wide (fun x hx _ => hx) (by decide) (by decide)) e4882 N0 Z0 E_q9 E_q2 E_q10 f4870 f4871 f4829 f4745 f4875 (Or.inr (Or.inr (Or.inl ⟨rfl, rfl, rfl⟩)))
                · rw [hf]
                  refine own_c1 (callV X4850 hx hZ (y := mn1) hown (ww hw 341 rfl) (ww hw 342 rfl) (ww hw 344 rfl) (ww hw 343 rfl) (ww hw 345 rfl) (ww hw 163 rfl) (by decide) e4850 E_q9 (argsL := [(.ref q16), (.ref fL)]) (rest := []) (W := 0) (au57_leave l Z a0 hw q9 q16 fL fD q1 q2 q13 q11 q12 q10 q5 q14 q15 (0 : Int32) (1 : Int64) (0 : Int64) (0 : Int64) (0 : UInt64) (4607182418800017409 : UInt64) h0 T4850.heap n0 Z0 S_DELIVERED E_q1 E_q2 E_q9 f4764 f4765 f4766 f4810 f4811 f4812 f4813 f4814 f4815 f4816 f4817 f4818 f4819 f4820 f4821 f4822 f4824 f4827 f4829 f4836 f4837 ne_fL_fD ne_q1_q13 ne_q1_q9 ne_q2_q9 ne_q9_q13 ne_q9_q16 ge_q1 ge_q9 qH B0) rfl (by decide) (by decide) (by decide) (by decide) rfl (by rw [hml]; rfl) (lenOf pd29 rfl) rfl (by show 2 * 0 + _ ≤ _; exact Nat.le_of_eq rfl) (hb hby at_268)) fun v4898 T4898 L4898 X4898 hQ4898 => ?_
                  obtain ⟨rfl, NL4898, K4898, f4883, f4884, f4885, f4886, f4887, f4888, f4889, f4890, f4891, f4892, f4893, f4894, f4895, f4896⟩ := hQ4898
                  have N0 := Fr.app N0 NL4898
                  have e4898 : T4898.heap = T4898.heap := rfl
                  have B0 := own_extK B0 K4898 (allS (Nat.le_trans qH ge_q1) (allS (Nat.le_trans qH ge_q9) all0))
                  have E_q1 := E_q1.keep K4898
                  have E_q2 := E_q2.keep K4898
                  have E_q5 := E_q5.keep K4898
                  have E_q9 := E_q9.keep K4898
                  have E_q10 := E_q10.keep K4898
                  have nin_q10 := (ninS (Ne.symm ne_q1_q10) (ninS (Ne.symm ne_q9_q10) nin0))
                  have f4745 := f4745.keep K4898 nin_q10
                  have nin_q11 := (ninS (Ne.symm ne_q1_q11) (ninS (Ne.symm ne_q9_q11) nin0))
                  have f4760 := f4760.keep K4898 nin_q11
                  have f4761 := f4761.keep K4898
                  have nin_q12 := (ninS (Ne.symm ne_q1_q12) (ninS (Ne.symm ne_q9_q12) nin0))
                  have f4762 := f4762.keep K4898 nin_q12
                  have f4763 := f4763.keep K4898 nin_q12
                  have f4764 := f4764.keep K4898
                  have nin_q13 := (ninS (Ne.symm ne_q1_q13) (ninS (Ne.symm ne_q9_q13) nin0))
                  have f4765 := f4765.keep K4898 nin_q13
                  have f4766 := f4766.keep K4898 nin_q13
                  have nin_q14 := (ninS (Ne.symm ne_q1_q14) (ninS (Ne.symm ne_q9_q14) nin0))
                  have f4767 := f4767.keep K4898 nin_q14
                  have nin_q15 := (ninS (Ne.symm ne_q1_q15) (ninS (Ne.symm ne_q9_q15) nin0))
                  have f4768 := f4768.keep K4898 nin_q15
                  have nin_q2 := (ninS (Ne.symm ne_q1_q2) (ninS ne_q2_q9 nin0))
                  have f4827 := f4827.keep K4898 nin_q2
                  have f4829 := f4829.keep K4898 nin_q2
                  have nin_q5 := (ninS (Ne.symm ne_q1_q5) (ninS ne_q5_q9 nin0))
                  have f4848 := f4848.keep K4898 nin_q5
                  have Z0 := Nat.le_trans Z0 K4898.1
                  have f4891 : Fld Z T4898.heap q9 sn0 "inNetwork" "J" (.long (0 : Int64)) := f4891
                  exact jz _ _ _ _ (.ref q16) .null _ _ _ (X4898.wide (fun x hx _ => hx) (by decide) (by decide)) e4898 N0 Z0 E_q9 E_q2 E_q10 f4886 f4887 f4829 f4745 f4891 (Or.inr (Or.inr (Or.inl ⟨rfl, rfl, rfl⟩)))
                · rw [hf]
                  refine own_c1 (callV X4850 hx hZ (y := mn1) hown (ww hw 341 rfl) (ww hw 342 rfl) (ww hw 344 rfl) (ww hw 343 rfl) (ww hw 345 rfl) (ww hw 163 rfl) (by decide) e4850 E_q9 (argsL := [(.ref q16), (.ref fR)]) (rest := []) (W := 0) (au57_leave l Z a0 hw q9 q16 fR fD q1 q2 q13 q11 q12 q10 q5 q14 q15 (0 : Int32) (1 : Int64) (0 : Int64) (0 : Int64) (0 : UInt64) (4607182418800017409 : UInt64) h0 T4850.heap n0 Z0 S_DELIVERED E_q1 E_q2 E_q9 f4764 f4765 f4766 f4810 f4811 f4812 f4813 f4814 f4815 f4816 f4817 f4818 f4819 f4820 f4821 f4822 f4824 f4827 f4829 f4836 f4837 ne_fR_fD ne_q1_q13 ne_q1_q9 ne_q2_q9 ne_q9_q13 ne_q9_q16 ge_q1 ge_q9 qH B0) rfl (by decide) (by decide) (by decide) (by decide) rfl (by rw [hml]; rfl) (lenOf pd29 rfl) rfl (by show 2 * 0 + _ ≤ _; exact Nat.le_of_eq rfl) (hb hby at_268)) fun v4914 T4914 L4914 X4914 hQ4914 => ?_
                  obtain ⟨rfl, NL4914, K4914, f4899, f4900, f4901, f4902, f4903, f4904, f4905, f4906, f4907, f4908, f4909, f4910, f4911, f4912⟩ := hQ4914
                  have N0 := Fr.app N0 NL4914
                  have e4914 : T4914.heap = T4914.heap := rfl
                  have B0 := own_extK B0 K4914 (allS (Nat.le_trans qH ge_q1) (allS (Nat.le_trans qH ge_q9) all0))
                  have E_q1 := E_q1.keep K4914
                  have E_q2 := E_q2.keep K4914
                  have E_q5 := E_q5.keep K4914
                  have E_q9 := E_q9.keep K4914
                  have E_q10 := E_q10.keep K4914
                  have nin_q10 := (ninS (Ne.symm ne_q1_q10) (ninS (Ne.symm ne_q9_q10) nin0))
                  have f4745 := f4745.keep K4914 nin_q10
                  have nin_q11 := (ninS (Ne.symm ne_q1_q11) (ninS (Ne.symm ne_q9_q11) nin0))
                  have f4760 := f4760.keep K4914 nin_q11
                  have f4761 := f4761.keep K4914
                  have nin_q12 := (ninS (Ne.symm ne_q1_q12) (ninS (Ne.symm ne_q9_q12) nin0))
                  have f4762 := f4762.keep K4914 nin_q12
                  have f4763 := f4763.keep K4914 nin_q12
                  have f4764 := f4764.keep K4914
                  have nin_q13 := (ninS (Ne.symm ne_q1_q13) (ninS (Ne.symm ne_q9_q13) nin0))
                  have f4765 := f4765.keep K4914 nin_q13
                  have f4766 := f4766.keep K4914 nin_q13
                  have nin_q14 := (ninS (Ne.symm ne_q1_q14) (ninS (Ne.symm ne_q9_q14) nin0))
                  have f4767 := f4767.keep K4914 nin_q14
                  have nin_q15 := (ninS (Ne.symm ne_q1_q15) (ninS (Ne.symm ne_q9_q15) nin0))
                  have f4768 := f4768.keep K4914 nin_q15
                  have nin_q2 := (ninS (Ne.symm ne_q1_q2) (ninS ne_q2_q9 nin0))
                  have f4827 := f4827.keep K4914 nin_q2
                  have f4829 := f4829.keep K4914 nin_q2
                  have nin_q5 := (ninS (Ne.symm ne_q1_q5) (ninS ne_q5_q9 nin0))
                  have f4848 := f4848.keep K4914 nin_q5
                  have Z0 := Nat.le_trans Z0 K4914.1
                  have f4907 : Fld Z T4914.heap q9 sn0 "inNetwork" "J" (.long (0 : Int64)) := f4907
                  exact jz _ _ _ _ (.ref q16) .null _ _ _ (X4914.wide (fun x hx _ => hx) (by decide) (by decide)) e4914 N0 Z0 E_q9 E_q2 E_q10 f4902 f4903 f4829 f4745 f4907 (Or.inr (Or.inr (Or.inl ⟨rfl, rfl, rfl⟩)))
              · exact absurd hs2 (by decide)
          · refine gb T4769 (mkF m 209 (LF x0 x1 x2 x3 md 2 lv sv fs f ev [SA q1, SA q2, SA q5, SA q9, SN, SU, SU]) [(.int (1 : Int32)), (.int (2 : Int32))]) (fun _ k => XS.iload X4769.here hx rfl (hb hby at_206) rfl (XS.iconst X4769.here hx rfl (hb hby at_208)  k)) ?_
            refine gb T4769 (mkF m 212 (LF x0 x1 x2 x3 md 2 lv sv fs f ev [SA q1, SA q2, SA q5, SA q9, SN, SU, SU]) []) (fun _ k => XS.icmpNo X4769.here hx rfl (hb hby at_209) rfl (by decide) k) ?_
            refine gb T4769 (mkF m 217 (LF x0 x1 x2 x3 md 2 lv sv fs f ev [SA q1, SA q2, SA q5, SA q9, SN, SU, SU]) [(.double (4607182418800017408 : UInt64)), (.long (0 : Int64)), .null, (.ref q9)]) (fun _ k => XS.aload X4769.here hx rfl (hb hby at_212) rfl rfl (XS.aconstNull X4769.here hx rfl (hb hby at_214)  (XS.lconst X4769.here hx rfl (hb hby at_215)  (XS.dconst1 X4769.here hx rfl (hb hby at_216) rfl k)))) ?_
            refine own_c1 (callV X4769 hx hZ (y := mn15) hown (ww hw 263 rfl) (ww hw 264 rfl) (ww hw 266 rfl) (ww hw 265 rfl) (ww hw 267 rfl) (ww hw 163 rfl) (by decide) e4769 E_q9 (argsL := [.null, (.long (0 : Int64)), (.double (4607182418800017408 : UInt64))]) (rest := []) (W := 0) (au47_produce l Z a0 hw q9 q2 q5 q11 q12 q13 q10 q14 q15 (0 : Int64) (0 : Int64) (0 : Int64) (0 : Int64) (0 : UInt64) T4769.heap n0 Z0 E_q2 E_q5 f4698 f4715 E_q9 f4748 f4749 f4750 f4751 f4752 f4753 f4754 f4755 f4756 f4757 f4758 f4759 ge_q9) rfl (by decide) (by decide) (by decide) (by decide) rfl (by rw [hml]; rfl) (lenOf pd25 rfl) rfl (by show 2 * 0 + _ ≤ _; exact Nat.le_of_eq rfl) (hb hby at_217)) fun v4931 T4931 L4931 X4931 hQ4931 => ?_
            obtain ⟨q17, rfl, NL4931, K4931, sz4931_q17, f4915, f4916, f4917, f4918, f4919, f4920, f4921, f4922, f4923, f4924, f4925, f4926, f4927, f4928, f4929⟩ := hQ4931
            have N0 := Fr.app N0 NL4931
            have ne_q1_q17 : q1 ≠ q17 := own_nc E_q1.lt sz4931_q17
            have ne_q2_q17 : q2 ≠ q17 := own_nc E_q2.lt sz4931_q17
            have ne_q3_q17 : q3 ≠ q17 := own_nc f4690.lt sz4931_q17
            have ne_q4_q17 : q4 ≠ q17 := own_nc f4694.lt sz4931_q17
            have ne_q5_q17 : q5 ≠ q17 := own_nc E_q5.lt sz4931_q17
            have ne_q7_q17 : q7 ≠ q17 := own_nc f4706.lt sz4931_q17
            have ne_q8_q17 : q8 ≠ q17 := own_nc f4712.lt sz4931_q17
            have ne_q9_q17 : q9 ≠ q17 := own_nc E_q9.lt sz4931_q17
            have ge_q17 : n0 ≤ q17 := Nat.le_trans Z0 sz4931_q17
            have e4931 : T4931.heap = T4931.heap := rfl
            have B0 := own_extK B0 K4931 (allS (Nat.le_trans qH ge_q9) all0)
            have E_q1 := E_q1.keep K4931
            have f4678 := f4678.keep K4931 (ninS ne_q1_q9 nin0)
            have f4679 := f4679.keep K4931 (ninS ne_q1_q9 nin0)
            have E_q2 := E_q2.keep K4931
            have f4690 := f4690.keep K4931
            have f4694 := f4694.keep K4931
            have E_q5 := E_q5.keep K4931
            have f4698 := f4698.keep K4931 (ninS ne_q5_q9 nin0)
            have f4699 := f4699.keep K4931 (ninS ne_q5_q9 nin0)
            have f4706 := f4706.keep K4931
            have f4707 := f4707.keep K4931 (ninS ne_q7_q9 nin0)
            have f4708 := f4708.keep K4931 (ninS ne_q7_q9 nin0)
            have f4709 := f4709.keep K4931 (ninS ne_q7_q9 nin0)
            have f4710 := f4710.keep K4931 (ninS ne_q7_q9 nin0)
            have f4711 := f4711.keep K4931 (ninS ne_q7_q9 nin0)
            have f4712 := f4712.keep K4931
            have f4713 := f4713.keep K4931 (ninS ne_q2_q9 nin0)
            have f4714 := f4714.keep K4931 (ninS ne_q2_q9 nin0)
            have f4715 := f4715.keep K4931 (ninS ne_q2_q9 nin0)
            have f4716 := f4716.keep K4931 (ninS ne_q2_q9 nin0)
            have f4717 := f4717.keep K4931 (ninS ne_q3_q9 nin0)
            have f4718 := f4718.keep K4931 (ninS ne_q3_q9 nin0)
            have f4719 := f4719.keep K4931 (ninS ne_q3_q9 nin0)
            have f4720 := f4720.keep K4931 (ninS ne_q4_q9 nin0)
            have f4721 := f4721.keep K4931 (ninS ne_q8_q9 nin0)
            have f4722 := f4722.keep K4931 (ninS ne_q8_q9 nin0)
            have f4723 := f4723.keep K4931 (ninS ne_q8_q9 nin0)
            have f4724 := f4724.keep K4931 (ninS ne_q8_q9 nin0)
            have f4725 := f4725.keep K4931 (ninS ne_q8_q9 nin0)
            have E_q9 := E_q9.keep K4931
            have E_q10 := E_q10.keep K4931
            have f4745 := f4745.keep K4931 (ninS (Ne.symm ne_q9_q10) nin0)
            have f4760 := f4760.keep K4931 (ninS (Ne.symm ne_q9_q11) nin0)
            have f4761 := f4761.keep K4931
            have f4762 := f4762.keep K4931 (ninS (Ne.symm ne_q9_q12) nin0)
            have f4763 := f4763.keep K4931 (ninS (Ne.symm ne_q9_q12) nin0)
            have f4764 := f4764.keep K4931
            have f4765 := f4765.keep K4931 (ninS (Ne.symm ne_q9_q13) nin0)
            have f4766 := f4766.keep K4931 (ninS (Ne.symm ne_q9_q13) nin0)
            have f4767 := f4767.keep K4931 (ninS (Ne.symm ne_q9_q14) nin0)
            have f4768 := f4768.keep K4931 (ninS (Ne.symm ne_q9_q15) nin0)
            have Z0 := Nat.le_trans Z0 K4931.1
            have f4923 : Fld Z T4931.heap q9 sn0 "inNetwork" "J" (.long (1 : Int64)) := f4923
            have f4924 : Fld Z T4931.heap q9 sn0 "produced" "J" (.long (0 : Int64)) := f4924
            refine gb T4931 (mkF m 224 (LF x0 x1 x2 x3 md 2 lv sv fs f ev [SA q1, SA q2, SA q5, SA q9, SA q17, SU, SU]) [(.ref q2)]) (fun _ k => XS.astore X4931.here hx rfl (hb hby at_220) rfl rfl (l' := (LF x0 x1 x2 x3 md 2 lv sv fs f ev [SA q1, SA q2, SA q5, SA q9, SA q17, SU, SU])) rfl (XS.aload X4931.here hx rfl (hb hby at_222) rfl rfl k)) ?_
            refine own_c1 (callV X4931 hx hZ (y := mn25) hown (ww hw 301 rfl) (ww hw 302 rfl) (ww hw 304 rfl) (ww hw 303 rfl) (ww hw 305 rfl) (ww hw 28 rfl) (by decide) e4931 E_q2 (argsL := []) (rest := []) (W := 0) (au44_run l Z a0 hw q2 q1 q3 q4 q5 q7 q8 (0 : Int64) (0 : Int64) (0 : Int64) (1 : Int64) (0 : Int64) (2 : Int64) (1 : Int64) (0 : Int64) (1 : Int64) (0 : UInt64) (0 : UInt64) (0 : UInt64) (4607182418800017409 : UInt64) T4931.heap n0 Z0 E_q1 f4678 f4679 E_q2 f4690 f4694 E_q5 f4698 f4699 f4706 f4707 f4708 f4709 f4710 f4711 f4712 f4713 f4714 f4715 f4716 f4717 f4718 f4719 f4720 f4721 f4722 f4723 f4724 f4725 ne_q1_q2 ne_q1_q3 ne_q1_q4 ne_q1_q5 ne_q1_q7 ne_q1_q8 ne_q2_q3 ne_q2_q4 ne_q2_q5 ne_q2_q7 ne_q2_q8 ne_q3_q4 ne_q3_q5 ne_q3_q7 ne_q3_q8 ne_q4_q5 ne_q4_q7 ne_q4_q8 ne_q5_q7 ne_q5_q8 ne_q7_q8 ge_q1 ge_q2 ge_q3 ge_q4 ge_q5 ge_q7 ge_q8) rfl (by decide) (by decide) (by decide) (by decide) rfl (by rw [hml]; rfl) (lenOf pd7 rfl) rfl (by show 2 * 0 + _ ≤ _; exact Nat.le_of_eq rfl) (hb hby at_224)) fun v4955 T4955 L4955 X4955 hQ4955 => ?_
            obtain ⟨rfl, NL4955, K4955, f4932, f4933, f4934, f4935, f4936, f4937, f4938, f4939, f4940, f4941, f4942, f4943, f4944, f4945, f4946, f4947, f4948, f4949, f4950, f4951, f4952, f4953⟩ := hQ4955
            have N0 := Fr.app N0 NL4955
            have e4955 : T4955.heap = T4955.heap := rfl
            have B0 := own_extK B0 K4955 (allS (Nat.le_trans qH ge_q1) (allS (Nat.le_trans qH ge_q2) (allS (Nat.le_trans qH ge_q3) (allS (Nat.le_trans qH ge_q4) (allS (Nat.le_trans qH ge_q5) (allS (Nat.le_trans qH ge_q7) (allS (Nat.le_trans qH ge_q8) all0)))))))
            have E_q1 := E_q1.keep K4955
            have E_q2 := E_q2.keep K4955
            have E_q5 := E_q5.keep K4955
            have E_q9 := E_q9.keep K4955
            have E_q10 := E_q10.keep K4955
            have nin_q10 := (ninS (Ne.symm ne_q1_q10) (ninS (Ne.symm ne_q2_q10) (ninS (Ne.symm ne_q3_q10) (ninS (Ne.symm ne_q4_q10) (ninS (Ne.symm ne_q5_q10) (ninS (Ne.symm ne_q7_q10) (ninS (Ne.symm ne_q8_q10) nin0)))))))
            have f4745 := f4745.keep K4955 nin_q10
            have nin_q11 := (ninS (Ne.symm ne_q1_q11) (ninS (Ne.symm ne_q2_q11) (ninS (Ne.symm ne_q3_q11) (ninS (Ne.symm ne_q4_q11) (ninS (Ne.symm ne_q5_q11) (ninS (Ne.symm ne_q7_q11) (ninS (Ne.symm ne_q8_q11) nin0)))))))
            have f4760 := f4760.keep K4955 nin_q11
            have f4761 := f4761.keep K4955
            have nin_q12 := (ninS (Ne.symm ne_q1_q12) (ninS (Ne.symm ne_q2_q12) (ninS (Ne.symm ne_q3_q12) (ninS (Ne.symm ne_q4_q12) (ninS (Ne.symm ne_q5_q12) (ninS (Ne.symm ne_q7_q12) (ninS (Ne.symm ne_q8_q12) nin0)))))))
            have f4762 := f4762.keep K4955 nin_q12
            have f4763 := f4763.keep K4955 nin_q12
            have f4764 := f4764.keep K4955
            have nin_q13 := (ninS (Ne.symm ne_q1_q13) (ninS (Ne.symm ne_q2_q13) (ninS (Ne.symm ne_q3_q13) (ninS (Ne.symm ne_q4_q13) (ninS (Ne.symm ne_q5_q13) (ninS (Ne.symm ne_q7_q13) (ninS (Ne.symm ne_q8_q13) nin0)))))))
            have f4765 := f4765.keep K4955 nin_q13
            have f4766 := f4766.keep K4955 nin_q13
            have nin_q14 := (ninS (Ne.symm ne_q1_q14) (ninS (Ne.symm ne_q2_q14) (ninS (Ne.symm ne_q3_q14) (ninS (Ne.symm ne_q4_q14) (ninS (Ne.symm ne_q5_q14) (ninS (Ne.symm ne_q7_q14) (ninS (Ne.symm ne_q8_q14) nin0)))))))
            have f4767 := f4767.keep K4955 nin_q14
            have nin_q15 := (ninS (Ne.symm ne_q1_q15) (ninS (Ne.symm ne_q2_q15) (ninS (Ne.symm ne_q3_q15) (ninS (Ne.symm ne_q4_q15) (ninS (Ne.symm ne_q5_q15) (ninS (Ne.symm ne_q7_q15) (ninS (Ne.symm ne_q8_q15) nin0)))))))
            have f4768 := f4768.keep K4955 nin_q15
            have nin_q9 := (ninS (Ne.symm ne_q1_q9) (ninS (Ne.symm ne_q2_q9) (ninS (Ne.symm ne_q3_q9) (ninS (Ne.symm ne_q4_q9) (ninS (Ne.symm ne_q5_q9) (ninS (Ne.symm ne_q7_q9) (ninS (Ne.symm ne_q8_q9) nin0)))))))
            have f4915 := f4915.keep K4955 nin_q9
            have f4916 := f4916.keep K4955 nin_q9
            have f4917 := f4917.keep K4955 nin_q9
            have f4918 := f4918.keep K4955 nin_q9
            have f4919 := f4919.keep K4955 nin_q9
            have f4920 := f4920.keep K4955 nin_q9
            have f4921 := f4921.keep K4955 nin_q9
            have f4922 := f4922.keep K4955 nin_q9
            have f4923 := f4923.keep K4955 nin_q9
            have f4924 := f4924.keep K4955 nin_q9
            have f4925 := f4925.keep K4955 nin_q9
            have f4926 := f4926.keep K4955 nin_q9
            have f4927 := f4927.keep K4955
            have nin_q17 := (ninS (Ne.symm ne_q1_q17) (ninS (Ne.symm ne_q2_q17) (ninS (Ne.symm ne_q3_q17) (ninS (Ne.symm ne_q4_q17) (ninS (Ne.symm ne_q5_q17) (ninS (Ne.symm ne_q7_q17) (ninS (Ne.symm ne_q8_q17) nin0)))))))
            have f4929 := f4929.keep K4955 nin_q17
            have Z0 := Nat.le_trans Z0 K4955.1
            refine gb T4955 (mkF m 233 (LF x0 x1 x2 x3 md 2 lv sv fs f ev [SA q1, SA q2, SA q5, SA q9, SA q17, SN, SU]) [(.int (2 : Int32)), (.int (2 : Int32))]) (fun _ k => XS.aconstNull X4955.here hx rfl (hb hby at_227)  (XS.astore X4955.here hx rfl (hb hby at_228) rfl rfl (l' := (LF x0 x1 x2 x3 md 2 lv sv fs f ev [SA q1, SA q2, SA q5, SA q9, SA q17, SN, SU])) rfl (XS.iload X4955.here hx rfl (hb hby at_230) rfl (XS.iconst X4955.here hx rfl (hb hby at_232)  k)))) ?_
            refine gb T4955 (mkF m 236 (LF x0 x1 x2 x3 md 2 lv sv fs f ev [SA q1, SA q2, SA q5, SA q9, SA q17, SN, SU]) []) (fun _ k => XS.icmpNo X4955.here hx rfl (hb hby at_233) rfl (by decide) k) ?_
            refine gb T4955 (mkF m 241 (LF x0 x1 x2 x3 md 2 lv sv fs f ev [SA q1, SA q2, SA q5, SA q9, SA q17, SN, SU]) [(.double (4607182418800017408 : UInt64)), (.long (1 : Int64)), .null, (.ref q9)]) (fun _ k => XS.aload X4955.here hx rfl (hb hby at_236) rfl rfl (XS.aconstNull X4955.here hx rfl (hb hby at_238)  (XS.lconst X4955.here hx rfl (hb hby at_239)  (XS.dconst1 X4955.here hx rfl (hb hby at_240) rfl k)))) ?_
            refine own_c1 (callV X4955 hx hZ (y := mn15) hown (ww hw 263 rfl) (ww hw 264 rfl) (ww hw 266 rfl) (ww hw 265 rfl) (ww hw 267 rfl) (ww hw 163 rfl) (by decide) e4955 E_q9 (argsL := [.null, (.long (1 : Int64)), (.double (4607182418800017408 : UInt64))]) (rest := []) (W := 0) (au59_produce l Z a0 hw q9 q2 q5 q11 q12 q13 q10 q14 q15 (1 : Int64) (1 : Int64) (0 : Int64) (0 : Int64) (0 : UInt64) T4955.heap n0 Z0 E_q2 E_q5 E_q9 f4915 f4916 f4917 f4918 f4919 f4920 f4921 f4922 f4923 f4924 f4925 f4926 f4934 f4952 ge_q9) rfl (by decide) (by decide) (by decide) (by decide) rfl (by rw [hml]; rfl) (lenOf pd25 rfl) rfl (by show 2 * 0 + _ ≤ _; exact Nat.le_of_eq rfl) (hb hby at_241)) fun v4972 T4972 L4972 X4972 hQ4972 => ?_
            obtain ⟨q18, rfl, NL4972, K4972, sz4972_q18, f4956, f4957, f4958, f4959, f4960, f4961, f4962, f4963, f4964, f4965, f4966, f4967, f4968, f4969, f4970⟩ := hQ4972
            have N0 := Fr.app N0 NL4972
            have ne_q9_q18 : q9 ≠ q18 := own_nc E_q9.lt sz4972_q18
            have ne_q11_q18 : q11 ≠ q18 := own_nc f4760.lt sz4972_q18
            have ge_q18 : n0 ≤ q18 := Nat.le_trans Z0 sz4972_q18
            have e4972 : T4972.heap = T4972.heap := rfl
            have B0 := own_extK B0 K4972 (allS (Nat.le_trans qH ge_q9) all0)
            have E_q1 := E_q1.keep K4972
            have E_q2 := E_q2.keep K4972
            have E_q5 := E_q5.keep K4972
            have E_q9 := E_q9.keep K4972
            have E_q10 := E_q10.keep K4972
            have f4745 := f4745.keep K4972 (ninS (Ne.symm ne_q9_q10) nin0)
            have f4760 := f4760.keep K4972 (ninS (Ne.symm ne_q9_q11) nin0)
            have f4761 := f4761.keep K4972
            have f4762 := f4762.keep K4972 (ninS (Ne.symm ne_q9_q12) nin0)
            have f4763 := f4763.keep K4972 (ninS (Ne.symm ne_q9_q12) nin0)
            have f4764 := f4764.keep K4972
            have f4765 := f4765.keep K4972 (ninS (Ne.symm ne_q9_q13) nin0)
            have f4766 := f4766.keep K4972 (ninS (Ne.symm ne_q9_q13) nin0)
            have f4767 := f4767.keep K4972 (ninS (Ne.symm ne_q9_q14) nin0)
            have f4768 := f4768.keep K4972 (ninS (Ne.symm ne_q9_q15) nin0)
            have f4927 := f4927.keep K4972
            have f4929 := f4929.keep K4972 (ninS (Ne.symm ne_q9_q17) nin0)
            have f4932 := f4932.keep K4972 (ninS ne_q2_q9 nin0)
            have f4934 := f4934.keep K4972 (ninS ne_q2_q9 nin0)
            have f4941 := f4941.keep K4972 (ninS ne_q1_q9 nin0)
            have f4942 := f4942.keep K4972 (ninS ne_q1_q9 nin0)
            have f4953 := f4953.keep K4972 (ninS ne_q5_q9 nin0)
            have Z0 := Nat.le_trans Z0 K4972.1
            have f4964 : Fld Z T4972.heap q9 sn0 "inNetwork" "J" (.long (2 : Int64)) := f4964
            have f4965 : Fld Z T4972.heap q9 sn0 "produced" "J" (.long (1 : Int64)) := f4965
            refine gb T4972 (mkF m 246 (LF x0 x1 x2 x3 md 2 lv sv fs f ev [SA q1, SA q2, SA q5, SA q9, SA q17, SA q18, SU]) []) (fun _ k => XS.astore X4972.here hx rfl (hb hby at_244) rfl rfl (l' := (LF x0 x1 x2 x3 md 2 lv sv fs f ev [SA q1, SA q2, SA q5, SA q9, SA q17, SA q18, SU])) rfl k) ?_
            rcases hlv with rfl | ⟨rfl, hl1⟩
            · refine gb T4972 (mkF m 249 (LF x0 x1 x2 x3 md 2 0 sv fs f ev [SA q1, SA q2, SA q5, SA q9, SA q17, SA q18, SU]) [(.int (1 : Int32)), (.int (0 : Int32))]) (fun _ k => XS.iload X4972.here hx rfl (hb hby at_246) rfl (XS.iconst X4972.here hx rfl (hb hby at_248)  k)) ?_
              refine gb T4972 (mkF m 271 (LF x0 x1 x2 x3 md 2 0 sv fs f ev [SA q1, SA q2, SA q5, SA q9, SA q17, SA q18, SU]) []) (fun _ k => XS.icmpYes X4972.here hx rfl (pc0 := 249) (pc' := 271) rfl (hb hby at_249) rfl (by decide) (by decide) (by decide) k) ?_
              exact jz _ _ _ _ (.ref q17) (.ref q18) _ _ _ (X4972.wide (fun x hx _ => hx) (by decide) (by decide)) e4972 N0 Z0 E_q9 E_q2 E_q10 f4959 f4960 f4934 f4745 f4964 (Or.inr (Or.inr (Or.inr (Or.inl ⟨rfl, rfl, rfl⟩))))
            · rcases hsv with rfl | ⟨rfl, hs2⟩
              · refine gb T4972 (mkF m 249 (LF x0 x1 x2 x3 md 2 1 0 fs f ev [SA q1, SA q2, SA q5, SA q9, SA q17, SA q18, SU]) [(.int (1 : Int32)), (.int (1 : Int32))]) (fun _ k => XS.iload X4972.here hx rfl (hb hby at_246) rfl (XS.iconst X4972.here hx rfl (hb hby at_248)  k)) ?_
                refine gb T4972 (mkF m 252 (LF x0 x1 x2 x3 md 2 1 0 fs f ev [SA q1, SA q2, SA q5, SA q9, SA q17, SA q18, SU]) []) (fun _ k => XS.icmpNo X4972.here hx rfl (hb hby at_249) rfl (by decide) k) ?_
                refine gb T4972 (mkF m 256 (LF x0 x1 x2 x3 md 2 1 0 fs f ev [SA q1, SA q2, SA q5, SA q9, SA q17, SA q18, SU]) [(.int (0 : Int32)), (.ref q9)]) (fun _ k => XS.aload X4972.here hx rfl (hb hby at_252) rfl rfl (XS.iload X4972.here hx rfl (hb hby at_254) rfl k)) ?_
                refine gb T4972 (mkF m 264 (LF x0 x1 x2 x3 md 2 1 0 fs f ev [SA q1, SA q2, SA q5, SA q9, SA q17, SA q18, SU]) [(.ref q9)]) (fun _ k => XS.ifYes X4972.here hx rfl (pc0 := 256) (pc' := 264) rfl (hb hby at_256) rfl (by decide) (by decide) (by decide) k) ?_
                refine gb T4972 (mkF m 268 (LF x0 x1 x2 x3 md 2 1 0 fs f ev [SA q1, SA q2, SA q5, SA q9, SA q17, SA q18, SU]) [(.ref f), (.ref q17), (.ref q9)]) (fun _ k => XS.aload X4972.here hx rfl (hb hby at_264) rfl rfl (XS.aload X4972.here hx rfl (hb hby at_266) rfl rfl k)) ?_
                rcases hf with hf | hf | hf | hf
                · rw [hf]
                  refine own_c1 (callV X4972 hx hZ (y := mn1) hown (ww hw 341 rfl) (ww hw 342 rfl) (ww hw 344 rfl) (ww hw 343 rfl) (ww hw 345 rfl) (ww hw 163 rfl) (by decide) e4972 E_q9 (argsL := [(.ref q17), (.ref fD)]) (rest := []) (W := 0) (au56_leave l Z a0 hw q9 q17 fD q1 q2 q5 q13 q11 q12 q10 q14 q15 (0 : Int32) (2 : Int64) (1 : Int64) (0 : Int64) (0 : Int64) (0 : UInt64) (4607182418800017409 : UInt64) h0 T4972.heap n0 Z0 S_DELIVERED E_q1 E_q2 E_q5 E_q9 f4764 f4765 f4766 f4956 f4957 f4958 f4959 f4960 f4961 f4962 f4963 f4964 f4965 f4966 f4967 f4927 f4929 f4932 f4934 f4941 f4942 f4953 ne_q1_q13 ne_q1_q9 ne_q2_q9 ne_q5_q9 ne_q9_q13 ne_q9_q17 ge_q1 ge_q9 qH B0) rfl (by decide) (by decide) (by decide) (by decide) rfl (by rw [hml]; rfl) (lenOf pd29 rfl) rfl (by show 2 * 0 + _ ≤ _; exact Nat.le_of_eq rfl) (hb hby at_268)) fun v4988 T4988 L4988 X4988 hQ4988 => ?_
                  obtain ⟨rfl, NL4988, K4988, f4973, f4974, f4975, f4976, f4977, f4978, f4979, f4980, f4981, f4982, f4983, f4984, f4985, f4986⟩ := hQ4988
                  have N0 := Fr.app N0 NL4988
                  have e4988 : T4988.heap = T4988.heap := rfl
                  have B0 := own_extK B0 K4988 (allS (Nat.le_trans qH ge_q1) (allS (Nat.le_trans qH ge_q9) all0))
                  have E_q2 := E_q2.keep K4988
                  have E_q9 := E_q9.keep K4988
                  have E_q10 := E_q10.keep K4988
                  have nin_q10 := (ninS (Ne.symm ne_q1_q10) (ninS (Ne.symm ne_q9_q10) nin0))
                  have f4745 := f4745.keep K4988 nin_q10
                  have nin_q2 := (ninS (Ne.symm ne_q1_q2) (ninS ne_q2_q9 nin0))
                  have f4934 := f4934.keep K4988 nin_q2
                  have Z0 := Nat.le_trans Z0 K4988.1
                  have f4981 : Fld Z T4988.heap q9 sn0 "inNetwork" "J" (.long (1 : Int64)) := f4981
                  have f4983 : Fld Z T4988.heap q9 sn0 sn18 "J" (.long (0 : Int64)) := f4983
                  exact jz _ _ _ _ (.ref q17) (.ref q18) _ _ _ (X4988.wide (fun x hx _ => hx) (by decide) (by decide)) e4988 N0 Z0 E_q9 E_q2 E_q10 f4976 f4977 f4934 f4745 f4981 (Or.inr (Or.inr (Or.inr (Or.inr (⟨rfl, rfl, rfl⟩)))))
                · rw [hf]
                  refine own_c1 (callV X4972 hx hZ (y := mn1) hown (ww hw 341 rfl) (ww hw 342 rfl) (ww hw 344 rfl) (ww hw 343 rfl) (ww hw 345 rfl) (ww hw 163 rfl) (by decide) e4972 E_q9 (argsL := [(.ref q17), (.ref fE)]) (rest := []) (W := 0) (au57_leave l Z a0 hw q9 q17 fE fD q1 q2 q13 q11 q12 q10 q5 q14 q15 (0 : Int32) (2 : Int64) (1 : Int64) (0 : Int64) (0 : UInt64) (4607182418800017409 : UInt64) h0 T4972.heap n0 Z0 S_DELIVERED E_q1 E_q2 E_q9 f4764 f4765 f4766 f4956 f4957 f4958 f4959 f4960 f4961 f4962 f4963 f4964 f4965 f4966 f4967 f4927 f4929 f4932 f4934 f4941 f4942 ne_fE_fD ne_q1_q13 ne_q1_q9 ne_q2_q9 ne_q9_q13 ne_q9_q17 ge_q1 ge_q9 qH B0) rfl (by decide) (by decide) (by decide) (by decide) rfl (by rw [hml]; rfl) (lenOf pd29 rfl) rfl (by show 2 * 0 + _ ≤ _; exact Nat.le_of_eq rfl) (hb hby at_268)) fun v5004 T5004 L5004 X5004 hQ5004 => ?_
                  obtain ⟨rfl, NL5004, K5004, f4989, f4990, f4991, f4992, f4993, f4994, f4995, f4996, f4997, f4998, f4999, f5000, f5001, f5002⟩ := hQ5004
                  have N0 := Fr.app N0 NL5004
                  have e5004 : T5004.heap = T5004.heap := rfl
                  have B0 := own_extK B0 K5004 (allS (Nat.le_trans qH ge_q1) (allS (Nat.le_trans qH ge_q9) all0))
                  have E_q2 := E_q2.keep K5004
                  have E_q9 := E_q9.keep K5004
                  have E_q10 := E_q10.keep K5004
                  have nin_q10 := (ninS (Ne.symm ne_q1_q10) (ninS (Ne.symm ne_q9_q10) nin0))
                  have f4745 := f4745.keep K5004 nin_q10
                  have nin_q2 := (ninS (Ne.symm ne_q1_q2) (ninS ne_q2_q9 nin0))
                  have f4934 := f4934.keep K5004 nin_q2
                  have Z0 := Nat.le_trans Z0 K5004.1
                  have f4997 : Fld Z T5004.heap q9 sn0 "inNetwork" "J" (.long (1 : Int64)) := f4997
                  exact jz _ _ _ _ (.ref q17) (.ref q18) _ _ _ (X5004.wide (fun x hx _ => hx) (by decide) (by decide)) e5004 N0 Z0 E_q9 E_q2 E_q10 f4992 f4993 f4934 f4745 f4997 (Or.inr (Or.inr (Or.inr (Or.inr (⟨rfl, rfl, rfl⟩)))))
                · rw [hf]
                  refine own_c1 (callV X4972 hx hZ (y := mn1) hown (ww hw 341 rfl) (ww hw 342 rfl) (ww hw 344 rfl) (ww hw 343 rfl) (ww hw 345 rfl) (ww hw 163 rfl) (by decide) e4972 E_q9 (argsL := [(.ref q17), (.ref fL)]) (rest := []) (W := 0) (au57_leave l Z a0 hw q9 q17 fL fD q1 q2 q13 q11 q12 q10 q5 q14 q15 (0 : Int32) (2 : Int64) (1 : Int64) (0 : Int64) (0 : UInt64) (4607182418800017409 : UInt64) h0 T4972.heap n0 Z0 S_DELIVERED E_q1 E_q2 E_q9 f4764 f4765 f4766 f4956 f4957 f4958 f4959 f4960 f4961 f4962 f4963 f4964 f4965 f4966 f4967 f4927 f4929 f4932 f4934 f4941 f4942 ne_fL_fD ne_q1_q13 ne_q1_q9 ne_q2_q9 ne_q9_q13 ne_q9_q17 ge_q1 ge_q9 qH B0) rfl (by decide) (by decide) (by decide) (by decide) rfl (by rw [hml]; rfl) (lenOf pd29 rfl) rfl (by show 2 * 0 + _ ≤ _; exact Nat.le_of_eq rfl) (hb hby at_268)) fun v5020 T5020 L5020 X5020 hQ5020 => ?_
                  obtain ⟨rfl, NL5020, K5020, f5005, f5006, f5007, f5008, f5009, f5010, f5011, f5012, f5013, f5014, f5015, f5016, f5017, f5018⟩ := hQ5020
                  have N0 := Fr.app N0 NL5020
                  have e5020 : T5020.heap = T5020.heap := rfl
                  have B0 := own_extK B0 K5020 (allS (Nat.le_trans qH ge_q1) (allS (Nat.le_trans qH ge_q9) all0))
                  have E_q2 := E_q2.keep K5020
                  have E_q9 := E_q9.keep K5020
                  have E_q10 := E_q10.keep K5020
                  have nin_q10 := (ninS (Ne.symm ne_q1_q10) (ninS (Ne.symm ne_q9_q10) nin0))
                  have f4745 := f4745.keep K5020 nin_q10
                  have nin_q2 := (ninS (Ne.symm ne_q1_q2) (ninS ne_q2_q9 nin0))
                  have f4934 := f4934.keep K5020 nin_q2
                  have Z0 := Nat.le_trans Z0 K5020.1
                  have f5013 : Fld Z T5020.heap q9 sn0 "inNetwork" "J" (.long (1 : Int64)) := f5013
                  exact jz _ _ _ _ (.ref q17) (.ref q18) _ _ _ (X5020.wide (fun x hx _ => hx) (by decide) (by decide)) e5020 N0 Z0 E_q9 E_q2 E_q10 f5008 f5009 f4934 f4745 f5013 (Or.inr (Or.inr (Or.inr (Or.inr (⟨rfl, rfl, rfl⟩)))))
                · rw [hf]
                  refine own_c1 (callV X4972 hx hZ (y := mn1) hown (ww hw 341 rfl) (ww hw 342 rfl) (ww hw 344 rfl) (ww hw 343 rfl) (ww hw 345 rfl) (ww hw 163 rfl) (by decide) e4972 E_q9 (argsL := [(.ref q17), (.ref fR)]) (rest := []) (W := 0) (au57_leave l Z a0 hw q9 q17 fR fD q1 q2 q13 q11 q12 q10 q5 q14 q15 (0 : Int32) (2 : Int64) (1 : Int64) (0 : Int64) (0 : UInt64) (4607182418800017409 : UInt64) h0 T4972.heap n0 Z0 S_DELIVERED E_q1 E_q2 E_q9 f4764 f4765 f4766 f4956 f4957 f4958 f4959 f4960 f4961 f4962 f4963 f4964 f4965 f4966 f4967 f4927 f4929 f4932 f4934 f4941 f4942 ne_fR_fD ne_q1_q13 ne_q1_q9 ne_q2_q9 ne_q9_q13 ne_q9_q17 ge_q1 ge_q9 qH B0) rfl (by decide) (by decide) (by decide) (by decide) rfl (by rw [hml]; rfl) (lenOf pd29 rfl) rfl (by show 2 * 0 + _ ≤ _; exact Nat.le_of_eq rfl) (hb hby at_268)) fun v5036 T5036 L5036 X5036 hQ5036 => ?_
                  obtain ⟨rfl, NL5036, K5036, f5021, f5022, f5023, f5024, f5025, f5026, f5027, f5028, f5029, f5030, f5031, f5032, f5033, f5034⟩ := hQ5036
                  have N0 := Fr.app N0 NL5036
                  have e5036 : T5036.heap = T5036.heap := rfl
                  have B0 := own_extK B0 K5036 (allS (Nat.le_trans qH ge_q1) (allS (Nat.le_trans qH ge_q9) all0))
                  have E_q2 := E_q2.keep K5036
                  have E_q9 := E_q9.keep K5036
                  have E_q10 := E_q10.keep K5036
                  have nin_q10 := (ninS (Ne.symm ne_q1_q10) (ninS (Ne.symm ne_q9_q10) nin0))
                  have f4745 := f4745.keep K5036 nin_q10
                  have nin_q2 := (ninS (Ne.symm ne_q1_q2) (ninS ne_q2_q9 nin0))
                  have f4934 := f4934.keep K5036 nin_q2
                  have Z0 := Nat.le_trans Z0 K5036.1
                  have f5029 : Fld Z T5036.heap q9 sn0 "inNetwork" "J" (.long (1 : Int64)) := f5029
                  exact jz _ _ _ _ (.ref q17) (.ref q18) _ _ _ (X5036.wide (fun x hx _ => hx) (by decide) (by decide)) e5036 N0 Z0 E_q9 E_q2 E_q10 f5024 f5025 f4934 f4745 f5029 (Or.inr (Or.inr (Or.inr (Or.inr (⟨rfl, rfl, rfl⟩)))))
              · refine gb T4972 (mkF m 249 (LF x0 x1 x2 x3 md 2 1 1 fs f ev [SA q1, SA q2, SA q5, SA q9, SA q17, SA q18, SU]) [(.int (1 : Int32)), (.int (1 : Int32))]) (fun _ k => XS.iload X4972.here hx rfl (hb hby at_246) rfl (XS.iconst X4972.here hx rfl (hb hby at_248)  k)) ?_
                refine gb T4972 (mkF m 252 (LF x0 x1 x2 x3 md 2 1 1 fs f ev [SA q1, SA q2, SA q5, SA q9, SA q17, SA q18, SU]) []) (fun _ k => XS.icmpNo X4972.here hx rfl (hb hby at_249) rfl (by decide) k) ?_
                refine gb T4972 (mkF m 256 (LF x0 x1 x2 x3 md 2 1 1 fs f ev [SA q1, SA q2, SA q5, SA q9, SA q17, SA q18, SU]) [(.int (1 : Int32)), (.ref q9)]) (fun _ k => XS.aload X4972.here hx rfl (hb hby at_252) rfl rfl (XS.iload X4972.here hx rfl (hb hby at_254) rfl k)) ?_
                refine gb T4972 (mkF m 259 (LF x0 x1 x2 x3 md 2 1 1 fs f ev [SA q1, SA q2, SA q5, SA q9, SA q17, SA q18, SU]) [(.ref q9)]) (fun _ k => XS.ifNo X4972.here hx rfl (hb hby at_256) rfl (by decide) k) ?_
                refine gb T4972 (mkF m 261 (LF x0 x1 x2 x3 md 2 1 1 fs f ev [SA q1, SA q2, SA q5, SA q9, SA q17, SA q18, SU]) [(.ref q18), (.ref q9)]) (fun _ k => XS.aload X4972.here hx rfl (hb hby at_259) rfl rfl k) ?_
                refine gb T4972 (mkF m 266 (LF x0 x1 x2 x3 md 2 1 1 fs f ev [SA q1, SA q2, SA q5, SA q9, SA q17, SA q18, SU]) [(.ref q18), (.ref q9)]) (fun _ k => XS.goto X4972.here hx rfl (pc0 := 261) (pc' := 266) rfl (hb hby at_261) (by decide) (by decide) k) ?_
                refine gb T4972 (mkF m 268 (LF x0 x1 x2 x3 md 2 1 1 fs f ev [SA q1, SA q2, SA q5, SA q9, SA q17, SA q18, SU]) [(.ref f), (.ref q18), (.ref q9)]) (fun _ k => XS.aload X4972.here hx rfl (hb hby at_266) rfl rfl k) ?_
                rcases hf with hf | hf | hf | hf
                · rw [hf]
                  refine own_c1 (callV X4972 hx hZ (y := mn1) hown (ww hw 341 rfl) (ww hw 342 rfl) (ww hw 344 rfl) (ww hw 343 rfl) (ww hw 345 rfl) (ww hw 163 rfl) (by decide) e4972 E_q9 (argsL := [(.ref q18), (.ref fD)]) (rest := []) (W := 0) (au65_leave l Z a0 hw q9 q18 fD q1 q2 q5 q11 q12 q13 q14 q15 q10 (0 : Int32) (0 : Int64) (0 : Int64) (0 : Int64) (2 : Int64) (1 : Int64) (0 : Int64) h0 T4972.heap n0 Z0 S_DELIVERED E_fD F_ordinal_fD E_q1 E_q2 E_q5 E_q9 f4760 f4761 f4762 f4763 f4764 f4765 f4766 f4767 f4768 f4932 f4934 f4941 f4942 f4953 f4956 f4957 f4958 f4959 f4960 f4961 f4962 f4963 f4964 f4965 f4966 f4967 f4968 f4969 f4970 ne_q1_q11 ne_q1_q12 ne_q1_q13 ne_q1_q15 ne_q1_q9 ne_q11_q12 ne_q11_q13 ne_q11_q14 ne_q11_q15 ne_q11_q18 ne_q12_q13 ne_q12_q14 ne_q12_q15 ne_q13_q15 ne_q2_q11 ne_q2_q12 ne_q2_q15 ne_q2_q9 ne_q5_q9 ne_q9_q11 ne_q9_q12 ne_q9_q13 ne_q9_q14 ne_q9_q15 ne_q9_q18 ge_q1 ge_q9 ge_q11 ge_q12 ge_q15 qH B0) rfl (by decide) (by decide) (by decide) (by decide) rfl (by rw [hml]; rfl) (lenOf pd29 rfl) rfl (by show 2 * 0 + _ ≤ _; exact Nat.le_of_eq rfl) (hb hby at_268)) fun v5056 T5056 L5056 X5056 hQ5056 => ?_
                  obtain ⟨rfl, NL5056, K5056, f5037, f5038, f5039, f5040, f5041, f5042, f5043, f5044, f5045, f5046, f5047, f5048, f5049, f5050, f5051, f5052, f5053, f5054⟩ := hQ5056
                  have N0 := Fr.app N0 NL5056
                  have e5056 : T5056.heap = T5056.heap := rfl
                  have B0 := own_extK B0 K5056 (allS (Nat.le_trans qH ge_q1) (allS (Nat.le_trans qH ge_q9) (allS (Nat.le_trans qH ge_q11) (allS (Nat.le_trans qH ge_q12) (allS (Nat.le_trans qH ge_q15) all0)))))
                  have E_q2 := E_q2.keep K5056
                  have E_q9 := E_q9.keep K5056
                  have E_q10 := E_q10.keep K5056
                  have nin_q10 := (ninS (Ne.symm ne_q1_q10) (ninS (Ne.symm ne_q9_q10) (ninS ne_q10_q11 (ninS ne_q10_q12 (ninS ne_q10_q15 nin0)))))
                  have f4745 := f4745.keep K5056 nin_q10
                  have nin_q2 := (ninS (Ne.symm ne_q1_q2) (ninS ne_q2_q9 (ninS ne_q2_q11 (ninS ne_q2_q12 (ninS ne_q2_q15 nin0)))))
                  have f4934 := f4934.keep K5056 nin_q2
                  have Z0 := Nat.le_trans Z0 K5056.1
                  have f5047 : Fld Z T5056.heap q9 sn0 "inNetwork" "J" (.long (1 : Int64)) := f5047
                  have f5049 : Fld Z T5056.heap q9 sn0 sn18 "J" (.long (0 : Int64)) := f5049
                  have f5051 : Fld Z T5056.heap q12 sn11 "count" "J" (.long (1 : Int64)) := f5051
                  have f5052 : Fld Z T5056.heap q12 sn11 "zeros" "J" (.long (1 : Int64)) := f5052
                  exact jz _ _ _ _ (.ref q17) (.ref q18) _ _ _ (X5056.wide (fun x hx _ => hx) (by decide) (by decide)) e5056 N0 Z0 E_q9 E_q2 E_q10 f5042 f5043 f4934 f4745 f5047 (Or.inr (Or.inr (Or.inr (Or.inr (⟨rfl, rfl, rfl⟩)))))
                · rw [hf]
                  refine own_c1 (callV X4972 hx hZ (y := mn1) hown (ww hw 341 rfl) (ww hw 342 rfl) (ww hw 344 rfl) (ww hw 343 rfl) (ww hw 345 rfl) (ww hw 163 rfl) (by decide) e4972 E_q9 (argsL := [(.ref q18), (.ref fE)]) (rest := []) (W := 0) (au67_leave l Z a0 hw q9 q18 fE fD q1 q2 q11 q13 q12 q10 q5 q14 q15 (0 : Int32) (2 : Int64) (1 : Int64) (0 : Int64) (4607182418800017409 : UInt64) (0 : UInt64) h0 T4972.heap n0 Z0 S_DELIVERED E_fE F_ordinal_fE E_q1 E_q2 E_q9 f4760 f4764 f4765 f4766 f4932 f4934 f4941 f4942 f4956 f4957 f4958 f4959 f4960 f4961 f4962 f4963 f4964 f4965 f4966 f4967 f4968 f4970 ne_fE_fD ne_q1_q11 ne_q1_q13 ne_q1_q9 ne_q11_q13 ne_q2_q11 ne_q2_q9 ne_q9_q11 ne_q9_q13 ne_q9_q18 ge_q1 ge_q9 ge_q11 qH B0) rfl (by decide) (by decide) (by decide) (by decide) rfl (by rw [hml]; rfl) (lenOf pd29 rfl) rfl (by show 2 * 0 + _ ≤ _; exact Nat.le_of_eq rfl) (hb hby at_268)) fun v5073 T5073 L5073 X5073 hQ5073 => ?_
                  obtain ⟨rfl, NL5073, K5073, f5057, f5058, f5059, f5060, f5061, f5062, f5063, f5064, f5065, f5066, f5067, f5068, f5069, f5070, f5071⟩ := hQ5073
                  have N0 := Fr.app N0 NL5073
                  have e5073 : T5073.heap = T5073.heap := rfl
                  have B0 := own_extK B0 K5073 (allS (Nat.le_trans qH ge_q1) (allS (Nat.le_trans qH ge_q9) (allS (Nat.le_trans qH ge_q11) all0)))
                  have E_q2 := E_q2.keep K5073
                  have E_q9 := E_q9.keep K5073
                  have E_q10 := E_q10.keep K5073
                  have nin_q10 := (ninS (Ne.symm ne_q1_q10) (ninS (Ne.symm ne_q9_q10) (ninS ne_q10_q11 nin0)))
                  have f4745 := f4745.keep K5073 nin_q10
                  have nin_q2 := (ninS (Ne.symm ne_q1_q2) (ninS ne_q2_q9 (ninS ne_q2_q11 nin0)))
                  have f4934 := f4934.keep K5073 nin_q2
                  have Z0 := Nat.le_trans Z0 K5073.1
                  have f5065 : Fld Z T5073.heap q9 sn0 "inNetwork" "J" (.long (1 : Int64)) := f5065
                  exact jz _ _ _ _ (.ref q17) (.ref q18) _ _ _ (X5073.wide (fun x hx _ => hx) (by decide) (by decide)) e5073 N0 Z0 E_q9 E_q2 E_q10 f5060 f5061 f4934 f4745 f5065 (Or.inr (Or.inr (Or.inr (Or.inr (⟨rfl, rfl, rfl⟩)))))
                · rw [hf]
                  refine own_c1 (callV X4972 hx hZ (y := mn1) hown (ww hw 341 rfl) (ww hw 342 rfl) (ww hw 344 rfl) (ww hw 343 rfl) (ww hw 345 rfl) (ww hw 163 rfl) (by decide) e4972 E_q9 (argsL := [(.ref q18), (.ref fL)]) (rest := []) (W := 0) (au69_leave l Z a0 hw q9 q18 fL fD q1 q2 q11 q13 q12 q10 q5 q14 q15 (0 : Int32) (2 : Int64) (1 : Int64) (0 : Int64) (4607182418800017409 : UInt64) (0 : UInt64) h0 T4972.heap n0 Z0 S_DELIVERED E_fL F_ordinal_fL E_q1 E_q2 E_q9 f4760 f4764 f4765 f4766 f4932 f4934 f4941 f4942 f4956 f4957 f4958 f4959 f4960 f4961 f4962 f4963 f4964 f4965 f4966 f4967 f4968 f4970 ne_fL_fD ne_q1_q11 ne_q1_q13 ne_q1_q9 ne_q11_q13 ne_q2_q11 ne_q2_q9 ne_q9_q11 ne_q9_q13 ne_q9_q18 ge_q1 ge_q9 ge_q11 qH B0) rfl (by decide) (by decide) (by decide) (by decide) rfl (by rw [hml]; rfl) (lenOf pd29 rfl) rfl (by show 2 * 0 + _ ≤ _; exact Nat.le_of_eq rfl) (hb hby at_268)) fun v5090 T5090 L5090 X5090 hQ5090 => ?_
                  obtain ⟨rfl, NL5090, K5090, f5074, f5075, f5076, f5077, f5078, f5079, f5080, f5081, f5082, f5083, f5084, f5085, f5086, f5087, f5088⟩ := hQ5090
                  have N0 := Fr.app N0 NL5090
                  have e5090 : T5090.heap = T5090.heap := rfl
                  have B0 := own_extK B0 K5090 (allS (Nat.le_trans qH ge_q1) (allS (Nat.le_trans qH ge_q9) (allS (Nat.le_trans qH ge_q11) all0)))
                  have E_q2 := E_q2.keep K5090
                  have E_q9 := E_q9.keep K5090
                  have E_q10 := E_q10.keep K5090
                  have nin_q10 := (ninS (Ne.symm ne_q1_q10) (ninS (Ne.symm ne_q9_q10) (ninS ne_q10_q11 nin0)))
                  have f4745 := f4745.keep K5090 nin_q10
                  have nin_q2 := (ninS (Ne.symm ne_q1_q2) (ninS ne_q2_q9 (ninS ne_q2_q11 nin0)))
                  have f4934 := f4934.keep K5090 nin_q2
                  have Z0 := Nat.le_trans Z0 K5090.1
                  have f5082 : Fld Z T5090.heap q9 sn0 "inNetwork" "J" (.long (1 : Int64)) := f5082
                  exact jz _ _ _ _ (.ref q17) (.ref q18) _ _ _ (X5090.wide (fun x hx _ => hx) (by decide) (by decide)) e5090 N0 Z0 E_q9 E_q2 E_q10 f5077 f5078 f4934 f4745 f5082 (Or.inr (Or.inr (Or.inr (Or.inr (⟨rfl, rfl, rfl⟩)))))
                · rw [hf]
                  refine own_c1 (callV X4972 hx hZ (y := mn1) hown (ww hw 341 rfl) (ww hw 342 rfl) (ww hw 344 rfl) (ww hw 343 rfl) (ww hw 345 rfl) (ww hw 163 rfl) (by decide) e4972 E_q9 (argsL := [(.ref q18), (.ref fR)]) (rest := []) (W := 0) (au71_leave l Z a0 hw q9 q18 fR fD q1 q2 q11 q13 q12 q10 q5 q14 q15 (0 : Int32) (2 : Int64) (1 : Int64) (0 : Int64) (4607182418800017409 : UInt64) (0 : UInt64) h0 T4972.heap n0 Z0 S_DELIVERED E_fR F_ordinal_fR E_q1 E_q2 E_q9 f4760 f4764 f4765 f4766 f4932 f4934 f4941 f4942 f4956 f4957 f4958 f4959 f4960 f4961 f4962 f4963 f4964 f4965 f4966 f4967 f4968 f4970 ne_fR_fD ne_q1_q11 ne_q1_q13 ne_q1_q9 ne_q11_q13 ne_q2_q11 ne_q2_q9 ne_q9_q11 ne_q9_q13 ne_q9_q18 ge_q1 ge_q9 ge_q11 qH B0) rfl (by decide) (by decide) (by decide) (by decide) rfl (by rw [hml]; rfl) (lenOf pd29 rfl) rfl (by show 2 * 0 + _ ≤ _; exact Nat.le_of_eq rfl) (hb hby at_268)) fun v5107 T5107 L5107 X5107 hQ5107 => ?_
                  obtain ⟨rfl, NL5107, K5107, f5091, f5092, f5093, f5094, f5095, f5096, f5097, f5098, f5099, f5100, f5101, f5102, f5103, f5104, f5105⟩ := hQ5107
                  have N0 := Fr.app N0 NL5107
                  have e5107 : T5107.heap = T5107.heap := rfl
                  have B0 := own_extK B0 K5107 (allS (Nat.le_trans qH ge_q1) (allS (Nat.le_trans qH ge_q9) (allS (Nat.le_trans qH ge_q11) all0)))
                  have E_q2 := E_q2.keep K5107
                  have E_q9 := E_q9.keep K5107
                  have E_q10 := E_q10.keep K5107
                  have nin_q10 := (ninS (Ne.symm ne_q1_q10) (ninS (Ne.symm ne_q9_q10) (ninS ne_q10_q11 nin0)))
                  have f4745 := f4745.keep K5107 nin_q10
                  have nin_q2 := (ninS (Ne.symm ne_q1_q2) (ninS ne_q2_q9 (ninS ne_q2_q11 nin0)))
                  have f4934 := f4934.keep K5107 nin_q2
                  have Z0 := Nat.le_trans Z0 K5107.1
                  have f5099 : Fld Z T5107.heap q9 sn0 "inNetwork" "J" (.long (1 : Int64)) := f5099
                  exact jz _ _ _ _ (.ref q17) (.ref q18) _ _ _ (X5107.wide (fun x hx _ => hx) (by decide) (by decide)) e5107 N0 Z0 E_q9 E_q2 E_q10 f5094 f5095 f4934 f4745 f5099 (Or.inr (Or.inr (Or.inr (Or.inr (⟨rfl, rfl, rfl⟩)))))
        by_cases hq : md = (0 : Int32)
        · refine gb Tj4668 (mkF m 110 #[SI x0, SI x1, SI x2, SI x3, SI md, SI pv, SI lv, SI sv, SI fs, SA f, SD 4607182418800017409, S2, SU, SU, SU, SU, SU, SU, SU, SU, SU] []) (fun _ k => XS.ifNo Xj4668.here hx rfl (hb hby at_107) rfl ((if0 _ _).trans (teq hq).2) k) ?_
          refine gb Tj4668 (mkF m 112 #[SI x0, SI x1, SI x2, SI x3, SI md, SI pv, SI lv, SI sv, SI fs, SA f, SD 4607182418800017409, S2, SU, SU, SU, SU, SU, SU, SU, SU, SU] [(.double (4607182418800017409 : UInt64))]) (fun _ k => XS.dload Xj4668.here hx rfl (hb hby at_110) rfl k) ?_
          refine gb Tj4668 (mkF m 132 #[SI x0, SI x1, SI x2, SI x3, SI md, SI pv, SI lv, SI sv, SI fs, SA f, SD 4607182418800017409, S2, SU, SU, SU, SU, SU, SU, SU, SU, SU] [(.double (4607182418800017409 : UInt64))]) (fun _ k => XS.goto Xj4668.here hx rfl (pc0 := 112) (pc' := 132) rfl (hb hby at_112) (by decide) (by decide) k) ?_
          exact je _ (Or.inl ⟨hq, rfl⟩)
        · refine gb Tj4668 (mkF m 115 #[SI x0, SI x1, SI x2, SI x3, SI md, SI pv, SI lv, SI sv, SI fs, SA f, SD 4607182418800017409, S2, SU, SU, SU, SU, SU, SU, SU, SU, SU] []) (fun _ k => XS.ifYes Xj4668.here hx rfl (pc0 := 107) (pc' := 115) rfl (hb hby at_107) rfl ((if0 _ _).trans (feq hq).2) (by decide) (by decide) k) ?_
          refine gb Tj4668 (mkF m 118 #[SI x0, SI x1, SI x2, SI x3, SI md, SI pv, SI lv, SI sv, SI fs, SA f, SD 4607182418800017409, S2, SU, SU, SU, SU, SU, SU, SU, SU, SU] [(.int (1 : Int32)), (.int md)]) (fun _ k => XS.iload Xj4668.here hx rfl (hb hby at_115) rfl (XS.iconst Xj4668.here hx rfl (hb hby at_117)  k)) ?_
          by_cases hr : md = (1 : Int32)
          · refine gb Tj4668 (mkF m 121 #[SI x0, SI x1, SI x2, SI x3, SI md, SI pv, SI lv, SI sv, SI fs, SA f, SD 4607182418800017409, S2, SU, SU, SU, SU, SU, SU, SU, SU, SU] []) (fun _ k => XS.icmpNo Xj4668.here hx rfl (hb hby at_118) rfl (teq hr).2 k) ?_
            refine gb Tj4668 (mkF m 122 #[SI x0, SI x1, SI x2, SI x3, SI md, SI pv, SI lv, SI sv, SI fs, SA f, SD 4607182418800017409, S2, SU, SU, SU, SU, SU, SU, SU, SU, SU] [(.double (4607182418800017408 : UInt64))]) (fun _ k => XS.dconst1 Xj4668.here hx rfl (hb hby at_121) rfl k) ?_
            refine gb Tj4668 (mkF m 132 #[SI x0, SI x1, SI x2, SI x3, SI md, SI pv, SI lv, SI sv, SI fs, SA f, SD 4607182418800017409, S2, SU, SU, SU, SU, SU, SU, SU, SU, SU] [(.double (4607182418800017408 : UInt64))]) (fun _ k => XS.goto Xj4668.here hx rfl (pc0 := 122) (pc' := 132) rfl (hb hby at_122) (by decide) (by decide) k) ?_
            exact je _ (Or.inr (Or.inl ⟨hr, rfl⟩))
          · refine gb Tj4668 (mkF m 125 #[SI x0, SI x1, SI x2, SI x3, SI md, SI pv, SI lv, SI sv, SI fs, SA f, SD 4607182418800017409, S2, SU, SU, SU, SU, SU, SU, SU, SU, SU] []) (fun _ k => XS.icmpYes Xj4668.here hx rfl (pc0 := 118) (pc' := 125) rfl (hb hby at_118) rfl (feq hr).2 (by decide) (by decide) k) ?_
            refine gb Tj4668 (mkF m 127 #[SI x0, SI x1, SI x2, SI x3, SI md, SI pv, SI lv, SI sv, SI fs, SA f, SD 4607182418800017409, S2, SU, SU, SU, SU, SU, SU, SU, SU, SU] [(.int x1), (.int (2 : Int32))]) (fun _ k => XS.iconst Xj4668.here hx rfl (hb hby at_125)  (XS.iloadN Xj4668.here hx rfl (hb hby at_126) rfl k)) ?_
            refine gb Tj4668 (mkF m 129 #[SI x0, SI x1, SI x2, SI x3, SI md, SI pv, SI lv, SI sv, SI fs, SA f, SD 4607182418800017409, S2, SU, SU, SU, SU, SU, SU, SU, SU, SU] [(.int (1073741823 : Int32)), (.int x1), (.int (2 : Int32))]) (Xj4668.ldcInt hx hown (mvT hZ (ww hw 422 rfl)) (g := (mkF m 127 #[SI x0, SI x1, SI x2, SI x3, SI md, SI pv, SI lv, SI sv, SI fs, SA f, SD 4607182418800017409, S2, SU, SU, SU, SU, SU, SU, SU, SU, SU] [(.int x1), (.int (2 : Int32))])) rfl (hb hby at_127)) ?_
            refine gb Tj4668 (mkF m 130 #[SI x0, SI x1, SI x2, SI x3, SI md, SI pv, SI lv, SI sv, SI fs, SA f, SD 4607182418800017409, S2, SU, SU, SU, SU, SU, SU, SU, SU, SU] [(.int (x1 &&& (1073741823 : Int32))), (.int (2 : Int32))]) (fun _ k => XS.iand Xj4668.here hx rfl (hb hby at_129) rfl k) ?_
            refine gb Tj4668 (mkF m 131 #[SI x0, SI x1, SI x2, SI x3, SI md, SI pv, SI lv, SI sv, SI fs, SA f, SD 4607182418800017409, S2, SU, SU, SU, SU, SU, SU, SU, SU, SU] [(.int ((2 : Int32) + (x1 &&& (1073741823 : Int32))))]) (fun _ k => XS.iadd Xj4668.here hx rfl (hb hby at_130) rfl k) ?_
            obtain ⟨iv, q_iv⟩ : ∃ zz : Int32, zz = ((2 : Int32) + (x1 &&& (1073741823 : Int32))) := ⟨_, rfl⟩
            rw [← q_iv]
            have hiv : 2 ≤ iv.toInt := by
              rw [q_iv]
              have t := c_and x1 (1073741823 : Int32) (by decide)
              have t2 : (1073741823 : Int32).toInt = 1073741823 := by decide
              have t3 := c_iadd (2 : Int32) (x1 &&& (1073741823 : Int32))
              have t4 : (2 : Int32).toInt = 2 := by decide
              have t5 := rng32 ((2 : Int32) + (x1 &&& (1073741823 : Int32)))
              omega
            obtain ⟨ed, q_ed⟩ : ∃ zz, FP.i2d iv = zz := ⟨_, rfl⟩
            refine gb Tj4668 (mkF m 132 #[SI x0, SI x1, SI x2, SI x3, SI md, SI pv, SI lv, SI sv, SI fs, SA f, SD 4607182418800017409, S2, SU, SU, SU, SU, SU, SU, SU, SU, SU] [(.double ed)]) (fun _ k => XS.i2dS Xj4668.here hx rfl (hb hby at_131) rfl q_ed k) ?_
            exact je _ (Or.inr (Or.inr ⟨(hmd.resolve_left hq).resolve_left hr, _, DInt_i2d q_ed, hiv⟩))
      refine gb s₁ (mkF m 62 #[SI x0, SI x1, SI x2, SI x3, SI md, SI pv, SI lv, SI sv, SI fs, SU, SU, SU, SU, SU, SU, SU, SU, SU, SU, SU, SU] [(.int fs)]) (fun _ k => XS.iload X0.here hx rfl (hb hby at_60) rfl k) ?_
      by_cases hq : fs = (0 : Int32)
      · refine gb s₁ (mkF m 65 #[SI x0, SI x1, SI x2, SI x3, SI md, SI pv, SI lv, SI sv, SI fs, SU, SU, SU, SU, SU, SU, SU, SU, SU, SU, SU, SU] []) (fun _ k => XS.ifNo X0.here hx rfl (hb hby at_62) rfl ((if0 _ _).trans (teq hq).2) k) ?_
        refine own_g1 (getS X0 hx hZ (host := "") hown (ww hw 1 rfl) Via.refl e0 (S_DELIVERED.ext B0) rfl (hb hby at_65)) fun T4669 X4669 e4669 => ?_
        refine gb T4669 (mkF m 98 #[SI x0, SI x1, SI x2, SI x3, SI md, SI pv, SI lv, SI sv, SI fs, SU, SU, SU, SU, SU, SU, SU, SU, SU, SU, SU, SU] [(.ref fD)]) (fun _ k => XS.goto X4669.here hx rfl (pc0 := 68) (pc' := 98) rfl (hb hby at_68) (by decide) (by decide) k) ?_
        exact jf _ _ _ _ (X4669.wide (fun x hx _ => hx) (by decide) (by decide)) e4669 N0 Z0  B0 (Or.inl rfl)
      · refine gb s₁ (mkF m 71 #[SI x0, SI x1, SI x2, SI x3, SI md, SI pv, SI lv, SI sv, SI fs, SU, SU, SU, SU, SU, SU, SU, SU, SU, SU, SU, SU] []) (fun _ k => XS.ifYes X0.here hx rfl (pc0 := 62) (pc' := 71) rfl (hb hby at_62) rfl ((if0 _ _).trans (feq hq).2) (by decide) (by decide) k) ?_
        refine gb s₁ (mkF m 74 #[SI x0, SI x1, SI x2, SI x3, SI md, SI pv, SI lv, SI sv, SI fs, SU, SU, SU, SU, SU, SU, SU, SU, SU, SU, SU, SU] [(.int (1 : Int32)), (.int fs)]) (fun _ k => XS.iload X0.here hx rfl (hb hby at_71) rfl (XS.iconst X0.here hx rfl (hb hby at_73)  k)) ?_
        by_cases hr : fs = (1 : Int32)
        · refine gb s₁ (mkF m 77 #[SI x0, SI x1, SI x2, SI x3, SI md, SI pv, SI lv, SI sv, SI fs, SU, SU, SU, SU, SU, SU, SU, SU, SU, SU, SU, SU] []) (fun _ k => XS.icmpNo X0.here hx rfl (hb hby at_74) rfl (teq hr).2 k) ?_
          refine own_g1 (getS X0 hx hZ (host := "") hown (ww hw 423 rfl) Via.refl e0 (S_EXPIRED.ext B0) rfl (hb hby at_77)) fun T4670 X4670 e4670 => ?_
          refine gb T4670 (mkF m 98 #[SI x0, SI x1, SI x2, SI x3, SI md, SI pv, SI lv, SI sv, SI fs, SU, SU, SU, SU, SU, SU, SU, SU, SU, SU, SU, SU] [(.ref fE)]) (fun _ k => XS.goto X4670.here hx rfl (pc0 := 80) (pc' := 98) rfl (hb hby at_80) (by decide) (by decide) k) ?_
          exact jf _ _ _ _ (X4670.wide (fun x hx _ => hx) (by decide) (by decide)) e4670 N0 Z0  B0 (Or.inr (Or.inl rfl))
        · refine gb s₁ (mkF m 83 #[SI x0, SI x1, SI x2, SI x3, SI md, SI pv, SI lv, SI sv, SI fs, SU, SU, SU, SU, SU, SU, SU, SU, SU, SU, SU, SU] []) (fun _ k => XS.icmpYes X0.here hx rfl (pc0 := 74) (pc' := 83) rfl (hb hby at_74) rfl (feq hr).2 (by decide) (by decide) k) ?_
          refine gb s₁ (mkF m 86 #[SI x0, SI x1, SI x2, SI x3, SI md, SI pv, SI lv, SI sv, SI fs, SU, SU, SU, SU, SU, SU, SU, SU, SU, SU, SU, SU] [(.int (2 : Int32)), (.int fs)]) (fun _ k => XS.iload X0.here hx rfl (hb hby at_83) rfl (XS.iconst X0.here hx rfl (hb hby at_85)  k)) ?_
          by_cases ht : fs = (2 : Int32)
          · refine gb s₁ (mkF m 89 #[SI x0, SI x1, SI x2, SI x3, SI md, SI pv, SI lv, SI sv, SI fs, SU, SU, SU, SU, SU, SU, SU, SU, SU, SU, SU, SU] []) (fun _ k => XS.icmpNo X0.here hx rfl (hb hby at_86) rfl (teq ht).2 k) ?_
            refine own_g1 (getS X0 hx hZ (host := "") hown (ww hw 420 rfl) Via.refl e0 (S_LOST.ext B0) rfl (hb hby at_89)) fun T4671 X4671 e4671 => ?_
            refine gb T4671 (mkF m 98 #[SI x0, SI x1, SI x2, SI x3, SI md, SI pv, SI lv, SI sv, SI fs, SU, SU, SU, SU, SU, SU, SU, SU, SU, SU, SU, SU] [(.ref fL)]) (fun _ k => XS.goto X4671.here hx rfl (pc0 := 92) (pc' := 98) rfl (hb hby at_92) (by decide) (by decide) k) ?_
            exact jf _ _ _ _ (X4671.wide (fun x hx _ => hx) (by decide) (by decide)) e4671 N0 Z0  B0 (Or.inr (Or.inr (Or.inl rfl)))
          · refine gb s₁ (mkF m 95 #[SI x0, SI x1, SI x2, SI x3, SI md, SI pv, SI lv, SI sv, SI fs, SU, SU, SU, SU, SU, SU, SU, SU, SU, SU, SU, SU] []) (fun _ k => XS.icmpYes X0.here hx rfl (pc0 := 86) (pc' := 95) rfl (hb hby at_86) rfl (feq ht).2 (by decide) (by decide) k) ?_
            refine own_g1 (getS X0 hx hZ (host := "") hown (ww hw 421 rfl) Via.refl e0 (S_DROPPED.ext B0) rfl (hb hby at_95)) fun T4672 X4672 e4672 => ?_
            exact jf _ _ _ _ (X4672.wide (fun x hx _ => hx) (by decide) (by decide)) e4672 N0 Z0  B0 (Or.inr (Or.inr (Or.inr rfl)))
    by_cases hq : (x3 &&& (2 : Int32)) = (0 : Int32)
    · refine gb s₁ (mkF m 50 #[SI x0, SI x1, SI x2, SI x3, SI md, SI pv, SI lv, SU, SU, SU, SU, SU, SU, SU, SU, SU, SU, SU, SU, SU, SU] []) (fun _ k => XS.ifYes X0.here hx rfl (pc0 := 37) (pc' := 50) rfl (hb hby at_37) rfl ((if0 _ _).trans (teq hq).1) (by decide) (by decide) k) ?_
      refine gb s₁ (mkF m 51 #[SI x0, SI x1, SI x2, SI x3, SI md, SI pv, SI lv, SU, SU, SU, SU, SU, SU, SU, SU, SU, SU, SU, SU, SU, SU] [(.int (0 : Int32))]) (fun _ k => XS.iconst X0.here hx rfl (hb hby at_50)  k) ?_
      exact jp _ (Or.inl rfl)
    · refine gb s₁ (mkF m 40 #[SI x0, SI x1, SI x2, SI x3, SI md, SI pv, SI lv, SU, SU, SU, SU, SU, SU, SU, SU, SU, SU, SU, SU, SU, SU] []) (fun _ k => XS.ifNo X0.here hx rfl (hb hby at_37) rfl ((if0 _ _).trans (feq hq).1) k) ?_
      refine gb s₁ (mkF m 43 #[SI x0, SI x1, SI x2, SI x3, SI md, SI pv, SI lv, SU, SU, SU, SU, SU, SU, SU, SU, SU, SU, SU, SU, SU, SU] [(.int (2 : Int32)), (.int pv)]) (fun _ k => XS.iload X0.here hx rfl (hb hby at_40) rfl (XS.iconst X0.here hx rfl (hb hby at_42)  k)) ?_
      by_cases hr : pv = (2 : Int32)
      · refine gb s₁ (mkF m 46 #[SI x0, SI x1, SI x2, SI x3, SI md, SI pv, SI lv, SU, SU, SU, SU, SU, SU, SU, SU, SU, SU, SU, SU, SU, SU] []) (fun _ k => XS.icmpNo X0.here hx rfl (hb hby at_43) rfl (teq hr).2 k) ?_
        refine gb s₁ (mkF m 47 #[SI x0, SI x1, SI x2, SI x3, SI md, SI pv, SI lv, SU, SU, SU, SU, SU, SU, SU, SU, SU, SU, SU, SU, SU, SU] [(.int (1 : Int32))]) (fun _ k => XS.iconst X0.here hx rfl (hb hby at_46)  k) ?_
        refine gb s₁ (mkF m 51 #[SI x0, SI x1, SI x2, SI x3, SI md, SI pv, SI lv, SU, SU, SU, SU, SU, SU, SU, SU, SU, SU, SU, SU, SU, SU] [(.int (1 : Int32))]) (fun _ k => XS.goto X0.here hx rfl (pc0 := 47) (pc' := 51) rfl (hb hby at_47) (by decide) (by decide) k) ?_
        exact jp _ (Or.inr ⟨rfl, hr⟩)
      · refine gb s₁ (mkF m 50 #[SI x0, SI x1, SI x2, SI x3, SI md, SI pv, SI lv, SU, SU, SU, SU, SU, SU, SU, SU, SU, SU, SU, SU, SU, SU] []) (fun _ k => XS.icmpYes X0.here hx rfl (pc0 := 43) (pc' := 50) rfl (hb hby at_43) rfl (feq hr).2 (by decide) (by decide) k) ?_
        refine gb s₁ (mkF m 51 #[SI x0, SI x1, SI x2, SI x3, SI md, SI pv, SI lv, SU, SU, SU, SU, SU, SU, SU, SU, SU, SU, SU, SU, SU, SU] [(.int (0 : Int32))]) (fun _ k => XS.iconst X0.here hx rfl (hb hby at_50)  k) ?_
        exact jp _ (Or.inl rfl)
  by_cases hq : (0 : Int32) < pv
  · refine gb s₁ (mkF m 21 #[SI x0, SI x1, SI x2, SI x3, SI md, SI pv, SU, SU, SU, SU, SU, SU, SU, SU, SU, SU, SU, SU, SU, SU, SU] []) (fun _ k => XS.ifNo X0.here hx rfl (hb hby at_18) rfl ((if0 _ _).trans (tlt hq).2.2.2) k) ?_
    refine gb s₁ (mkF m 23 #[SI x0, SI x1, SI x2, SI x3, SI md, SI pv, SU, SU, SU, SU, SU, SU, SU, SU, SU, SU, SU, SU, SU, SU, SU] [(.int (1 : Int32)), (.int x3)]) (fun _ k => XS.iloadN X0.here hx rfl (hb hby at_21) rfl (XS.iconst X0.here hx rfl (hb hby at_22)  k)) ?_
    refine gb s₁ (mkF m 24 #[SI x0, SI x1, SI x2, SI x3, SI md, SI pv, SU, SU, SU, SU, SU, SU, SU, SU, SU, SU, SU, SU, SU, SU, SU] [(.int (x3 &&& (1 : Int32)))]) (fun _ k => XS.iand X0.here hx rfl (hb hby at_23) rfl k) ?_
    by_cases hr : (x3 &&& (1 : Int32)) = (0 : Int32)
    · refine gb s₁ (mkF m 31 #[SI x0, SI x1, SI x2, SI x3, SI md, SI pv, SU, SU, SU, SU, SU, SU, SU, SU, SU, SU, SU, SU, SU, SU, SU] []) (fun _ k => XS.ifYes X0.here hx rfl (pc0 := 24) (pc' := 31) rfl (hb hby at_24) rfl ((if0 _ _).trans (teq hr).1) (by decide) (by decide) k) ?_
      refine gb s₁ (mkF m 32 #[SI x0, SI x1, SI x2, SI x3, SI md, SI pv, SU, SU, SU, SU, SU, SU, SU, SU, SU, SU, SU, SU, SU, SU, SU] [(.int (0 : Int32))]) (fun _ k => XS.iconst X0.here hx rfl (hb hby at_31)  k) ?_
      exact jl _ (Or.inl rfl)
    · refine gb s₁ (mkF m 27 #[SI x0, SI x1, SI x2, SI x3, SI md, SI pv, SU, SU, SU, SU, SU, SU, SU, SU, SU, SU, SU, SU, SU, SU, SU] []) (fun _ k => XS.ifNo X0.here hx rfl (hb hby at_24) rfl ((if0 _ _).trans (feq hr).1) k) ?_
      refine gb s₁ (mkF m 28 #[SI x0, SI x1, SI x2, SI x3, SI md, SI pv, SU, SU, SU, SU, SU, SU, SU, SU, SU, SU, SU, SU, SU, SU, SU] [(.int (1 : Int32))]) (fun _ k => XS.iconst X0.here hx rfl (hb hby at_27)  k) ?_
      refine gb s₁ (mkF m 32 #[SI x0, SI x1, SI x2, SI x3, SI md, SI pv, SU, SU, SU, SU, SU, SU, SU, SU, SU, SU, SU, SU, SU, SU, SU] [(.int (1 : Int32))]) (fun _ k => XS.goto X0.here hx rfl (pc0 := 28) (pc' := 32) rfl (hb hby at_28) (by decide) (by decide) k) ?_
      exact jl _ (Or.inr ⟨rfl, fun q => by rw [q] at hq; exact absurd hq (by decide)⟩)
  · refine gb s₁ (mkF m 31 #[SI x0, SI x1, SI x2, SI x3, SI md, SI pv, SU, SU, SU, SU, SU, SU, SU, SU, SU, SU, SU, SU, SU, SU, SU] []) (fun _ k => XS.ifYes X0.here hx rfl (pc0 := 18) (pc' := 31) rfl (hb hby at_18) rfl ((if0 _ _).trans (flt hq).2.2.2) (by decide) (by decide) k) ?_
    refine gb s₁ (mkF m 32 #[SI x0, SI x1, SI x2, SI x3, SI md, SI pv, SU, SU, SU, SU, SU, SU, SU, SU, SU, SU, SU, SU, SU, SU, SU] [(.int (0 : Int32))]) (fun _ k => XS.iconst X0.here hx rfl (hb hby at_31)  k) ?_
    exact jl _ (Or.inl rfl)
set_option maxRecDepth 65536 in
set_option maxHeartbeats 40000000 in
theorem comes_1 {Post : Tables → Env → Array Value → State → Outcome → State → Prop} (hpost : ∀ tb e args s v u, (limb_1_1.after args s (.returned v) u = true ∧ limb_1_2.after args s (.returned v) u = true ∧ True) → FrameEnd s (.returned v) u (Jvm.fieldLocs frame_1_writes args s ++ Jvm.arrayLocs frame_1_arrays args s ++ Jvm.staticLocs frame_1_statics s) 48 4416 → Post tb e args s (.returned v) u) :
    ArmFor flags0 classFile x code maxLocals ret World_1 tables_1 room_1 Calls_1 rest_1 Pre_1 Post := by
  intro l hfl _ _ p e ha hc hk s m args below hf hA hF happ hP
  obtain ⟨hcalls, hrest, hpre⟩ := hP
  obtain ⟨-, -, -, hnamed, -, -, -, hat⟩ := (Spec.applies_iff hf).mp happ
  obtain ⟨hg, hn⟩ := and_e (Cond.before_iff.mp (show (Jvm.Cond.and given_1 narrow_1).before args s = true from hpre))
  obtain ⟨g0, t0⟩ := and_e hg
  obtain ⟨g1, t1⟩ := and_e t0
  obtain ⟨g2, t2⟩ := and_e t1
  obtain ⟨g3, t3⟩ := and_e t2
  obtain ⟨w0, w1, w2, w3, rfl⟩ : ∃ w0 w1 w2 w3 : Value, args = #[w0, w1, w2, w3] := by
    have hs : args.size = 4 := by simpa [Cond.value, given_1] using g0
    obtain ⟨L⟩ := args
    match L, hs with
    | [w0, w1, w2, w3], _ => exact ⟨w0, w1, w2, w3, rfl⟩
  have hw := fun d (hd : d ∈ tables_1) => atoms_spec (ws := Jvm.Cond.code x code maxLocals ret :: tables_1) hat d (List.mem_cons_of_mem _ hd)
  obtain ⟨i0, e0⟩ := is_v g1
  obtain rfl : w0 = (.int i0) := Option.some.inj e0
  obtain ⟨i1, e1⟩ := is_v g2
  obtain rfl : w1 = (.int i1) := Option.some.inj e1
  obtain ⟨i2, e2⟩ := is_v g3
  obtain rfl : w2 = (.int i2) := Option.some.inj e2
  obtain ⟨i3, e3⟩ := is_v t3
  obtain rfl : w3 = (.int i3) := Option.some.inj e3
  obtain ⟨hsets, hown0⟩ := atoms_of _ (rest_1_c_eq ▸ (show rest_1_c.before _ s = true from hrest))
  obtain ⟨n1, m1⟩ := and_e hn
  obtain ⟨n2, m2⟩ := and_e m1
  obtain ⟨n3, m3⟩ := and_e m2
  obtain ⟨n4, m4⟩ := and_e m3
  obtain ⟨n5, m5⟩ := and_e m4
  obtain ⟨n6, m6⟩ := and_e m5
  obtain ⟨n7, m7⟩ := and_e m6
  obtain ⟨n8, m8⟩ := and_e m7
  obtain ⟨n9, m9⟩ := and_e m8
  obtain ⟨n10, m10⟩ := and_e m9
  obtain ⟨n11, m11⟩ := and_e m10
  obtain ⟨n12, m12⟩ := and_e m11
  obtain ⟨n13, m13⟩ := and_e m12
  obtain ⟨n14, m14⟩ := and_e m13
  obtain ⟨n15, m15⟩ := and_e m14
  obtain ⟨n16, m16⟩ := and_e m15
  obtain ⟨n17, m17⟩ := and_e m16
  obtain ⟨n18, m18⟩ := and_e m17
  obtain ⟨fD, v_fD⟩ := exa_v n1
  have S_DELIVERED := Sta.start v_fD (Or.inr ⟨(ww hw 2 rfl), (ww hw 3 rfl)⟩)
  have E_fD := Exa.start v_fD n1
  have F_ordinal_fD := Fld.start ((fld_at v_fD).symm.trans (eqv_i (Term.int_eval (0)) n17))
  obtain ⟨fE, v_fE⟩ := exa_v n7
  have S_EXPIRED := Sta.start v_fE (Or.inr ⟨(ww hw 2 rfl), (ww hw 183 rfl)⟩)
  have E_fE := Exa.start v_fE n7
  have F_ordinal_fE := Fld.start ((fld_at v_fE).symm.trans (eqv_i (Term.int_eval (1)) n18))
  obtain ⟨fL, v_fL⟩ := exa_v n9
  have S_LOST := Sta.start v_fL (Or.inr ⟨(ww hw 2 rfl), (ww hw 184 rfl)⟩)
  have E_fL := Exa.start v_fL n9
  have F_ordinal_fL := Fld.start ((fld_at v_fL).symm.trans (eqv_i (Term.int_eval (2)) m18))
  obtain ⟨fR, v_fR⟩ := exa_v n11
  have S_DROPPED := Sta.start v_fR (Or.inr ⟨(ww hw 2 rfl), (ww hw 185 rfl)⟩)
  have E_fR := Exa.start v_fR n11
  have F_ordinal_fR := Fld.start ((fld_at v_fR).symm.trans (eqv_i (Term.int_eval (3)) n16))
  obtain ⟨nn, v_nn⟩ := exa_v n2
  have S_NONE := Sta.start v_nn (Or.inr ⟨(ww hw 165 rfl), (ww hw 166 rfl)⟩)
  have E_nn := Exa.start v_nn n2
  obtain ⟨vals, v_vals⟩ := arr_v n3
  have S__VALUES := Sta.start v_vals (Or.inr ⟨(ww hw 2 rfl), (ww hw 175 rfl)⟩)
  have E_vals := Exa.start v_vals n4
  obtain ⟨cv, AV⟩ := Arr.start v_vals n3
  have hl4 : cv.slots.size = 4 := by
    have q := own_len v_vals (AV.fin (Vm.Alike.refl _)) (eqv_i (Term.int_eval (4)) n5)
    rw [show (4 : Int32).toInt = 4 from by decide] at q
    omega
  have el0 : cv.slots[0]? = some (.ref fD) := (elem_in (own_eqr v_fD n6) v_vals (Term.int_eval (0)) AV.1).2
  have el1 : cv.slots[1]? = some (.ref fE) := (elem_in (own_eqr v_fE n8) v_vals (Term.int_eval (1)) AV.1).2
  have el2 : cv.slots[2]? = some (.ref fL) := (elem_in (own_eqr v_fL n10) v_vals (Term.int_eval (2)) AV.1).2
  have el3 : cv.slots[3]? = some (.ref fR) := (elem_in (own_eqr v_fR n12) v_vals (Term.int_eval (3)) AV.1).2
  have V_vals : Sar s s.heap vals (.object sn8) [(.ref fD), (.ref fE), (.ref fL), (.ref fR)] := ⟨cv, AV, own_arr4 hl4 el0 el1 el2 el3⟩
  obtain ⟨li, v_li⟩ := exa_v n13
  have E_li := Exa.start v_li n13
  have F_within_nn := Fld.start ((fld_at v_nn).symm.trans v_li)
  obtain ⟨els, v_els⟩ := arr_v n14
  have F_elements_li := Fld.start ((fld_at v_li).symm.trans v_els)
  obtain ⟨cx, AX⟩ := Arr.start v_els n14
  have hl0 : cx.slots.size = 0 := by
    have q := own_len v_els (AX.fin (Vm.Alike.refl _)) (eqv_i (Term.int_eval (0)) n15)
    rw [show (0 : Int32).toInt = 0 from by decide] at q
    omega
  have V_els : Sar s s.heap els (.object "java/lang/Object") [] := ⟨cx, AX, own_arr0 hl0⟩
  obtain ⟨dc, v_dc⟩ := exa_v (Cond.before_iff.mp (hsets _ (List.mem_of_getElem? (i := 7) rfl)))
  have S_DEFAULTCAPACITY_EMPTY_ELEMENTDATA := Sta.start v_dc (Or.inr ⟨(ww hw 207 rfl), (hsets _ (List.mem_of_getElem? (i := 2) rfl))⟩)
  obtain ⟨n, o, h1, h2, h3, _, L, rfl, ⟨rfl, N⟩, hq⟩ := rm_law l s _ hw i0 i1 i2 i3 s.heap s.heap.size (Nat.le_refl _) (Nat.le_refl _) S_DELIVERED S_EXPIRED S_LOST S_DROPPED S_NONE S__VALUES S_DEFAULTCAPACITY_EMPTY_ELEMENTDATA E_fD E_fE E_fL E_fR E_nn E_li E_vals F_ordinal_fD F_ordinal_fE F_ordinal_fL F_ordinal_fR F_within_nn F_elements_li V_vals V_els p e ha hc hk s m _ below hf ((Spec.applies_iff_loose hf).mp happ).1 ⟨rfl, State.Warmed39.refl s, rfl⟩ trivial
  refine ⟨n, _, h1, h2, h3, hpost _ _ _ _ _ _ ⟨Cond.after_iff.mpr rfl, Cond.after_iff.mpr (eq_i res_at (Term.int_eval (1)) rfl), trivial⟩ ⟨hq.1, hq.2.1, (hq.2.2.sift fun y hy => Or.inr (N y hy)).mono (by decide) (by decide)⟩⟩
theorem main_1_1 : Claimed_1_1 := comes_1 fun _ _ _ _ _ _ h hF => ⟨h.1, hF⟩
theorem main_1_2 : Claimed_1_2 := comes_1 fun _ _ _ _ _ _ h hF => ⟨h.2.1, hF⟩
end Jvm.Pilot.@@N@@
namespace Jvm.Pilot.@@N@@
open Jvm Jvm.ClassFile Sem Op Lib Jvm.Free Jvm.Stand Jvm.Pilot.@@N@@.Jvm.D
/-! MADE BY PROGRAM (witnessworld.py) out of the Statement's table words and the real class files: 45 classes; the members and pool entries that the words name. The judged class is class 1, her method 1. -/
namespace start1
open Jvm.ClassFile
def u (s : String) : CpInfo := .utf8 (stringToUtf16 s)
/-- a pool by its gaps: so many unusable entries, then the entry; so many at the end -/
def gap : Nat → List CpInfo → List CpInfo
  | 0, r => r
  | n + 1, r => .unusable :: gap n r
def poolList (es : List (Nat × CpInfo)) (last : Nat) : List CpInfo := es.foldr (fun e r => gap e.1 (e.2 :: r)) (gap last [])
def pool (es : List (Nat × CpInfo)) (last : Nat) : Array CpInfo := ⟨poolList es last⟩
def fileOf (pool : Array CpInfo) (this : Nat) (attrs : Array Attribute := #[]) (ms : Array MethodInfo := #[]) (fl : Nat := 33) (sup : Nat := 0) (ifs : Array Nat := #[]) (fds : Array FieldInfo := #[]) : ClassFile where
  minorVersion := 0
  majorVersion := 65
  constantPool := pool
  accessFlags := fl
  thisClass := this
  superClass := sup
  interfaces := ifs
  fields := fds
  methods := ms
  attributes := attrs
def plain (name : String) (sup : Option ClassId) : Class where
  name := name
  kind := .ordinary
  loader := none
  accessFlags := 33
  super := sup
  interfaces := #[]
  cf := none
  fields := #[]
  methods := #[]
  instanceTypes := #[]
  staticTypes := #[]
  resolved := #[]
  callSites := []
  init := .initialized
  statics := none
  mirror := none

def pool0 : Array CpInfo := pool [(5, u "<init>"), (0, u "()V"), (1, .class_ 10), (1, u "java/lang/Object"), (85, u "clone"), (0, u "()Ljava/lang/Object;")] 26

def k0c0 : Code := { maxStack := 0, maxLocals := 1, code := object_method_1_code, exceptionTable := #[], attributes := #[] }
def k0m0 : Method := { name := "<init>", desc := "()V", sig := { parameters := [], returnType := none }, accessFlags := 1, code := some k0c0 }
def k0m1 : Method := { name := "clone", desc := "()Ljava/lang/Object;", sig := { parameters := [], returnType := some (.object "java/lang/Object") }, accessFlags := 260, code := none }
/-- java/lang/Object -/
def k0 : Class := { plain "java/lang/Object" none with
  accessFlags := 33
  interfaces := #[]
  cf := some (fileOf pool0 8 #[] #[{ accessFlags := 1, nameIndex := 5, descriptorIndex := 6, attributes := #[] }, { accessFlags := 260, nameIndex := 96, descriptorIndex := 97, attributes := #[] }] 33 0 #[] #[])
  fields := #[]
  methods := #[k0m0, k0m1]
  instanceTypes := #[]
  staticTypes := #[]
  resolved := Array.replicate 124 none
  statics := none }

def pool1 : Array CpInfo := pool [(2, .class_ 4), (1, u "java/lang/Object"), (0, u "<init>"), (0, u "()V"), (0, .integer 2147483647), (0, .fieldref 9 10), (0, .class_ 11), (0, .nameAndType 12 13), (0, u "com/example/hqsim/hqsim/engine/network/Fate"), (0, u "DELIVERED"), (0, u "Lcom/example/hqsim/hqsim/engine/network/Fate;"), (0, .fieldref 9 15), (0, .nameAndType 16 13), (0, u "EXPIRED"), (0, .fieldref 9 18), (0, .nameAndType 19 13), (0, u "LOST"), (0, .fieldref 9 21), (0, .nameAndType 22 13), (0, u "DROPPED"), (0, .double 4607182418800017409), (1, .integer 1073741823), (0, .class_ 27), (0, u "com/example/hqsim/hqsim/engine/kernel/EventBudget"), (0, .long 1000), (1, .methodref 26 31), (0, .nameAndType 5 32), (0, u "(J)V"), (0, .class_ 34), (0, u "com/example/hqsim/hqsim/engine/kernel/Simulation"), (0, .methodref 33 36), (0, .nameAndType 5 37), (0, u "(Lcom/example/hqsim/hqsim/engine/kernel/EventBudget;)V"), (0, .class_ 39), (0, u "com/example/hqsim/hqsim/engine/network/Measurement"), (0, .class_ 41), (0, u "com/example/hqsim/hqsim/engine/statistics/MeasurementWindow"), (0, .methodref 40 43), (0, .nameAndType 5 44), (0, u "(DD)V"), (0, .methodref 38 46), (0, .nameAndType 5 47), (0, u "(Lcom/example/hqsim/hqsim/engine/kernel/Simulation;Lcom/example/hqsim/hqsim/engine/statistics/MeasurementWindow;)V"), (0, .class_ 49), (0, u "com/example/hqsim/hqsim/engine/network/EndToEnd"), (0, .fieldref 51 52), (0, .class_ 53), (0, .nameAndType 54 55), (0, u "com/example/hqsim/hqsim/engine/network/DeliveryTimeMetrics"), (0, u "NONE"), (0, u "Lcom/example/hqsim/hqsim/engine/network/DeliveryTimeMetrics;"), (0, .methodref 48 57), (0, .nameAndType 5 58), (0, u "(Lcom/example/hqsim/hqsim/engine/kernel/Simulation;Lcom/example/hqsim/hqsim/engine/statistics/MeasurementWindow;Lcom/example/hqsim/hqsim/engine/network/Measurement;Lcom/example/hqsim/hqsim/engine/network/DeliveryTimeMetrics;)V"), (0, .methodref 48 60), (0, .nameAndType 61 62), (0, u "produce"), (0, u "(Lcom/example/hqsim/hqsim/engine/network/Origin;JD)Lcom/example/hqsim/hqsim/engine/network/Message;"), (0, .methodref 33 64), (0, .nameAndType 65 6), (0, u "run"), (0, .methodref 48 67), (0, .nameAndType 68 69), (0, u "leave"), (0, u "(Lcom/example/hqsim/hqsim/engine/network/Message;Lcom/example/hqsim/hqsim/engine/network/Fate;)V"), (0, .methodref 48 71), (0, .nameAndType 72 73), (0, u "goesOn"), (0, u "()Z"), (0, .class_ 75), (0, u "com/example/hqsim/hqsim/engine/network/EndToEndGoesOnPinLaw"), (2, u "law"), (0, u "(IIII)Z")] 5

def k1m0 : Method := { name := "<init>", desc := "()V", sig := { parameters := [], returnType := none }, accessFlags := 1, code := none }
def k1c1 : Code := { maxStack := 9, maxLocals := 21, code := code, exceptionTable := #[], attributes := #[] }
def k1m1 : Method := { name := "law", desc := "(IIII)Z", sig := { parameters := [.int, .int, .int, .int], returnType := some .boolean }, accessFlags := 9, code := some k1c1 }
/-- com/example/hqsim/hqsim/engine/network/EndToEndGoesOnPinLaw -/
def k1 : Class := { plain "com/example/hqsim/hqsim/engine/network/EndToEndGoesOnPinLaw" (some 0) with
  accessFlags := 49
  interfaces := #[]
  cf := some (fileOf pool1 74 #[] #[{ accessFlags := 1, nameIndex := 5, descriptorIndex := 6, attributes := #[] }, { accessFlags := 9, nameIndex := 78, descriptorIndex := 79, attributes := #[] }] 49 2 #[] #[])
  fields := #[]
  methods := #[k1m0, k1m1]
  instanceTypes := #[]
  staticTypes := #[]
  resolved := Array.replicate 85 none
  statics := none }

def pool2 : Array CpInfo := pool [(1, .class_ 2), (0, u "java/lang/constant/Constable"), (0, .class_ 4), (0, u "java/lang/Object")] 6

/-- java/lang/constant/Constable -/
def k2 : Class := { plain "java/lang/constant/Constable" (some 0) with
  accessFlags := 1537
  interfaces := #[]
  cf := some (fileOf pool2 1 #[] #[] 1537 3 #[] #[])
  fields := #[]
  methods := #[]
  instanceTypes := #[]
  staticTypes := #[]
  resolved := Array.replicate 11 none
  statics := none }

def pool3 : Array CpInfo := pool [(1, .class_ 2), (0, u "java/lang/Comparable"), (0, .class_ 4), (0, u "java/lang/Object")] 7

/-- java/lang/Comparable -/
def k3 : Class := { plain "java/lang/Comparable" (some 0) with
  accessFlags := 1537
  interfaces := #[]
  cf := some (fileOf pool3 1 #[] #[] 1537 3 #[] #[])
  fields := #[]
  methods := #[]
  instanceTypes := #[]
  staticTypes := #[]
  resolved := Array.replicate 12 none
  statics := none }

def pool4 : Array CpInfo := pool [(1, .class_ 2), (0, u "java/io/Serializable"), (0, .class_ 4), (0, u "java/lang/Object")] 2

/-- java/io/Serializable -/
def k4 : Class := { plain "java/io/Serializable" (some 0) with
  accessFlags := 1537
  interfaces := #[]
  cf := some (fileOf pool4 1 #[] #[] 1537 3 #[] #[])
  fields := #[]
  methods := #[]
  instanceTypes := #[]
  staticTypes := #[]
  resolved := Array.replicate 7 none
  statics := none }

def pool5 : Array CpInfo := pool [(2, .class_ 4), (1, u "java/lang/Enum"), (0, u "name"), (0, u "Ljava/lang/String;"), (0, .fieldref 2 8), (0, .nameAndType 9 10), (0, u "ordinal"), (0, u "I"), (1, .class_ 14), (1, u "java/lang/Object"), (4, u "hash"), (86, .class_ 108), (1, u "java/lang/Enum$EnumDesc"), (2, .class_ 112), (0, u "java/lang/constant/Constable"), (0, .class_ 114), (0, u "java/lang/Comparable"), (0, .class_ 116), (0, u "java/io/Serializable"), (9, u "()I")] 77

def k5c0 : Code := { maxStack := 1, maxLocals := 1, code := jdk_37_method_2_code, exceptionTable := #[], attributes := #[] }
def k5m0 : Method := { name := "ordinal", desc := "()I", sig := { parameters := [], returnType := some .int }, accessFlags := 17, code := some k5c0 }
/-- java/lang/Enum -/
def k5 : Class := { plain "java/lang/Enum" (some 0) with
  accessFlags := 1057
  interfaces := #[2, 3, 4]
  cf := some (fileOf pool5 2 #[.nestMembers #[106]] #[{ accessFlags := 17, nameIndex := 9, descriptorIndex := 126, attributes := #[] }] 1057 12 #[111, 113, 115] #[{ accessFlags := 18, nameIndex := 5, descriptorIndex := 6, attributes := #[] }, { accessFlags := 18, nameIndex := 9, descriptorIndex := 10, attributes := #[] }, { accessFlags := 2, nameIndex := 19, descriptorIndex := 10, attributes := #[] }])
  fields := #[{ name := "name", type := (.object "java/lang/String"), accessFlags := 18, slot := 0, constantValue := 0 }, { name := "ordinal", type := .int, accessFlags := 18, slot := 1, constantValue := 0 }, { name := "hash", type := .int, accessFlags := 2, slot := 2, constantValue := 0 }]
  methods := #[k5m0]
  instanceTypes := #[(.object "java/lang/String"), .int, .int]
  staticTypes := #[]
  resolved := Array.replicate 204 none
  statics := none }

def pool6 : Array CpInfo := pool [(1, .class_ 2), (0, u "com/example/hqsim/hqsim/engine/network/Fate"), (2, u "DELIVERED"), (0, u "Lcom/example/hqsim/hqsim/engine/network/Fate;"), (2, u "EXPIRED"), (2, u "LOST"), (2, u "DROPPED"), (0, .fieldref 1 17), (0, .nameAndType 18 19), (0, u "$VALUES"), (0, u "[Lcom/example/hqsim/hqsim/engine/network/Fate;"), (0, .methodref 21 22), (0, .class_ 19), (0, .nameAndType 23 24), (0, u "clone"), (0, u "()Ljava/lang/Object;"), (1, .class_ 28), (1, u "java/lang/Enum"), (24, u "metric"), (0, u "Ljava/lang/String;"), (8, u "()[Lcom/example/hqsim/hqsim/engine/network/Fate;"), (0, u "values")] 10

def k6c0 : Code := { maxStack := 1, maxLocals := 0, code := prog_37_method_1_code, exceptionTable := #[], attributes := #[] }
def k6m0 : Method := { name := "values", desc := "()[Lcom/example/hqsim/hqsim/engine/network/Fate;", sig := { parameters := [], returnType := some (.array (.object "com/example/hqsim/hqsim/engine/network/Fate")) }, accessFlags := 9, code := some k6c0 }
/-- com/example/hqsim/hqsim/engine/network/Fate -/
def k6 : Class := { plain "com/example/hqsim/hqsim/engine/network/Fate" (some 5) with
  accessFlags := 16433
  interfaces := #[]
  cf := some (fileOf pool6 1 #[] #[{ accessFlags := 9, nameIndex := 64, descriptorIndex := 63, attributes := #[] }] 16433 26 #[] #[{ accessFlags := 16409, nameIndex := 5, descriptorIndex := 6, attributes := #[] }, { accessFlags := 16409, nameIndex := 9, descriptorIndex := 6, attributes := #[] }, { accessFlags := 16409, nameIndex := 12, descriptorIndex := 6, attributes := #[] }, { accessFlags := 16409, nameIndex := 15, descriptorIndex := 6, attributes := #[] }, { accessFlags := 18, nameIndex := 53, descriptorIndex := 54, attributes := #[] }, { accessFlags := 4122, nameIndex := 18, descriptorIndex := 19, attributes := #[] }])
  fields := #[{ name := "DELIVERED", type := (.object "com/example/hqsim/hqsim/engine/network/Fate"), accessFlags := 16409, slot := 0, constantValue := 0 }, { name := "EXPIRED", type := (.object "com/example/hqsim/hqsim/engine/network/Fate"), accessFlags := 16409, slot := 1, constantValue := 0 }, { name := "LOST", type := (.object "com/example/hqsim/hqsim/engine/network/Fate"), accessFlags := 16409, slot := 2, constantValue := 0 }, { name := "DROPPED", type := (.object "com/example/hqsim/hqsim/engine/network/Fate"), accessFlags := 16409, slot := 3, constantValue := 0 }, { name := "metric", type := (.object "java/lang/String"), accessFlags := 18, slot := 3, constantValue := 0 }, { name := "$VALUES", type := (.array (.object "com/example/hqsim/hqsim/engine/network/Fate")), accessFlags := 4122, slot := 4, constantValue := 0 }]
  methods := #[k6m0]
  instanceTypes := #[(.object "java/lang/String"), .int, .int, (.object "java/lang/String")]
  staticTypes := #[(.object "com/example/hqsim/hqsim/engine/network/Fate"), (.object "com/example/hqsim/hqsim/engine/network/Fate"), (.object "com/example/hqsim/hqsim/engine/network/Fate"), (.object "com/example/hqsim/hqsim/engine/network/Fate"), (.array (.object "com/example/hqsim/hqsim/engine/network/Fate"))]
  resolved := Array.replicate 75 none
  statics := some 3 }

def pool7 : Array CpInfo := pool [(1, .methodref 2 3), (0, .class_ 4), (0, .nameAndType 5 6), (0, u "com/example/hqsim/hqsim/engine/kernel/EventBudget"), (0, u "<init>"), (0, u "(JJ)V"), (0, .methodref 8 9), (0, .class_ 10), (0, .nameAndType 5 11), (0, u "java/lang/Object"), (0, u "()V"), (0, .fieldref 2 13), (0, .nameAndType 14 15), (0, u "limit"), (0, u "J"), (0, .fieldref 2 17), (0, .nameAndType 18 19), (0, u "pool"), (0, u "Lcom/example/hqsim/hqsim/engine/kernel/EventBudget$Pool;"), (0, .fieldref 2 21), (0, .nameAndType 22 15), (0, u "allowed"), (0, .fieldref 2 24), (0, .nameAndType 25 15), (0, u "spent"), (3, u "(JD)V"), (1, .class_ 33), (1, u "com/example/hqsim/hqsim/engine/kernel/EventBudget$Pool"), (6, u "(J)V"), (4, u "spend"), (0, u "(D)V")] 6

def k7c0 : Code := { maxStack := 5, maxLocals := 3, code := prog_15_method_1_code, exceptionTable := #[], attributes := #[] }
def k7m0 : Method := { name := "<init>", desc := "(J)V", sig := { parameters := [.long], returnType := none }, accessFlags := 1, code := some k7c0 }
def k7c1 : Code := { maxStack := 3, maxLocals := 5, code := prog_15_method_2_code, exceptionTable := #[], attributes := #[] }
def k7m1 : Method := { name := "<init>", desc := "(JJ)V", sig := { parameters := [.long, .long], returnType := none }, accessFlags := 1, code := some k7c1 }
def k7c2 : Code := { maxStack := 5, maxLocals := 3, code := prog_15_method_5_code, exceptionTable := #[], attributes := #[] }
def k7m2 : Method := { name := "spend", desc := "(D)V", sig := { parameters := [.double], returnType := none }, accessFlags := 0, code := some k7c2 }
def k7c3 : Code := { maxStack := 6, maxLocals := 5, code := prog_15_method_6_code, exceptionTable := #[], attributes := #[] }
def k7m3 : Method := { name := "spend", desc := "(JD)V", sig := { parameters := [.long, .double], returnType := none }, accessFlags := 1, code := some k7c3 }
/-- com/example/hqsim/hqsim/engine/kernel/EventBudget -/
def k7 : Class := { plain "com/example/hqsim/hqsim/engine/kernel/EventBudget" (some 0) with
  accessFlags := 49
  interfaces := #[]
  cf := some (fileOf pool7 2 #[.nestMembers #[31]] #[{ accessFlags := 1, nameIndex := 5, descriptorIndex := 40, attributes := #[] }, { accessFlags := 1, nameIndex := 5, descriptorIndex := 6, attributes := #[] }, { accessFlags := 0, nameIndex := 45, descriptorIndex := 46, attributes := #[] }, { accessFlags := 1, nameIndex := 45, descriptorIndex := 29, attributes := #[] }] 49 8 #[] #[{ accessFlags := 18, nameIndex := 14, descriptorIndex := 15, attributes := #[] }, { accessFlags := 18, nameIndex := 18, descriptorIndex := 19, attributes := #[] }, { accessFlags := 2, nameIndex := 22, descriptorIndex := 15, attributes := #[] }, { accessFlags := 2, nameIndex := 25, descriptorIndex := 15, attributes := #[] }])
  fields := #[{ name := "limit", type := .long, accessFlags := 18, slot := 0, constantValue := 0 }, { name := "pool", type := (.object "com/example/hqsim/hqsim/engine/kernel/EventBudget$Pool"), accessFlags := 18, slot := 1, constantValue := 0 }, { name := "allowed", type := .long, accessFlags := 2, slot := 2, constantValue := 0 }, { name := "spent", type := .long, accessFlags := 2, slot := 3, constantValue := 0 }]
  methods := #[k7m0, k7m1, k7m2, k7m3]
  instanceTypes := #[.long, (.object "com/example/hqsim/hqsim/engine/kernel/EventBudget$Pool"), .long, .long]
  staticTypes := #[]
  resolved := Array.replicate 53 none
  statics := none }

def pool8 : Array CpInfo := pool [(1, .methodref 2 3), (0, .class_ 4), (0, .nameAndType 5 6), (0, u "com/example/hqsim/hqsim/engine/kernel/Simulation"), (0, u "<init>"), (0, u "(Lcom/example/hqsim/hqsim/engine/kernel/EventBudget;I)V"), (0, .methodref 8 9), (0, .class_ 10), (0, .nameAndType 5 11), (0, u "java/lang/Object"), (0, u "()V"), (0, .fieldref 2 13), (0, .nameAndType 14 15), (0, u "budget"), (0, u "Lcom/example/hqsim/hqsim/engine/kernel/EventBudget;"), (0, .class_ 17), (0, u "com/example/hqsim/hqsim/engine/kernel/PendingEvents"), (0, .methodref 16 19), (0, .nameAndType 5 20), (0, u "(I)V"), (0, .fieldref 2 22), (0, .nameAndType 23 24), (0, u "pending"), (0, u "Lcom/example/hqsim/hqsim/engine/kernel/PendingEvents;"), (0, .fieldref 2 26), (0, .nameAndType 27 28), (0, u "now"), (0, u "D"), (0, .class_ 30), (0, u "com/example/hqsim/hqsim/engine/kernel/Simulation$Action"), (6, u "(DLcom/example/hqsim/hqsim/engine/kernel/Event;)V"), (2, .double 9218868437227405312), (10, .methodref 2 52), (0, .nameAndType 53 37), (0, u "add"), (2, u "scheduleAt"), (3, .methodref 61 62), (0, .class_ 63), (0, .nameAndType 23 64), (0, u "com/example/hqsim/hqsim/engine/kernel/Event"), (0, u "()Z"), (6, .methodref 72 73), (0, .class_ 74), (0, .nameAndType 75 76), (0, u "com/example/hqsim/hqsim/engine/kernel/EventBudget"), (0, u "spend"), (0, u "(D)V"), (3, u "(Lcom/example/hqsim/hqsim/engine/kernel/Event;)V"), (0, .methodref 72 82), (0, .nameAndType 75 83), (0, u "(JD)V"), (0, .methodref 16 85), (0, .nameAndType 86 87), (0, u "size"), (0, u "()I"), (0, .methodref 16 89), (0, .nameAndType 90 91), (0, u "first"), (0, u "()Lcom/example/hqsim/hqsim/engine/kernel/Event;"), (0, .fieldref 61 93), (0, .nameAndType 94 28), (0, u "time"), (0, .methodref 16 96), (0, .nameAndType 97 80), (0, u "take"), (0, .methodref 61 99), (0, .nameAndType 100 11), (0, u "run"), (5, .fieldref 2 107), (0, .nameAndType 108 109), (0, u "scheduled"), (0, u "J"), (0, .fieldref 61 111), (0, .nameAndType 112 109), (0, u "sequence"), (0, .methodref 16 114), (0, .nameAndType 53 80), (0, u "(Lcom/example/hqsim/hqsim/engine/kernel/EventBudget;)V"), (2, u "()D"), (3, u "(J)V")] 21

def k8c0 : Code := { maxStack := 3, maxLocals := 2, code := prog_19_method_1_code, exceptionTable := #[], attributes := #[] }
def k8m0 : Method := { name := "<init>", desc := "(Lcom/example/hqsim/hqsim/engine/kernel/EventBudget;)V", sig := { parameters := [(.object "com/example/hqsim/hqsim/engine/kernel/EventBudget")], returnType := none }, accessFlags := 1, code := some k8c0 }
def k8c1 : Code := { maxStack := 4, maxLocals := 3, code := prog_19_method_2_code, exceptionTable := #[], attributes := #[] }
def k8m1 : Method := { name := "<init>", desc := "(Lcom/example/hqsim/hqsim/engine/kernel/EventBudget;I)V", sig := { parameters := [(.object "com/example/hqsim/hqsim/engine/kernel/EventBudget"), .int], returnType := none }, accessFlags := 1, code := some k8c1 }
def k8c2 : Code := { maxStack := 2, maxLocals := 1, code := prog_19_method_3_code, exceptionTable := #[], attributes := #[] }
def k8m2 : Method := { name := "now", desc := "()D", sig := { parameters := [], returnType := some .double }, accessFlags := 1, code := some k8c2 }
def k8c3 : Code := { maxStack := 6, maxLocals := 4, code := prog_19_method_7_code, exceptionTable := #[], attributes := #[] }
def k8m3 : Method := { name := "scheduleAt", desc := "(DLcom/example/hqsim/hqsim/engine/kernel/Event;)V", sig := { parameters := [.double, (.object "com/example/hqsim/hqsim/engine/kernel/Event")], returnType := none }, accessFlags := 1, code := some k8c3 }
def k8c4 : Code := { maxStack := 5, maxLocals := 3, code := prog_19_method_9_code, exceptionTable := #[], attributes := #[] }
def k8m4 : Method := { name := "spend", desc := "(J)V", sig := { parameters := [.long], returnType := none }, accessFlags := 1, code := some k8c4 }
def k8c5 : Code := { maxStack := 3, maxLocals := 2, code := prog_19_method_10_code, exceptionTable := #[], attributes := #[] }
def k8m5 : Method := { name := "run", desc := "()V", sig := { parameters := [], returnType := none }, accessFlags := 1, code := some k8c5 }
def k8c6 : Code := { maxStack := 8, maxLocals := 4, code := prog_19_method_11_code, exceptionTable := #[], attributes := #[] }
def k8m6 : Method := { name := "add", desc := "(DLcom/example/hqsim/hqsim/engine/kernel/Event;)V", sig := { parameters := [.double, (.object "com/example/hqsim/hqsim/engine/kernel/Event")], returnType := none }, accessFlags := 2, code := some k8c6 }
/-- com/example/hqsim/hqsim/engine/kernel/Simulation -/
def k8 : Class := { plain "com/example/hqsim/hqsim/engine/kernel/Simulation" (some 0) with
  accessFlags := 49
  interfaces := #[]
  cf := some (fileOf pool8 2 #[.nestMembers #[29]] #[{ accessFlags := 1, nameIndex := 5, descriptorIndex := 115, attributes := #[] }, { accessFlags := 1, nameIndex := 5, descriptorIndex := 6, attributes := #[] }, { accessFlags := 1, nameIndex := 27, descriptorIndex := 118, attributes := #[] }, { accessFlags := 1, nameIndex := 56, descriptorIndex := 37, attributes := #[] }, { accessFlags := 1, nameIndex := 75, descriptorIndex := 122, attributes := #[] }, { accessFlags := 1, nameIndex := 100, descriptorIndex := 11, attributes := #[] }, { accessFlags := 2, nameIndex := 53, descriptorIndex := 37, attributes := #[] }] 49 8 #[] #[{ accessFlags := 18, nameIndex := 14, descriptorIndex := 15, attributes := #[] }, { accessFlags := 18, nameIndex := 23, descriptorIndex := 24, attributes := #[] }, { accessFlags := 2, nameIndex := 27, descriptorIndex := 28, attributes := #[] }, { accessFlags := 2, nameIndex := 108, descriptorIndex := 109, attributes := #[] }])
  fields := #[{ name := "budget", type := (.object "com/example/hqsim/hqsim/engine/kernel/EventBudget"), accessFlags := 18, slot := 0, constantValue := 0 }, { name := "pending", type := (.object "com/example/hqsim/hqsim/engine/kernel/PendingEvents"), accessFlags := 18, slot := 1, constantValue := 0 }, { name := "now", type := .double, accessFlags := 2, slot := 2, constantValue := 0 }, { name := "scheduled", type := .long, accessFlags := 2, slot := 3, constantValue := 0 }]
  methods := #[k8m0, k8m1, k8m2, k8m3, k8m4, k8m5, k8m6]
  instanceTypes := #[(.object "com/example/hqsim/hqsim/engine/kernel/EventBudget"), (.object "com/example/hqsim/hqsim/engine/kernel/PendingEvents"), .double, .long]
  staticTypes := #[]
  resolved := Array.replicate 144 none
  statics := none }

def pool9 : Array CpInfo := pool [(1, .methodref 2 3), (0, .class_ 4), (0, .nameAndType 5 6), (0, u "java/lang/Object"), (0, u "<init>"), (0, u "()V"), (0, .class_ 8), (0, u "com/example/hqsim/hqsim/engine/kernel/PendingEvents"), (0, .class_ 10), (0, u "com/example/hqsim/hqsim/engine/kernel/Event"), (0, .fieldref 7 12), (0, .nameAndType 13 14), (0, u "heap"), (0, u "[Lcom/example/hqsim/hqsim/engine/kernel/Event;"), (0, .fieldref 7 16), (0, .nameAndType 17 18), (0, u "daysPerSecond"), (0, u "D"), (3, u "(I)V"), (0, .fieldref 7 24), (0, .nameAndType 25 26), (0, u "size"), (0, u "I"), (0, .methodref 7 28), (0, .nameAndType 29 30), (0, u "siftUp"), (0, u "(ILcom/example/hqsim/hqsim/engine/kernel/Event;)V"), (3, u "(Lcom/example/hqsim/hqsim/engine/kernel/Event;)V"), (0, .fieldref 7 36), (0, .nameAndType 37 26), (0, u "operations"), (3, .fieldref 7 42), (0, .nameAndType 43 14), (0, u "firsts"), (0, .fieldref 7 45), (0, .nameAndType 46 47), (0, u "day"), (0, u "J"), (0, .fieldref 9 49), (0, .nameAndType 50 47), (0, u "place"), (0, .fieldref 7 52), (0, .nameAndType 53 47), (0, u "steps"), (0, .methodref 7 55), (0, .nameAndType 56 57), (0, u "before"), (0, u "(Lcom/example/hqsim/hqsim/engine/kernel/Event;Lcom/example/hqsim/hqsim/engine/kernel/Event;)Z"), (0, .fieldref 9 59), (0, .nameAndType 60 18), (0, u "time"), (0, .fieldref 7 62), (0, .nameAndType 63 18), (0, u "floor"), (3, .long 18446744073709551615), (1, .methodref 7 70), (0, .nameAndType 71 30), (0, u "siftDown"), (9, u "growAbove"), (2, u "shrinkBelow"), (2, u "weighAbove"), (5, .methodref 7 94), (0, .nameAndType 50 95), (0, u "(Lcom/example/hqsim/hqsim/engine/kernel/Event;I)V"), (2, u "lasts"), (46, .fieldref 9 146), (0, .nameAndType 147 47), (0, u "sequence"), (0, u "CALENDAR_ABOVE"), (2, u "FEWEST_BUCKETS"), (1, u "FEWEST_BUCKETS_PER_EVENT"), (1, u "MOST_BUCKETS_PER_EVENT"), (1, u "SAMPLE"), (1, u "STEPS_PER_EVENT"), (4, u "()I"), (0, u "add"), (0, u "first"), (0, u "()Lcom/example/hqsim/hqsim/engine/kernel/Event;"), (1, u "take")] 26

def k9c0 : Code := { maxStack := 3, maxLocals := 2, code := prog_18_method_1_code, exceptionTable := #[], attributes := #[] }
def k9m0 : Method := { name := "<init>", desc := "(I)V", sig := { parameters := [.int], returnType := none }, accessFlags := 0, code := some k9c0 }
def k9c1 : Code := { maxStack := 1, maxLocals := 1, code := prog_18_method_2_code, exceptionTable := #[], attributes := #[] }
def k9m1 : Method := { name := "size", desc := "()I", sig := { parameters := [], returnType := some .int }, accessFlags := 0, code := some k9c1 }
def k9c2 : Code := { maxStack := 3, maxLocals := 2, code := prog_18_method_3_code, exceptionTable := #[], attributes := #[] }
def k9m2 : Method := { name := "add", desc := "(Lcom/example/hqsim/hqsim/engine/kernel/Event;)V", sig := { parameters := [(.object "com/example/hqsim/hqsim/engine/kernel/Event")], returnType := none }, accessFlags := 0, code := some k9c2 }
def k9c3 : Code := { maxStack := 5, maxLocals := 7, code := prog_18_method_4_code, exceptionTable := #[], attributes := #[] }
def k9m3 : Method := { name := "first", desc := "()Lcom/example/hqsim/hqsim/engine/kernel/Event;", sig := { parameters := [], returnType := some (.object "com/example/hqsim/hqsim/engine/kernel/Event") }, accessFlags := 0, code := some k9c3 }
def k9c4 : Code := { maxStack := 3, maxLocals := 3, code := prog_18_method_5_code, exceptionTable := #[], attributes := #[] }
def k9m4 : Method := { name := "take", desc := "(Lcom/example/hqsim/hqsim/engine/kernel/Event;)V", sig := { parameters := [(.object "com/example/hqsim/hqsim/engine/kernel/Event")], returnType := none }, accessFlags := 0, code := some k9c4 }
def k9c5 : Code := { maxStack := 3, maxLocals := 5, code := prog_18_method_10_code, exceptionTable := #[], attributes := #[] }
def k9m5 : Method := { name := "siftUp", desc := "(ILcom/example/hqsim/hqsim/engine/kernel/Event;)V", sig := { parameters := [.int, (.object "com/example/hqsim/hqsim/engine/kernel/Event")], returnType := none }, accessFlags := 2, code := some k9c5 }
def k9c6 : Code := { maxStack := 3, maxLocals := 6, code := prog_18_method_11_code, exceptionTable := #[], attributes := #[] }
def k9m6 : Method := { name := "siftDown", desc := "(ILcom/example/hqsim/hqsim/engine/kernel/Event;)V", sig := { parameters := [.int, (.object "com/example/hqsim/hqsim/engine/kernel/Event")], returnType := none }, accessFlags := 2, code := some k9c6 }
def k9c7 : Code := { maxStack := 3, maxLocals := 3, code := prog_18_method_12_code, exceptionTable := #[], attributes := #[] }
def k9m7 : Method := { name := "place", desc := "(Lcom/example/hqsim/hqsim/engine/kernel/Event;I)V", sig := { parameters := [(.object "com/example/hqsim/hqsim/engine/kernel/Event"), .int], returnType := none }, accessFlags := 2, code := some k9c7 }
def k9c8 : Code := { maxStack := 4, maxLocals := 2, code := prog_18_method_17_code, exceptionTable := #[], attributes := #[] }
def k9m8 : Method := { name := "before", desc := "(Lcom/example/hqsim/hqsim/engine/kernel/Event;Lcom/example/hqsim/hqsim/engine/kernel/Event;)Z", sig := { parameters := [(.object "com/example/hqsim/hqsim/engine/kernel/Event"), (.object "com/example/hqsim/hqsim/engine/kernel/Event")], returnType := some .boolean }, accessFlags := 10, code := some k9c8 }
/-- com/example/hqsim/hqsim/engine/kernel/PendingEvents -/
def k9 : Class := { plain "com/example/hqsim/hqsim/engine/kernel/PendingEvents" (some 0) with
  accessFlags := 48
  interfaces := #[]
  cf := some (fileOf pool9 7 #[] #[{ accessFlags := 0, nameIndex := 5, descriptorIndex := 22, attributes := #[] }, { accessFlags := 0, nameIndex := 25, descriptorIndex := 164, attributes := #[] }, { accessFlags := 0, nameIndex := 165, descriptorIndex := 34, attributes := #[] }, { accessFlags := 0, nameIndex := 166, descriptorIndex := 167, attributes := #[] }, { accessFlags := 0, nameIndex := 169, descriptorIndex := 34, attributes := #[] }, { accessFlags := 2, nameIndex := 29, descriptorIndex := 30, attributes := #[] }, { accessFlags := 2, nameIndex := 71, descriptorIndex := 30, attributes := #[] }, { accessFlags := 2, nameIndex := 50, descriptorIndex := 95, attributes := #[] }, { accessFlags := 10, nameIndex := 56, descriptorIndex := 57, attributes := #[] }] 48 2 #[] #[{ accessFlags := 26, nameIndex := 148, descriptorIndex := 26, attributes := #[] }, { accessFlags := 26, nameIndex := 151, descriptorIndex := 26, attributes := #[] }, { accessFlags := 26, nameIndex := 153, descriptorIndex := 26, attributes := #[] }, { accessFlags := 26, nameIndex := 155, descriptorIndex := 26, attributes := #[] }, { accessFlags := 26, nameIndex := 157, descriptorIndex := 26, attributes := #[] }, { accessFlags := 26, nameIndex := 159, descriptorIndex := 26, attributes := #[] }, { accessFlags := 2, nameIndex := 25, descriptorIndex := 26, attributes := #[] }, { accessFlags := 2, nameIndex := 63, descriptorIndex := 18, attributes := #[] }, { accessFlags := 2, nameIndex := 13, descriptorIndex := 14, attributes := #[] }, { accessFlags := 2, nameIndex := 43, descriptorIndex := 14, attributes := #[] }, { accessFlags := 2, nameIndex := 98, descriptorIndex := 14, attributes := #[] }, { accessFlags := 2, nameIndex := 17, descriptorIndex := 18, attributes := #[] }, { accessFlags := 2, nameIndex := 81, descriptorIndex := 26, attributes := #[] }, { accessFlags := 2, nameIndex := 84, descriptorIndex := 26, attributes := #[] }, { accessFlags := 2, nameIndex := 46, descriptorIndex := 47, attributes := #[] }, { accessFlags := 2, nameIndex := 53, descriptorIndex := 47, attributes := #[] }, { accessFlags := 2, nameIndex := 37, descriptorIndex := 26, attributes := #[] }, { accessFlags := 2, nameIndex := 87, descriptorIndex := 26, attributes := #[] }])
  fields := #[{ name := "CALENDAR_ABOVE", type := .int, accessFlags := 26, slot := 0, constantValue := 0 }, { name := "FEWEST_BUCKETS", type := .int, accessFlags := 26, slot := 1, constantValue := 0 }, { name := "FEWEST_BUCKETS_PER_EVENT", type := .int, accessFlags := 26, slot := 2, constantValue := 0 }, { name := "MOST_BUCKETS_PER_EVENT", type := .int, accessFlags := 26, slot := 3, constantValue := 0 }, { name := "SAMPLE", type := .int, accessFlags := 26, slot := 4, constantValue := 0 }, { name := "STEPS_PER_EVENT", type := .int, accessFlags := 26, slot := 5, constantValue := 0 }, { name := "size", type := .int, accessFlags := 2, slot := 0, constantValue := 0 }, { name := "floor", type := .double, accessFlags := 2, slot := 1, constantValue := 0 }, { name := "heap", type := (.array (.object "com/example/hqsim/hqsim/engine/kernel/Event")), accessFlags := 2, slot := 2, constantValue := 0 }, { name := "firsts", type := (.array (.object "com/example/hqsim/hqsim/engine/kernel/Event")), accessFlags := 2, slot := 3, constantValue := 0 }, { name := "lasts", type := (.array (.object "com/example/hqsim/hqsim/engine/kernel/Event")), accessFlags := 2, slot := 4, constantValue := 0 }, { name := "daysPerSecond", type := .double, accessFlags := 2, slot := 5, constantValue := 0 }, { name := "growAbove", type := .int, accessFlags := 2, slot := 6, constantValue := 0 }, { name := "shrinkBelow", type := .int, accessFlags := 2, slot := 7, constantValue := 0 }, { name := "day", type := .long, accessFlags := 2, slot := 8, constantValue := 0 }, { name := "steps", type := .long, accessFlags := 2, slot := 9, constantValue := 0 }, { name := "operations", type := .int, accessFlags := 2, slot := 10, constantValue := 0 }, { name := "weighAbove", type := .int, accessFlags := 2, slot := 11, constantValue := 0 }]
  methods := #[k9m0, k9m1, k9m2, k9m3, k9m4, k9m5, k9m6, k9m7, k9m8]
  instanceTypes := #[.int, .double, (.array (.object "com/example/hqsim/hqsim/engine/kernel/Event")), (.array (.object "com/example/hqsim/hqsim/engine/kernel/Event")), (.array (.object "com/example/hqsim/hqsim/engine/kernel/Event")), .double, .int, .int, .long, .long, .int, .int]
  staticTypes := #[.int, .int, .int, .int, .int, .int]
  resolved := Array.replicate 196 none
  statics := none }

def pool10 : Array CpInfo := pool [(1, .methodref 2 3), (0, .class_ 4), (0, .nameAndType 5 6), (0, u "java/lang/Object"), (0, u "<init>"), (0, u "()V"), (0, .class_ 8), (0, u "com/example/hqsim/hqsim/engine/kernel/Event"), (0, .long 18446744073709551615), (1, .fieldref 7 12), (0, .nameAndType 13 14), (0, u "place"), (0, u "J"), (2, u "time"), (0, u "D"), (0, u "NOT_PENDING"), (1, u "sequence"), (0, u "earlier"), (0, u "Lcom/example/hqsim/hqsim/engine/kernel/Event;"), (0, u "later"), (3, u "pending"), (0, u "()Z"), (1, u "run")] 2

def k10c0 : Code := { maxStack := 3, maxLocals := 1, code := prog_14_method_1_code, exceptionTable := #[], attributes := #[] }
def k10m0 : Method := { name := "<init>", desc := "()V", sig := { parameters := [], returnType := none }, accessFlags := 1, code := some k10c0 }
def k10c1 : Code := { maxStack := 4, maxLocals := 1, code := prog_14_method_3_code, exceptionTable := #[], attributes := #[] }
def k10m1 : Method := { name := "pending", desc := "()Z", sig := { parameters := [], returnType := some .boolean }, accessFlags := 17, code := some k10c1 }
def k10m2 : Method := { name := "run", desc := "()V", sig := { parameters := [], returnType := none }, accessFlags := 1028, code := none }
/-- com/example/hqsim/hqsim/engine/kernel/Event -/
def k10 : Class := { plain "com/example/hqsim/hqsim/engine/kernel/Event" (some 0) with
  accessFlags := 1057
  interfaces := #[]
  cf := some (fileOf pool10 7 #[] #[{ accessFlags := 1, nameIndex := 5, descriptorIndex := 6, attributes := #[] }, { accessFlags := 17, nameIndex := 28, descriptorIndex := 29, attributes := #[] }, { accessFlags := 1028, nameIndex := 31, descriptorIndex := 6, attributes := #[] }] 1057 2 #[] #[{ accessFlags := 24, nameIndex := 19, descriptorIndex := 14, attributes := #[] }, { accessFlags := 0, nameIndex := 17, descriptorIndex := 18, attributes := #[] }, { accessFlags := 0, nameIndex := 21, descriptorIndex := 14, attributes := #[] }, { accessFlags := 0, nameIndex := 13, descriptorIndex := 14, attributes := #[] }, { accessFlags := 0, nameIndex := 22, descriptorIndex := 23, attributes := #[] }, { accessFlags := 0, nameIndex := 24, descriptorIndex := 23, attributes := #[] }])
  fields := #[{ name := "NOT_PENDING", type := .long, accessFlags := 24, slot := 0, constantValue := 0 }, { name := "time", type := .double, accessFlags := 0, slot := 0, constantValue := 0 }, { name := "sequence", type := .long, accessFlags := 0, slot := 1, constantValue := 0 }, { name := "place", type := .long, accessFlags := 0, slot := 2, constantValue := 0 }, { name := "earlier", type := (.object "com/example/hqsim/hqsim/engine/kernel/Event"), accessFlags := 0, slot := 3, constantValue := 0 }, { name := "later", type := (.object "com/example/hqsim/hqsim/engine/kernel/Event"), accessFlags := 0, slot := 4, constantValue := 0 }]
  methods := #[k10m0, k10m1, k10m2]
  instanceTypes := #[.double, .long, .long, (.object "com/example/hqsim/hqsim/engine/kernel/Event"), (.object "com/example/hqsim/hqsim/engine/kernel/Event")]
  staticTypes := #[.long]
  resolved := Array.replicate 34 none
  statics := none }

def pool11 : Array CpInfo := pool [(1, .methodref 2 3), (0, .class_ 4), (0, .nameAndType 5 6), (0, u "java/lang/Object"), (0, u "<init>"), (0, u "()V"), (0, .methodref 8 9), (0, .class_ 10), (0, .nameAndType 11 12), (0, u "com/example/hqsim/hqsim/engine/statistics/MeasurementWindow"), (0, u "start"), (0, u "()D"), (0, .class_ 14), (0, u "com/example/hqsim/hqsim/engine/network/Measurement$Edge"), (0, .methodref 13 16), (0, .nameAndType 5 17), (0, u "(Lcom/example/hqsim/hqsim/engine/network/Measurement;J)V"), (0, .methodref 19 20), (0, .class_ 21), (0, .nameAndType 22 23), (0, u "com/example/hqsim/hqsim/engine/kernel/Simulation"), (0, u "scheduleAt"), (0, u "(DLcom/example/hqsim/hqsim/engine/kernel/Event;)V"), (0, .methodref 8 25), (0, .nameAndType 26 12), (0, u "end"), (0, .methodref 28 29), (0, .class_ 30), (0, .nameAndType 31 32), (0, u "java/lang/Math"), (0, u "nextUp"), (0, u "(D)D"), (0, .fieldref 34 35), (0, .class_ 36), (0, .nameAndType 37 38), (0, u "com/example/hqsim/hqsim/engine/network/Measurement"), (0, u "inside"), (0, u "J"), (0, .fieldref 34 40), (0, .nameAndType 41 38), (0, u "begun"), (0, u "(Lcom/example/hqsim/hqsim/engine/kernel/Simulation;Lcom/example/hqsim/hqsim/engine/statistics/MeasurementWindow;)V"), (2, u "()J")] 5

def k11c0 : Code := { maxStack := 8, maxLocals := 3, code := prog_38_method_1_code, exceptionTable := #[], attributes := #[] }
def k11m0 : Method := { name := "<init>", desc := "(Lcom/example/hqsim/hqsim/engine/kernel/Simulation;Lcom/example/hqsim/hqsim/engine/statistics/MeasurementWindow;)V", sig := { parameters := [(.object "com/example/hqsim/hqsim/engine/kernel/Simulation"), (.object "com/example/hqsim/hqsim/engine/statistics/MeasurementWindow")], returnType := none }, accessFlags := 0, code := some k11c0 }
def k11c1 : Code := { maxStack := 2, maxLocals := 1, code := prog_38_method_2_code, exceptionTable := #[], attributes := #[] }
def k11m1 : Method := { name := "inside", desc := "()J", sig := { parameters := [], returnType := some .long }, accessFlags := 1, code := some k11c1 }
def k11c2 : Code := { maxStack := 2, maxLocals := 1, code := prog_38_method_3_code, exceptionTable := #[], attributes := #[] }
def k11m2 : Method := { name := "begun", desc := "()J", sig := { parameters := [], returnType := some .long }, accessFlags := 1, code := some k11c2 }
/-- com/example/hqsim/hqsim/engine/network/Measurement -/
def k11 : Class := { plain "com/example/hqsim/hqsim/engine/network/Measurement" (some 0) with
  accessFlags := 49
  interfaces := #[]
  cf := some (fileOf pool11 34 #[.nestMembers #[13]] #[{ accessFlags := 0, nameIndex := 5, descriptorIndex := 42, attributes := #[] }, { accessFlags := 1, nameIndex := 37, descriptorIndex := 45, attributes := #[] }, { accessFlags := 1, nameIndex := 41, descriptorIndex := 45, attributes := #[] }] 49 2 #[] #[{ accessFlags := 2, nameIndex := 37, descriptorIndex := 38, attributes := #[] }, { accessFlags := 2, nameIndex := 41, descriptorIndex := 38, attributes := #[] }])
  fields := #[{ name := "inside", type := .long, accessFlags := 2, slot := 0, constantValue := 0 }, { name := "begun", type := .long, accessFlags := 2, slot := 1, constantValue := 0 }]
  methods := #[k11m0, k11m1, k11m2]
  instanceTypes := #[.long, .long]
  staticTypes := #[]
  resolved := ((Array.replicate 51 none).setIfInBounds 13 (some (.cls 14))).setIfInBounds 15 (some (.method ⟨14, 0⟩))
  statics := none }

def pool12 : Array CpInfo := pool [(1, .methodref 2 3), (0, .class_ 4), (0, .nameAndType 5 6), (0, u "java/lang/Object"), (0, u "<init>"), (0, u "()V"), (0, .class_ 8), (0, u "java/lang/Record")] 13

def k12c0 : Code := { maxStack := 1, maxLocals := 1, code := jdk_30_method_1_code, exceptionTable := #[], attributes := #[] }
def k12m0 : Method := { name := "<init>", desc := "()V", sig := { parameters := [], returnType := none }, accessFlags := 4, code := some k12c0 }
/-- java/lang/Record -/
def k12 : Class := { plain "java/lang/Record" (some 0) with
  accessFlags := 1057
  interfaces := #[]
  cf := some (fileOf pool12 7 #[] #[{ accessFlags := 4, nameIndex := 5, descriptorIndex := 6, attributes := #[] }] 1057 2 #[] #[])
  fields := #[]
  methods := #[k12m0]
  instanceTypes := #[]
  staticTypes := #[]
  resolved := Array.replicate 22 none
  statics := none }

def pool13 : Array CpInfo := pool [(1, .methodref 2 3), (0, .class_ 4), (0, .nameAndType 5 6), (0, u "java/lang/Record"), (0, u "<init>"), (0, u "()V"), (0, .fieldref 8 9), (0, .class_ 10), (0, .nameAndType 11 12), (0, u "com/example/hqsim/hqsim/engine/statistics/MeasurementWindow"), (0, u "start"), (0, u "D"), (0, .fieldref 8 14), (0, .nameAndType 15 12), (0, u "end"), (21, u "(DD)V"), (4, u "()D")] 25

def k13c0 : Code := { maxStack := 3, maxLocals := 5, code := prog_53_method_1_code, exceptionTable := #[], attributes := #[] }
def k13m0 : Method := { name := "<init>", desc := "(DD)V", sig := { parameters := [.double, .double], returnType := none }, accessFlags := 1, code := some k13c0 }
def k13c1 : Code := { maxStack := 2, maxLocals := 1, code := prog_53_method_7_code, exceptionTable := #[], attributes := #[] }
def k13m1 : Method := { name := "start", desc := "()D", sig := { parameters := [], returnType := some .double }, accessFlags := 1, code := some k13c1 }
def k13c2 : Code := { maxStack := 2, maxLocals := 1, code := prog_53_method_8_code, exceptionTable := #[], attributes := #[] }
def k13m2 : Method := { name := "end", desc := "()D", sig := { parameters := [], returnType := some .double }, accessFlags := 1, code := some k13c2 }
/-- com/example/hqsim/hqsim/engine/statistics/MeasurementWindow -/
def k13 : Class := { plain "com/example/hqsim/hqsim/engine/statistics/MeasurementWindow" (some 12) with
  accessFlags := 49
  interfaces := #[]
  cf := some (fileOf pool13 8 #[] #[{ accessFlags := 1, nameIndex := 5, descriptorIndex := 37, attributes := #[] }, { accessFlags := 1, nameIndex := 11, descriptorIndex := 42, attributes := #[] }, { accessFlags := 1, nameIndex := 15, descriptorIndex := 42, attributes := #[] }] 49 2 #[] #[{ accessFlags := 18, nameIndex := 11, descriptorIndex := 12, attributes := #[] }, { accessFlags := 18, nameIndex := 15, descriptorIndex := 12, attributes := #[] }])
  fields := #[{ name := "start", type := .double, accessFlags := 18, slot := 0, constantValue := 0 }, { name := "end", type := .double, accessFlags := 18, slot := 1, constantValue := 0 }]
  methods := #[k13m0, k13m1, k13m2]
  instanceTypes := #[.double, .double]
  staticTypes := #[]
  resolved := Array.replicate 68 none
  statics := none }

def pool14 : Array CpInfo := pool [(1, .fieldref 2 3), (0, .class_ 4), (0, .nameAndType 5 6), (0, u "com/example/hqsim/hqsim/engine/network/Measurement$Edge"), (0, u "this$0"), (0, u "Lcom/example/hqsim/hqsim/engine/network/Measurement;"), (0, .methodref 8 9), (0, .class_ 10), (0, .nameAndType 11 12), (0, u "com/example/hqsim/hqsim/engine/kernel/Event"), (0, u "<init>"), (0, u "()V"), (0, .fieldref 2 14), (0, .nameAndType 15 16), (0, u "insideAfter"), (0, u "J"), (0, .fieldref 18 19), (0, .class_ 20), (0, .nameAndType 21 16), (0, u "com/example/hqsim/hqsim/engine/network/Measurement"), (0, u "inside"), (0, .fieldref 18 23), (0, .nameAndType 24 16), (0, u "begun"), (0, u "(Lcom/example/hqsim/hqsim/engine/network/Measurement;J)V"), (3, u "run")] 5

def k14c0 : Code := { maxStack := 3, maxLocals := 4, code := prog_39_method_1_code, exceptionTable := #[], attributes := #[] }
def k14m0 : Method := { name := "<init>", desc := "(Lcom/example/hqsim/hqsim/engine/network/Measurement;J)V", sig := { parameters := [(.object "com/example/hqsim/hqsim/engine/network/Measurement"), .long], returnType := none }, accessFlags := 2, code := some k14c0 }
def k14c1 : Code := { maxStack := 3, maxLocals := 1, code := prog_39_method_2_code, exceptionTable := #[], attributes := #[] }
def k14m1 : Method := { name := "run", desc := "()V", sig := { parameters := [], returnType := none }, accessFlags := 4, code := some k14c1 }
/-- com/example/hqsim/hqsim/engine/network/Measurement$Edge -/
def k14 : Class := { plain "com/example/hqsim/hqsim/engine/network/Measurement$Edge" (some 10) with
  accessFlags := 48
  interfaces := #[]
  cf := some (fileOf pool14 2 #[.nestHost 18] #[{ accessFlags := 2, nameIndex := 11, descriptorIndex := 25, attributes := #[] }, { accessFlags := 4, nameIndex := 29, descriptorIndex := 12, attributes := #[] }] 48 8 #[] #[{ accessFlags := 18, nameIndex := 15, descriptorIndex := 16, attributes := #[] }, { accessFlags := 4112, nameIndex := 5, descriptorIndex := 6, attributes := #[] }])
  fields := #[{ name := "insideAfter", type := .long, accessFlags := 18, slot := 5, constantValue := 0 }, { name := "this$0", type := (.object "com/example/hqsim/hqsim/engine/network/Measurement"), accessFlags := 4112, slot := 6, constantValue := 0 }]
  methods := #[k14m0, k14m1]
  instanceTypes := #[.double, .long, .long, (.object "com/example/hqsim/hqsim/engine/kernel/Event"), (.object "com/example/hqsim/hqsim/engine/kernel/Event"), .long, (.object "com/example/hqsim/hqsim/engine/network/Measurement")]
  staticTypes := #[]
  resolved := Array.replicate 35 none
  statics := none }

def pool15 : Array CpInfo := pool [(1, .class_ 2), (0, u "java/lang/Math"), (1, .class_ 6), (1, u "java/lang/Object"), (0, u "<init>"), (0, u "()V"), (5, u "(D)D"), (64, .methodref 80 81), (0, .class_ 82), (0, .nameAndType 83 84), (0, u "java/lang/Double"), (0, u "doubleToRawLongBits"), (0, u "(D)J"), (13, .class_ 100), (1, u "java/lang/Math$RandomNumberGeneratorHolder"), (65, .methodref 80 167), (0, .nameAndType 168 169), (0, u "longBitsToDouble"), (0, u "(J)D"), (2, u "negativeZeroFloatBits"), (0, u "J"), (2, u "negativeZeroDoubleBits"), (68, u "$assertionsDisabled"), (0, u "Z"), (80, .double 9218868437227405312), (10, u "twoToTheDoubleScaleDown"), (0, u "D"), (4, u "twoToTheDoubleScaleUp"), (9, u "E"), (3, u "PI"), (2, u "TAU"), (2, u "DEGREES_TO_RADIANS"), (0, u "RADIANS_TO_DEGREES"), (77, u "nextUp")] 16

def k15m0 : Method := { name := "<init>", desc := "()V", sig := { parameters := [], returnType := none }, accessFlags := 2, code := none }
def k15c1 : Code := { maxStack := 6, maxLocals := 4, code := jdk_29_method_95_code, exceptionTable := #[], attributes := #[] }
def k15m1 : Method := { name := "nextUp", desc := "(D)D", sig := { parameters := [.double], returnType := some .double }, accessFlags := 9, code := some k15c1 }
/-- java/lang/Math -/
def k15 : Class := { plain "java/lang/Math" (some 0) with
  accessFlags := 49
  interfaces := #[]
  cf := some (fileOf pool15 1 #[.nestMembers #[98]] #[{ accessFlags := 2, nameIndex := 7, descriptorIndex := 8, attributes := #[] }, { accessFlags := 9, nameIndex := 443, descriptorIndex := 14, attributes := #[] }] 49 4 #[] #[{ accessFlags := 25, nameIndex := 354, descriptorIndex := 339, attributes := #[] }, { accessFlags := 25, nameIndex := 358, descriptorIndex := 339, attributes := #[] }, { accessFlags := 25, nameIndex := 361, descriptorIndex := 339, attributes := #[] }, { accessFlags := 26, nameIndex := 364, descriptorIndex := 339, attributes := #[] }, { accessFlags := 26, nameIndex := 365, descriptorIndex := 339, attributes := #[] }, { accessFlags := 26, nameIndex := 172, descriptorIndex := 173, attributes := #[] }, { accessFlags := 26, nameIndex := 176, descriptorIndex := 173, attributes := #[] }, { accessFlags := 8, nameIndex := 344, descriptorIndex := 339, attributes := #[] }, { accessFlags := 8, nameIndex := 338, descriptorIndex := 339, attributes := #[] }, { accessFlags := 4120, nameIndex := 245, descriptorIndex := 246, attributes := #[] }])
  fields := #[{ name := "E", type := .double, accessFlags := 25, slot := 0, constantValue := 0 }, { name := "PI", type := .double, accessFlags := 25, slot := 1, constantValue := 0 }, { name := "TAU", type := .double, accessFlags := 25, slot := 2, constantValue := 0 }, { name := "DEGREES_TO_RADIANS", type := .double, accessFlags := 26, slot := 3, constantValue := 0 }, { name := "RADIANS_TO_DEGREES", type := .double, accessFlags := 26, slot := 4, constantValue := 0 }, { name := "negativeZeroFloatBits", type := .long, accessFlags := 26, slot := 5, constantValue := 0 }, { name := "negativeZeroDoubleBits", type := .long, accessFlags := 26, slot := 6, constantValue := 0 }, { name := "twoToTheDoubleScaleUp", type := .double, accessFlags := 8, slot := 7, constantValue := 0 }, { name := "twoToTheDoubleScaleDown", type := .double, accessFlags := 8, slot := 8, constantValue := 0 }, { name := "$assertionsDisabled", type := .boolean, accessFlags := 4120, slot := 9, constantValue := 0 }]
  methods := #[k15m0, k15m1]
  instanceTypes := #[]
  staticTypes := #[.double, .double, .double, .double, .double, .long, .long, .double, .double, .boolean]
  resolved := Array.replicate 460 none
  statics := none }

def pool16 : Array CpInfo := pool [(2, .class_ 4), (1, u "java/lang/Object"), (0, u "<init>"), (0, u "()V"), (1, .class_ 10), (1, u "java/lang/Number"), (2, .class_ 14), (0, u "java/io/Serializable"), (0, u "serialVersionUID"), (0, u "J")] 20

def k16m0 : Method := { name := "<init>", desc := "()V", sig := { parameters := [], returnType := none }, accessFlags := 1, code := none }
/-- java/lang/Number -/
def k16 : Class := { plain "java/lang/Number" (some 0) with
  accessFlags := 1057
  interfaces := #[4]
  cf := some (fileOf pool16 8 #[] #[{ accessFlags := 1, nameIndex := 5, descriptorIndex := 6, attributes := #[] }] 1057 2 #[13] #[{ accessFlags := 26, nameIndex := 15, descriptorIndex := 16, attributes := #[] }])
  fields := #[{ name := "serialVersionUID", type := .long, accessFlags := 26, slot := 0, constantValue := 0 }]
  methods := #[k16m0]
  instanceTypes := #[]
  staticTypes := #[.long]
  resolved := Array.replicate 37 none
  statics := none }

def pool17 : Array CpInfo := pool [(1, .class_ 2), (0, u "java/lang/constant/ConstantDesc"), (0, .class_ 4), (0, u "java/lang/Object")] 32

/-- java/lang/constant/ConstantDesc -/
def k17 : Class := { plain "java/lang/constant/ConstantDesc" (some 0) with
  accessFlags := 1537
  interfaces := #[]
  cf := some (fileOf pool17 1 #[] #[] 1537 3 #[] #[])
  fields := #[]
  methods := #[]
  instanceTypes := #[]
  staticTypes := #[]
  resolved := Array.replicate 37 none
  statics := none }

def pool18 : Array CpInfo := pool [(1, .class_ 2), (0, u "java/lang/Double"), (46, u "(D)J"), (64, .class_ 116), (1, u "java/lang/Number"), (3, u "value"), (0, u "D"), (14, u "doubleToRawLongBits"), (36, u "TYPE"), (0, u "Ljava/lang/Class;"), (0, .class_ 176), (0, u "java/lang/Comparable"), (0, .class_ 178), (0, u "java/lang/constant/Constable"), (0, .class_ 180), (0, u "java/lang/constant/ConstantDesc"), (0, u "POSITIVE_INFINITY"), (3, u "NEGATIVE_INFINITY"), (2, u "NaN"), (2, u "MAX_VALUE"), (0, u "MIN_NORMAL"), (0, u "MIN_VALUE"), (2, u "SIZE"), (0, u "I"), (1, u "PRECISION"), (1, u "MAX_EXPONENT"), (1, u "MIN_EXPONENT"), (1, u "BYTES"), (3, u "serialVersionUID"), (0, u "J"), (48, u "longBitsToDouble"), (0, u "(J)D")] 29

def k18m0 : Method := { name := "doubleToRawLongBits", desc := "(D)J", sig := { parameters := [.double], returnType := some .long }, accessFlags := 265, code := none }
def k18m1 : Method := { name := "longBitsToDouble", desc := "(J)D", sig := { parameters := [.long], returnType := some .double }, accessFlags := 265, code := none }
/-- java/lang/Double -/
def k18 : Class := { plain "java/lang/Double" (some 16) with
  accessFlags := 49
  interfaces := #[3, 2, 17]
  cf := some (fileOf pool18 1 #[] #[{ accessFlags := 265, nameIndex := 136, descriptorIndex := 49, attributes := #[] }, { accessFlags := 265, nameIndex := 259, descriptorIndex := 260, attributes := #[] }] 49 114 #[175, 177, 179] #[{ accessFlags := 25, nameIndex := 181, descriptorIndex := 121, attributes := #[] }, { accessFlags := 25, nameIndex := 185, descriptorIndex := 121, attributes := #[] }, { accessFlags := 25, nameIndex := 188, descriptorIndex := 121, attributes := #[] }, { accessFlags := 25, nameIndex := 191, descriptorIndex := 121, attributes := #[] }, { accessFlags := 25, nameIndex := 192, descriptorIndex := 121, attributes := #[] }, { accessFlags := 25, nameIndex := 193, descriptorIndex := 121, attributes := #[] }, { accessFlags := 25, nameIndex := 196, descriptorIndex := 197, attributes := #[] }, { accessFlags := 25, nameIndex := 199, descriptorIndex := 197, attributes := #[] }, { accessFlags := 25, nameIndex := 201, descriptorIndex := 197, attributes := #[] }, { accessFlags := 25, nameIndex := 203, descriptorIndex := 197, attributes := #[] }, { accessFlags := 25, nameIndex := 205, descriptorIndex := 197, attributes := #[] }, { accessFlags := 25, nameIndex := 173, descriptorIndex := 174, attributes := #[] }, { accessFlags := 18, nameIndex := 120, descriptorIndex := 121, attributes := #[] }, { accessFlags := 26, nameIndex := 209, descriptorIndex := 210, attributes := #[] }])
  fields := #[{ name := "POSITIVE_INFINITY", type := .double, accessFlags := 25, slot := 0, constantValue := 0 }, { name := "NEGATIVE_INFINITY", type := .double, accessFlags := 25, slot := 1, constantValue := 0 }, { name := "NaN", type := .double, accessFlags := 25, slot := 2, constantValue := 0 }, { name := "MAX_VALUE", type := .double, accessFlags := 25, slot := 3, constantValue := 0 }, { name := "MIN_NORMAL", type := .double, accessFlags := 25, slot := 4, constantValue := 0 }, { name := "MIN_VALUE", type := .double, accessFlags := 25, slot := 5, constantValue := 0 }, { name := "SIZE", type := .int, accessFlags := 25, slot := 6, constantValue := 0 }, { name := "PRECISION", type := .int, accessFlags := 25, slot := 7, constantValue := 0 }, { name := "MAX_EXPONENT", type := .int, accessFlags := 25, slot := 8, constantValue := 0 }, { name := "MIN_EXPONENT", type := .int, accessFlags := 25, slot := 9, constantValue := 0 }, { name := "BYTES", type := .int, accessFlags := 25, slot := 10, constantValue := 0 }, { name := "TYPE", type := (.object "java/lang/Class"), accessFlags := 25, slot := 11, constantValue := 0 }, { name := "value", type := .double, accessFlags := 18, slot := 0, constantValue := 0 }, { name := "serialVersionUID", type := .long, accessFlags := 26, slot := 12, constantValue := 0 }]
  methods := #[k18m0, k18m1]
  instanceTypes := #[.double]
  staticTypes := #[.double, .double, .double, .double, .double, .double, .int, .int, .int, .int, .int, (.object "java/lang/Class"), .long]
  resolved := Array.replicate 290 none
  statics := none }

def pool19 : Array CpInfo := pool [(1, .methodref 2 3), (0, .class_ 4), (0, .nameAndType 5 6), (0, u "java/lang/Object"), (0, u "<init>"), (0, u "()V"), (0, .methodref 8 9), (0, .class_ 10), (0, .nameAndType 11 12), (0, u "com/example/hqsim/hqsim/engine/network/Fate"), (0, u "values"), (0, u "()[Lcom/example/hqsim/hqsim/engine/network/Fate;"), (0, .fieldref 14 15), (0, .class_ 16), (0, .nameAndType 17 18), (0, u "com/example/hqsim/hqsim/engine/network/EndToEnd"), (0, u "left"), (0, u "[J"), (0, .class_ 20), (0, u "com/example/hqsim/hqsim/engine/statistics/QuantileHistogram"), (0, .methodref 19 3), (0, .fieldref 14 23), (0, .nameAndType 24 25), (0, u "responseTimes"), (0, u "Lcom/example/hqsim/hqsim/engine/statistics/QuantileHistogram;"), (0, .class_ 27), (0, u "java/util/ArrayList"), (0, .methodref 26 3), (0, .fieldref 14 30), (0, .nameAndType 31 32), (0, u "watchers"), (0, u "Ljava/util/List;"), (0, .fieldref 14 34), (0, .nameAndType 35 36), (0, u "simulation"), (0, u "Lcom/example/hqsim/hqsim/engine/kernel/Simulation;"), (0, .fieldref 14 38), (0, .nameAndType 39 40), (0, u "window"), (0, u "Lcom/example/hqsim/hqsim/engine/statistics/MeasurementWindow;"), (0, .fieldref 14 42), (0, .nameAndType 43 44), (0, u "measurement"), (0, u "Lcom/example/hqsim/hqsim/engine/network/Measurement;"), (0, .fieldref 14 46), (0, .nameAndType 47 48), (0, u "deliveryTimeMetrics"), (0, u "Lcom/example/hqsim/hqsim/engine/network/DeliveryTimeMetrics;"), (0, .methodref 50 51), (0, .class_ 52), (0, .nameAndType 53 54), (0, u "com/example/hqsim/hqsim/engine/network/DeliveryTimeMetrics"), (0, u "within"), (0, u "()Ljava/util/List;"), (0, .interfaceMethodref 56 57), (0, .class_ 58), (0, .nameAndType 59 60), (0, u "java/util/List"), (0, u "size"), (0, u "()I"), (0, .fieldref 14 62), (0, .nameAndType 53 63), (0, u "[D"), (9, u "()D"), (0, .fieldref 14 75), (0, .nameAndType 76 18), (0, u "deliveredBy"), (5, .methodref 83 84), (0, .class_ 85), (0, .nameAndType 86 73), (0, u "com/example/hqsim/hqsim/engine/kernel/Simulation"), (0, u "now"), (0, .methodref 88 89), (0, .class_ 90), (0, .nameAndType 91 92), (0, u "com/example/hqsim/hqsim/engine/network/Measurement"), (0, u "begun"), (0, u "()J"), (0, .fieldref 14 94), (0, .nameAndType 95 96), (0, u "inNetwork"), (0, u "J"), (0, .fieldref 14 98), (0, .nameAndType 99 96), (0, u "produced"), (0, .class_ 101), (0, u "com/example/hqsim/hqsim/engine/network/Message"), (0, .methodref 100 103), (0, .nameAndType 5 104), (0, u "(Lcom/example/hqsim/hqsim/engine/network/Origin;JDDZ)V"), (0, .fieldref 8 106), (0, .nameAndType 107 108), (0, u "DELIVERED"), (0, u "Lcom/example/hqsim/hqsim/engine/network/Fate;"), (0, .fieldref 14 110), (0, .nameAndType 111 96), (0, u "deliveredInWindow"), (0, .methodref 88 113), (0, .nameAndType 114 92), (0, u "inside"), (0, .methodref 100 116), (0, .nameAndType 117 118), (0, u "measured"), (0, u "()Z"), (0, .methodref 14 120), (0, .nameAndType 121 122), (0, u "count"), (0, u "(Lcom/example/hqsim/hqsim/engine/network/Message;Lcom/example/hqsim/hqsim/engine/network/Fate;)V"), (0, .methodref 83 124), (0, .nameAndType 125 126), (0, u "spend"), (0, u "(J)V"), (0, .interfaceMethodref 56 128), (0, .nameAndType 129 130), (0, u "iterator"), (0, u "()Ljava/util/Iterator;"), (0, .interfaceMethodref 132 133), (0, .class_ 134), (0, .nameAndType 135 118), (0, u "java/util/Iterator"), (0, u "hasNext"), (12, u "add"), (1, .methodref 8 151), (0, .nameAndType 152 60), (0, u "ordinal"), (0, .methodref 100 154), (0, .nameAndType 99 73), (0, .fieldref 14 156), (0, .nameAndType 157 158), (0, u "responseTimeSum"), (0, u "D"), (0, .methodref 19 160), (0, .nameAndType 148 161), (0, u "(D)V"), (0, .methodref 163 164), (0, .class_ 165), (0, .nameAndType 166 73), (0, u "com/example/hqsim/hqsim/engine/statistics/MeasurementWindow"), (0, u "end"), (42, u "ID"), (0, u "Ljava/lang/String;"), (3, u "SUCCESS_RATE"), (0, u "RESPONSE_TIME_MEAN"), (0, u "THROUGHPUT"), (0, u "QUANTILE"), (0, u "DELIVERED_WITHIN"), (2, u "RESPONSE_TIME_QUANTILE"), (4, u "(Lcom/example/hqsim/hqsim/engine/kernel/Simulation;Lcom/example/hqsim/hqsim/engine/statistics/MeasurementWindow;Lcom/example/hqsim/hqsim/engine/network/Measurement;Lcom/example/hqsim/hqsim/engine/network/DeliveryTimeMetrics;)V"), (5, u "produce"), (0, u "(Lcom/example/hqsim/hqsim/engine/network/Origin;JD)Lcom/example/hqsim/hqsim/engine/network/Message;"), (0, u "leave"), (3, u "goesOn")] 26

def k19c0 : Code := { maxStack := 4, maxLocals := 7, code := prog_35_method_1_code, exceptionTable := #[], attributes := #[] }
def k19m0 : Method := { name := "<init>", desc := "(Lcom/example/hqsim/hqsim/engine/kernel/Simulation;Lcom/example/hqsim/hqsim/engine/statistics/MeasurementWindow;Lcom/example/hqsim/hqsim/engine/network/Measurement;Lcom/example/hqsim/hqsim/engine/network/DeliveryTimeMetrics;)V", sig := { parameters := [(.object "com/example/hqsim/hqsim/engine/kernel/Simulation"), (.object "com/example/hqsim/hqsim/engine/statistics/MeasurementWindow"), (.object "com/example/hqsim/hqsim/engine/network/Measurement"), (.object "com/example/hqsim/hqsim/engine/network/DeliveryTimeMetrics")], returnType := none }, accessFlags := 0, code := some k19c0 }
def k19c1 : Code := { maxStack := 13, maxLocals := 10, code := prog_35_method_3_code, exceptionTable := #[], attributes := #[] }
def k19m1 : Method := { name := "produce", desc := "(Lcom/example/hqsim/hqsim/engine/network/Origin;JD)Lcom/example/hqsim/hqsim/engine/network/Message;", sig := { parameters := [(.object "com/example/hqsim/hqsim/engine/network/Origin"), .long, .double], returnType := some (.object "com/example/hqsim/hqsim/engine/network/Message") }, accessFlags := 0, code := some k19c1 }
def k19c2 : Code := { maxStack := 5, maxLocals := 5, code := prog_35_method_4_code, exceptionTable := #[], attributes := #[] }
def k19m2 : Method := { name := "leave", desc := "(Lcom/example/hqsim/hqsim/engine/network/Message;Lcom/example/hqsim/hqsim/engine/network/Fate;)V", sig := { parameters := [(.object "com/example/hqsim/hqsim/engine/network/Message"), (.object "com/example/hqsim/hqsim/engine/network/Fate")], returnType := none }, accessFlags := 1, code := some k19c2 }
def k19c3 : Code := { maxStack := 6, maxLocals := 6, code := prog_35_method_6_code, exceptionTable := #[], attributes := #[] }
def k19m3 : Method := { name := "count", desc := "(Lcom/example/hqsim/hqsim/engine/network/Message;Lcom/example/hqsim/hqsim/engine/network/Fate;)V", sig := { parameters := [(.object "com/example/hqsim/hqsim/engine/network/Message"), (.object "com/example/hqsim/hqsim/engine/network/Fate")], returnType := none }, accessFlags := 2, code := some k19c3 }
def k19c4 : Code := { maxStack := 4, maxLocals := 1, code := prog_35_method_7_code, exceptionTable := #[], attributes := #[] }
def k19m4 : Method := { name := "goesOn", desc := "()Z", sig := { parameters := [], returnType := some .boolean }, accessFlags := 1, code := some k19c4 }
/-- com/example/hqsim/hqsim/engine/network/EndToEnd -/
def k19 : Class := { plain "com/example/hqsim/hqsim/engine/network/EndToEnd" (some 0) with
  accessFlags := 49
  interfaces := #[]
  cf := some (fileOf pool19 14 #[] #[{ accessFlags := 0, nameIndex := 5, descriptorIndex := 226, attributes := #[] }, { accessFlags := 0, nameIndex := 232, descriptorIndex := 233, attributes := #[] }, { accessFlags := 1, nameIndex := 234, descriptorIndex := 122, attributes := #[] }, { accessFlags := 2, nameIndex := 121, descriptorIndex := 122, attributes := #[] }, { accessFlags := 1, nameIndex := 238, descriptorIndex := 118, attributes := #[] }] 49 2 #[] #[{ accessFlags := 25, nameIndex := 209, descriptorIndex := 210, attributes := #[] }, { accessFlags := 25, nameIndex := 214, descriptorIndex := 210, attributes := #[] }, { accessFlags := 25, nameIndex := 215, descriptorIndex := 210, attributes := #[] }, { accessFlags := 25, nameIndex := 216, descriptorIndex := 210, attributes := #[] }, { accessFlags := 25, nameIndex := 217, descriptorIndex := 158, attributes := #[] }, { accessFlags := 26, nameIndex := 218, descriptorIndex := 210, attributes := #[] }, { accessFlags := 26, nameIndex := 221, descriptorIndex := 210, attributes := #[] }, { accessFlags := 18, nameIndex := 35, descriptorIndex := 36, attributes := #[] }, { accessFlags := 18, nameIndex := 39, descriptorIndex := 40, attributes := #[] }, { accessFlags := 18, nameIndex := 43, descriptorIndex := 44, attributes := #[] }, { accessFlags := 18, nameIndex := 47, descriptorIndex := 48, attributes := #[] }, { accessFlags := 18, nameIndex := 17, descriptorIndex := 18, attributes := #[] }, { accessFlags := 18, nameIndex := 24, descriptorIndex := 25, attributes := #[] }, { accessFlags := 18, nameIndex := 53, descriptorIndex := 63, attributes := #[] }, { accessFlags := 18, nameIndex := 76, descriptorIndex := 18, attributes := #[] }, { accessFlags := 18, nameIndex := 31, descriptorIndex := 32, attributes := #[] }, { accessFlags := 2, nameIndex := 95, descriptorIndex := 96, attributes := #[] }, { accessFlags := 2, nameIndex := 99, descriptorIndex := 96, attributes := #[] }, { accessFlags := 2, nameIndex := 157, descriptorIndex := 158, attributes := #[] }, { accessFlags := 2, nameIndex := 111, descriptorIndex := 96, attributes := #[] }])
  fields := #[{ name := "ID", type := (.object "java/lang/String"), accessFlags := 25, slot := 0, constantValue := 0 }, { name := "SUCCESS_RATE", type := (.object "java/lang/String"), accessFlags := 25, slot := 1, constantValue := 0 }, { name := "RESPONSE_TIME_MEAN", type := (.object "java/lang/String"), accessFlags := 25, slot := 2, constantValue := 0 }, { name := "THROUGHPUT", type := (.object "java/lang/String"), accessFlags := 25, slot := 3, constantValue := 0 }, { name := "QUANTILE", type := .double, accessFlags := 25, slot := 4, constantValue := 0 }, { name := "DELIVERED_WITHIN", type := (.object "java/lang/String"), accessFlags := 26, slot := 5, constantValue := 0 }, { name := "RESPONSE_TIME_QUANTILE", type := (.object "java/lang/String"), accessFlags := 26, slot := 6, constantValue := 0 }, { name := "simulation", type := (.object "com/example/hqsim/hqsim/engine/kernel/Simulation"), accessFlags := 18, slot := 0, constantValue := 0 }, { name := "window", type := (.object "com/example/hqsim/hqsim/engine/statistics/MeasurementWindow"), accessFlags := 18, slot := 1, constantValue := 0 }, { name := "measurement", type := (.object "com/example/hqsim/hqsim/engine/network/Measurement"), accessFlags := 18, slot := 2, constantValue := 0 }, { name := "deliveryTimeMetrics", type := (.object "com/example/hqsim/hqsim/engine/network/DeliveryTimeMetrics"), accessFlags := 18, slot := 3, constantValue := 0 }, { name := "left", type := (.array .long), accessFlags := 18, slot := 4, constantValue := 0 }, { name := "responseTimes", type := (.object "com/example/hqsim/hqsim/engine/statistics/QuantileHistogram"), accessFlags := 18, slot := 5, constantValue := 0 }, { name := "within", type := (.array .double), accessFlags := 18, slot := 6, constantValue := 0 }, { name := "deliveredBy", type := (.array .long), accessFlags := 18, slot := 7, constantValue := 0 }, { name := "watchers", type := (.object "java/util/List"), accessFlags := 18, slot := 8, constantValue := 0 }, { name := "inNetwork", type := .long, accessFlags := 2, slot := 9, constantValue := 0 }, { name := "produced", type := .long, accessFlags := 2, slot := 10, constantValue := 0 }, { name := "responseTimeSum", type := .double, accessFlags := 2, slot := 11, constantValue := 0 }, { name := "deliveredInWindow", type := .long, accessFlags := 2, slot := 12, constantValue := 0 }]
  methods := #[k19m0, k19m1, k19m2, k19m3, k19m4]
  instanceTypes := #[(.object "com/example/hqsim/hqsim/engine/kernel/Simulation"), (.object "com/example/hqsim/hqsim/engine/statistics/MeasurementWindow"), (.object "com/example/hqsim/hqsim/engine/network/Measurement"), (.object "com/example/hqsim/hqsim/engine/network/DeliveryTimeMetrics"), (.array .long), (.object "com/example/hqsim/hqsim/engine/statistics/QuantileHistogram"), (.array .double), (.array .long), (.object "java/util/List"), .long, .long, .double, .long]
  staticTypes := #[(.object "java/lang/String"), (.object "java/lang/String"), (.object "java/lang/String"), (.object "java/lang/String"), .double, (.object "java/lang/String"), (.object "java/lang/String")]
  resolved := Array.replicate 265 none
  statics := none }

def pool20 : Array CpInfo := pool [(2, .class_ 4), (1, u "java/lang/Record"), (16, .class_ 22), (0, u "com/example/hqsim/hqsim/engine/network/DeliveryTimeMetrics$Labelled"), (39, .fieldref 63 64), (0, .class_ 65), (0, .nameAndType 66 67), (0, u "com/example/hqsim/hqsim/engine/network/DeliveryTimeMetrics"), (0, u "within"), (0, u "Ljava/util/List;"), (2, u "quantiles"), (15, u "()Ljava/util/List;"), (5, u "NONE"), (0, u "Lcom/example/hqsim/hqsim/engine/network/DeliveryTimeMetrics;")] 42

def k20c0 : Code := { maxStack := 1, maxLocals := 1, code := prog_33_method_5_code, exceptionTable := #[], attributes := #[] }
def k20m0 : Method := { name := "within", desc := "()Ljava/util/List;", sig := { parameters := [], returnType := some (.object "java/util/List") }, accessFlags := 1, code := some k20c0 }
/-- com/example/hqsim/hqsim/engine/network/DeliveryTimeMetrics -/
def k20 : Class := { plain "com/example/hqsim/hqsim/engine/network/DeliveryTimeMetrics" (some 12) with
  accessFlags := 49
  interfaces := #[]
  cf := some (fileOf pool20 63 #[.nestMembers #[21]] #[{ accessFlags := 1, nameIndex := 66, descriptorIndex := 86, attributes := #[] }] 49 2 #[] #[{ accessFlags := 18, nameIndex := 66, descriptorIndex := 67, attributes := #[] }, { accessFlags := 18, nameIndex := 70, descriptorIndex := 67, attributes := #[] }, { accessFlags := 25, nameIndex := 92, descriptorIndex := 93, attributes := #[] }])
  fields := #[{ name := "within", type := (.object "java/util/List"), accessFlags := 18, slot := 0, constantValue := 0 }, { name := "quantiles", type := (.object "java/util/List"), accessFlags := 18, slot := 1, constantValue := 0 }, { name := "NONE", type := (.object "com/example/hqsim/hqsim/engine/network/DeliveryTimeMetrics"), accessFlags := 25, slot := 0, constantValue := 0 }]
  methods := #[k20m0]
  instanceTypes := #[(.object "java/util/List"), (.object "java/util/List")]
  staticTypes := #[(.object "com/example/hqsim/hqsim/engine/network/DeliveryTimeMetrics")]
  resolved := Array.replicate 136 none
  statics := some 4 }

def pool21 : Array CpInfo := pool [(1, .class_ 2), (0, u "java/lang/Cloneable"), (0, .class_ 4), (0, u "java/lang/Object")] 2

/-- java/lang/Cloneable -/
def k21 : Class := { plain "java/lang/Cloneable" (some 0) with
  accessFlags := 1537
  interfaces := #[]
  cf := some (fileOf pool21 1 #[] #[] 1537 3 #[] #[])
  fields := #[]
  methods := #[]
  instanceTypes := #[]
  staticTypes := #[]
  resolved := Array.replicate 7 none
  statics := none }

def pool22 : Array CpInfo := pool [(1, .class_ 2), (0, u "com/example/hqsim/hqsim/engine/statistics/QuantileHistogram"), (0, .methodref 4 5), (0, .class_ 6), (0, .nameAndType 7 8), (0, u "java/lang/Object"), (0, u "<init>"), (0, u "()V"), (0, .class_ 10), (0, u "[J"), (0, .fieldref 1 12), (0, .nameAndType 13 14), (0, u "binades"), (0, u "[[J"), (2, .double 9218868437227405312), (10, .fieldref 1 29), (0, .nameAndType 30 31), (0, u "count"), (0, u "J"), (0, .fieldref 1 33), (0, .nameAndType 34 31), (0, u "zeros"), (4, .long 1023), (4, u "(D)V"), (27, u "BIN_BITS"), (0, u "I"), (2, u "BINS"), (1, u "SHIFT"), (1, u "EXPONENTS"), (3, u "add")] 23

def k22c0 : Code := { maxStack := 2, maxLocals := 1, code := prog_54_method_1_code, exceptionTable := #[], attributes := #[] }
def k22m0 : Method := { name := "<init>", desc := "()V", sig := { parameters := [], returnType := none }, accessFlags := 1, code := some k22c0 }
def k22c1 : Code := { maxStack := 6, maxLocals := 6, code := prog_54_method_2_code, exceptionTable := #[], attributes := #[] }
def k22m1 : Method := { name := "add", desc := "(D)V", sig := { parameters := [.double], returnType := none }, accessFlags := 1, code := some k22c1 }
/-- com/example/hqsim/hqsim/engine/statistics/QuantileHistogram -/
def k22 : Class := { plain "com/example/hqsim/hqsim/engine/statistics/QuantileHistogram" (some 0) with
  accessFlags := 49
  interfaces := #[]
  cf := some (fileOf pool22 1 #[] #[{ accessFlags := 1, nameIndex := 7, descriptorIndex := 8, attributes := #[] }, { accessFlags := 1, nameIndex := 84, descriptorIndex := 44, attributes := #[] }] 49 4 #[] #[{ accessFlags := 26, nameIndex := 72, descriptorIndex := 73, attributes := #[] }, { accessFlags := 26, nameIndex := 76, descriptorIndex := 73, attributes := #[] }, { accessFlags := 26, nameIndex := 78, descriptorIndex := 73, attributes := #[] }, { accessFlags := 26, nameIndex := 80, descriptorIndex := 73, attributes := #[] }, { accessFlags := 18, nameIndex := 13, descriptorIndex := 14, attributes := #[] }, { accessFlags := 2, nameIndex := 34, descriptorIndex := 31, attributes := #[] }, { accessFlags := 2, nameIndex := 30, descriptorIndex := 31, attributes := #[] }])
  fields := #[{ name := "BIN_BITS", type := .int, accessFlags := 26, slot := 0, constantValue := 0 }, { name := "BINS", type := .int, accessFlags := 26, slot := 1, constantValue := 0 }, { name := "SHIFT", type := .int, accessFlags := 26, slot := 2, constantValue := 0 }, { name := "EXPONENTS", type := .int, accessFlags := 26, slot := 3, constantValue := 0 }, { name := "binades", type := (.array (.array .long)), accessFlags := 18, slot := 0, constantValue := 0 }, { name := "zeros", type := .long, accessFlags := 2, slot := 1, constantValue := 0 }, { name := "count", type := .long, accessFlags := 2, slot := 2, constantValue := 0 }]
  methods := #[k22m0, k22m1]
  instanceTypes := #[(.array (.array .long)), .long, .long]
  staticTypes := #[.int, .int, .int, .int]
  resolved := Array.replicate 108 none
  statics := none }

def pool23 : Array CpInfo := pool [(8, .class_ 10), (1, u "java/lang/Iterable"), (24, .class_ 36), (0, u "java/lang/Object")] 25

/-- java/lang/Iterable -/
def k23 : Class := { plain "java/lang/Iterable" (some 0) with
  accessFlags := 1537
  interfaces := #[]
  cf := some (fileOf pool23 8 #[] #[] 1537 35 #[] #[])
  fields := #[]
  methods := #[]
  instanceTypes := #[]
  staticTypes := #[]
  resolved := Array.replicate 62 none
  statics := none }

def pool24 : Array CpInfo := pool [(10, .class_ 12), (1, u "java/util/Collection"), (47, .class_ 61), (0, u "java/lang/Object"), (0, .class_ 63), (0, u "java/lang/Iterable")] 51

/-- java/util/Collection -/
def k24 : Class := { plain "java/util/Collection" (some 0) with
  accessFlags := 1537
  interfaces := #[23]
  cf := some (fileOf pool24 10 #[] #[] 1537 60 #[62] #[])
  fields := #[]
  methods := #[]
  instanceTypes := #[]
  staticTypes := #[]
  resolved := Array.replicate 115 none
  statics := none }

def pool25 : Array CpInfo := pool [(1, .methodref 2 3), (0, .class_ 4), (0, .nameAndType 5 6), (0, u "java/lang/Object"), (0, u "<init>"), (0, u "()V"), (1, .class_ 10), (1, u "java/util/AbstractCollection"), (66, .class_ 78), (0, u "java/util/Collection")] 81

def k25c0 : Code := { maxStack := 1, maxLocals := 1, code := jdk_22_method_1_code, exceptionTable := #[], attributes := #[] }
def k25m0 : Method := { name := "<init>", desc := "()V", sig := { parameters := [], returnType := none }, accessFlags := 4, code := some k25c0 }
/-- java/util/AbstractCollection -/
def k25 : Class := { plain "java/util/AbstractCollection" (some 0) with
  accessFlags := 1057
  interfaces := #[24]
  cf := some (fileOf pool25 8 #[] #[{ accessFlags := 4, nameIndex := 5, descriptorIndex := 6, attributes := #[] }] 1057 2 #[77] #[])
  fields := #[]
  methods := #[k25m0]
  instanceTypes := #[]
  staticTypes := #[]
  resolved := Array.replicate 160 none
  statics := none }

def pool26 : Array CpInfo := pool [(8, .class_ 10), (1, u "java/util/SequencedCollection"), (15, .class_ 27), (0, u "java/lang/Object"), (0, .class_ 29), (0, u "java/util/Collection")] 27

/-- java/util/SequencedCollection -/
def k26 : Class := { plain "java/util/SequencedCollection" (some 0) with
  accessFlags := 1537
  interfaces := #[24]
  cf := some (fileOf pool26 8 #[] #[] 1537 26 #[28] #[])
  fields := #[]
  methods := #[]
  instanceTypes := #[]
  staticTypes := #[]
  resolved := Array.replicate 57 none
  statics := none }

def pool27 : Array CpInfo := pool [(8, .class_ 10), (1, u "java/util/List"), (68, u "size"), (0, u "()I"), (22, .class_ 104), (0, u "java/lang/Object"), (15, .class_ 121), (0, u "java/util/SequencedCollection"), (1, u "iterator"), (0, u "()Ljava/util/Iterator;")] 126

def k27m0 : Method := { name := "size", desc := "()I", sig := { parameters := [], returnType := some .int }, accessFlags := 1025, code := none }
def k27m1 : Method := { name := "iterator", desc := "()Ljava/util/Iterator;", sig := { parameters := [], returnType := some (.object "java/util/Iterator") }, accessFlags := 1025, code := none }
/-- java/util/List -/
def k27 : Class := { plain "java/util/List" (some 0) with
  accessFlags := 1537
  interfaces := #[26]
  cf := some (fileOf pool27 8 #[] #[{ accessFlags := 1025, nameIndex := 79, descriptorIndex := 80, attributes := #[] }, { accessFlags := 1025, nameIndex := 123, descriptorIndex := 124, attributes := #[] }] 1537 103 #[120] #[])
  fields := #[]
  methods := #[k27m0, k27m1]
  instanceTypes := #[]
  staticTypes := #[]
  resolved := Array.replicate 251 none
  statics := none }

def pool28 : Array CpInfo := pool [(1, .methodref 2 3), (0, .class_ 4), (0, .nameAndType 5 6), (0, u "java/util/AbstractCollection"), (0, u "<init>"), (0, u "()V"), (0, .fieldref 8 9), (0, .class_ 10), (0, .nameAndType 11 12), (0, u "java/util/AbstractList"), (0, u "modCount"), (0, u "I"), (64, .class_ 78), (0, u "java/util/AbstractList$Itr"), (3, .class_ 83), (0, u "java/util/AbstractList$ListItr"), (9, .class_ 94), (0, u "java/util/AbstractList$RandomAccessSubList"), (3, .class_ 99), (0, u "java/util/AbstractList$SubList"), (33, .class_ 134), (0, u "java/util/List"), (73, .class_ 209), (0, u "java/util/AbstractList$SubList$1"), (0, .class_ 211), (0, u "java/util/AbstractList$RandomAccessSpliterator")] 6

def k28c0 : Code := { maxStack := 2, maxLocals := 1, code := jdk_39_method_1_code, exceptionTable := #[], attributes := #[] }
def k28m0 : Method := { name := "<init>", desc := "()V", sig := { parameters := [], returnType := none }, accessFlags := 4, code := some k28c0 }
/-- java/util/AbstractList -/
def k28 : Class := { plain "java/util/AbstractList" (some 25) with
  accessFlags := 1057
  interfaces := #[27]
  cf := some (fileOf pool28 8 #[.nestMembers #[93, 98, 208, 210, 82, 77]] #[{ accessFlags := 4, nameIndex := 5, descriptorIndex := 6, attributes := #[] }] 1057 2 #[133] #[{ accessFlags := 132, nameIndex := 11, descriptorIndex := 12, attributes := #[] }])
  fields := #[{ name := "modCount", type := .int, accessFlags := 132, slot := 0, constantValue := 0 }]
  methods := #[k28m0]
  instanceTypes := #[.int]
  staticTypes := #[]
  resolved := Array.replicate 218 none
  statics := none }

def pool29 : Array CpInfo := pool [(1, .class_ 2), (0, u "java/util/RandomAccess"), (0, .class_ 4), (0, u "java/lang/Object")] 2

/-- java/util/RandomAccess -/
def k29 : Class := { plain "java/util/RandomAccess" (some 0) with
  accessFlags := 1537
  interfaces := #[]
  cf := some (fileOf pool29 1 #[] #[] 1537 3 #[] #[])
  fields := #[]
  methods := #[]
  instanceTypes := #[]
  staticTypes := #[]
  resolved := Array.replicate 7 none
  statics := none }

def pool30 : Array CpInfo := pool [(1, .methodref 2 3), (0, .class_ 4), (0, .nameAndType 5 6), (0, u "java/util/AbstractList"), (0, u "<init>"), (0, u "()V"), (2, .fieldref 10 11), (0, .class_ 12), (0, .nameAndType 13 14), (0, u "java/util/ArrayList"), (0, u "elementData"), (0, u "[Ljava/lang/Object;"), (2, u "EMPTY_ELEMENTDATA"), (21, .fieldref 10 40), (0, .nameAndType 41 14), (0, u "DEFAULTCAPACITY_EMPTY_ELEMENTDATA"), (6, .fieldref 10 49), (0, .nameAndType 50 51), (0, u "size"), (0, u "I"), (96, .class_ 149), (0, u "java/util/List"), (16, u "iterator"), (0, u "()Ljava/util/Iterator;"), (18, u "()I"), (75, .class_ 263), (0, u "java/util/ArrayList$ListItr"), (3, .class_ 268), (0, u "java/util/ArrayList$Itr"), (0, .methodref 267 270), (0, .nameAndType 5 271), (0, u "(Ljava/util/ArrayList;)V"), (4, .class_ 277), (0, u "java/util/ArrayList$SubList"), (12, .class_ 291), (0, u "java/util/ArrayList$ArrayListSpliterator"), (37, .class_ 330), (0, u "java/util/RandomAccess"), (0, .class_ 332), (0, u "java/lang/Cloneable"), (0, .class_ 334), (0, u "java/io/Serializable"), (0, u "serialVersionUID"), (0, u "J"), (3, u "DEFAULT_CAPACITY"), (159, .class_ 501), (0, u "java/util/ArrayList$SubList$2"), (0, .class_ 503), (0, u "java/util/ArrayList$SubList$1")] 5

def k30c0 : Code := { maxStack := 2, maxLocals := 1, code := jdk_38_method_2_code, exceptionTable := #[], attributes := #[] }
def k30m0 : Method := { name := "<init>", desc := "()V", sig := { parameters := [], returnType := none }, accessFlags := 1, code := some k30c0 }
def k30c1 : Code := { maxStack := 1, maxLocals := 1, code := jdk_38_method_8_code, exceptionTable := #[], attributes := #[] }
def k30m1 : Method := { name := "size", desc := "()I", sig := { parameters := [], returnType := some .int }, accessFlags := 1, code := some k30c1 }
def k30c2 : Code := { maxStack := 3, maxLocals := 1, code := jdk_38_method_55_code, exceptionTable := #[], attributes := #[] }
def k30m2 : Method := { name := "iterator", desc := "()Ljava/util/Iterator;", sig := { parameters := [], returnType := some (.object "java/util/Iterator") }, accessFlags := 1, code := some k30c2 }
/-- java/util/ArrayList -/
def k30 : Class := { plain "java/util/ArrayList" (some 28) with
  accessFlags := 33
  interfaces := #[27, 29, 21, 4]
  cf := some (fileOf pool30 10 #[.nestMembers #[290, 276, 500, 502, 262, 267]] #[{ accessFlags := 1, nameIndex := 5, descriptorIndex := 6, attributes := #[] }, { accessFlags := 1, nameIndex := 50, descriptorIndex := 186, attributes := #[] }, { accessFlags := 1, nameIndex := 166, descriptorIndex := 167, attributes := #[] }] 33 2 #[148, 329, 331, 333] #[{ accessFlags := 26, nameIndex := 335, descriptorIndex := 336, attributes := #[] }, { accessFlags := 26, nameIndex := 340, descriptorIndex := 51, attributes := #[] }, { accessFlags := 26, nameIndex := 17, descriptorIndex := 14, attributes := #[] }, { accessFlags := 26, nameIndex := 41, descriptorIndex := 14, attributes := #[] }, { accessFlags := 128, nameIndex := 13, descriptorIndex := 14, attributes := #[] }, { accessFlags := 2, nameIndex := 50, descriptorIndex := 51, attributes := #[] }])
  fields := #[{ name := "serialVersionUID", type := .long, accessFlags := 26, slot := 0, constantValue := 0 }, { name := "DEFAULT_CAPACITY", type := .int, accessFlags := 26, slot := 1, constantValue := 0 }, { name := "EMPTY_ELEMENTDATA", type := (.array (.object "java/lang/Object")), accessFlags := 26, slot := 2, constantValue := 0 }, { name := "DEFAULTCAPACITY_EMPTY_ELEMENTDATA", type := (.array (.object "java/lang/Object")), accessFlags := 26, slot := 3, constantValue := 0 }, { name := "elementData", type := (.array (.object "java/lang/Object")), accessFlags := 128, slot := 1, constantValue := 0 }, { name := "size", type := .int, accessFlags := 2, slot := 2, constantValue := 0 }]
  methods := #[k30m0, k30m1, k30m2]
  instanceTypes := #[.int, (.array (.object "java/lang/Object")), .int]
  staticTypes := #[.long, .int, (.array (.object "java/lang/Object")), (.array (.object "java/lang/Object"))]
  resolved := Array.replicate 509 none
  statics := some 0 }

def pool31 : Array CpInfo := pool [(2, .class_ 4), (1, u "java/util/AbstractCollection"), (0, u "<init>"), (0, u "()V"), (1, .class_ 10), (1, u "java/util/ImmutableCollections"), (2, .class_ 14), (0, u "java/util/ImmutableCollections$AbstractImmutableCollection")] 41

def k31m0 : Method := { name := "<init>", desc := "()V", sig := { parameters := [], returnType := none }, accessFlags := 0, code := none }
/-- java/util/ImmutableCollections$AbstractImmutableCollection -/
def k31 : Class := { plain "java/util/ImmutableCollections$AbstractImmutableCollection" (some 25) with
  accessFlags := 1056
  interfaces := #[]
  cf := some (fileOf pool31 13 #[.nestHost 8] #[{ accessFlags := 0, nameIndex := 5, descriptorIndex := 6, attributes := #[] }] 1056 2 #[] #[])
  fields := #[]
  methods := #[k31m0]
  instanceTypes := #[]
  staticTypes := #[]
  resolved := Array.replicate 56 none
  statics := none }

def pool32 : Array CpInfo := pool [(2, .class_ 4), (1, u "java/util/ImmutableCollections$AbstractImmutableCollection"), (0, u "<init>"), (0, u "()V"), (1, .class_ 10), (1, u "java/util/ImmutableCollections"), (3, .class_ 16), (1, u "java/util/ImmutableCollections$AbstractImmutableList"), (60, .class_ 78), (0, u "java/util/List"), (45, .class_ 125), (0, u "java/util/RandomAccess")] 70

def k32m0 : Method := { name := "<init>", desc := "()V", sig := { parameters := [], returnType := none }, accessFlags := 0, code := none }
/-- java/util/ImmutableCollections$AbstractImmutableList -/
def k32 : Class := { plain "java/util/ImmutableCollections$AbstractImmutableList" (some 31) with
  accessFlags := 1056
  interfaces := #[27, 29]
  cf := some (fileOf pool32 14 #[.nestHost 8] #[{ accessFlags := 0, nameIndex := 5, descriptorIndex := 6, attributes := #[] }] 1056 2 #[77, 124] #[])
  fields := #[]
  methods := #[k32m0]
  instanceTypes := #[]
  staticTypes := #[]
  resolved := Array.replicate 196 none
  statics := none }

def pool33 : Array CpInfo := pool [(2, .class_ 4), (1, u "java/util/ImmutableCollections$AbstractImmutableList"), (2, .fieldref 8 9), (0, .class_ 10), (0, .nameAndType 11 12), (0, u "java/util/ImmutableCollections$ListN"), (0, u "elements"), (0, u "[Ljava/lang/Object;"), (2, u "allowNulls"), (0, u "Z"), (42, .class_ 60), (0, u "java/io/Serializable"), (16, u "size"), (0, u "()I"), (35, .class_ 115), (0, u "java/util/ImmutableCollections")] 3

def k33c0 : Code := { maxStack := 1, maxLocals := 1, code := jdk_45_method_3_code, exceptionTable := #[], attributes := #[] }
def k33m0 : Method := { name := "size", desc := "()I", sig := { parameters := [], returnType := some .int }, accessFlags := 1, code := some k33c0 }
/-- java/util/ImmutableCollections$ListN -/
def k33 : Class := { plain "java/util/ImmutableCollections$ListN" (some 32) with
  accessFlags := 48
  interfaces := #[4]
  cf := some (fileOf pool33 8 #[.nestHost 114] #[{ accessFlags := 1, nameIndex := 77, descriptorIndex := 78, attributes := #[] }] 48 2 #[59] #[{ accessFlags := 18, nameIndex := 11, descriptorIndex := 12, attributes := #[] }, { accessFlags := 18, nameIndex := 15, descriptorIndex := 16, attributes := #[] }])
  fields := #[{ name := "elements", type := (.array (.object "java/lang/Object")), accessFlags := 18, slot := 0, constantValue := 0 }, { name := "allowNulls", type := .boolean, accessFlags := 18, slot := 1, constantValue := 0 }]
  methods := #[k33m0]
  instanceTypes := #[(.array (.object "java/lang/Object")), .boolean]
  staticTypes := #[]
  resolved := Array.replicate 119 none
  statics := none }

def pool34 : Array CpInfo := pool [(1, .methodref 2 3), (0, .class_ 4), (0, .nameAndType 5 6), (0, u "java/lang/Object"), (0, u "<init>"), (0, u "()V"), (0, .fieldref 8 9), (0, .class_ 10), (0, .nameAndType 11 12), (0, u "com/example/hqsim/hqsim/engine/network/Message"), (0, u "origin"), (0, u "Lcom/example/hqsim/hqsim/engine/network/Origin;"), (0, .fieldref 8 14), (0, .nameAndType 15 16), (0, u "sequence"), (0, u "J"), (0, .fieldref 8 18), (0, .nameAndType 19 20), (0, u "produced"), (0, u "D"), (0, .fieldref 8 22), (0, .nameAndType 23 20), (0, u "deadline"), (0, .fieldref 8 25), (0, .nameAndType 26 27), (0, u "measured"), (0, u "Z"), (0, u "(Lcom/example/hqsim/hqsim/engine/network/Origin;JDDZ)V"), (4, u "()D"), (0, u "()Z")] 2

def k34c0 : Code := { maxStack := 3, maxLocals := 9, code := prog_40_method_1_code, exceptionTable := #[], attributes := #[] }
def k34m0 : Method := { name := "<init>", desc := "(Lcom/example/hqsim/hqsim/engine/network/Origin;JDDZ)V", sig := { parameters := [(.object "com/example/hqsim/hqsim/engine/network/Origin"), .long, .double, .double, .boolean], returnType := none }, accessFlags := 0, code := some k34c0 }
def k34c1 : Code := { maxStack := 2, maxLocals := 1, code := prog_40_method_4_code, exceptionTable := #[], attributes := #[] }
def k34m1 : Method := { name := "produced", desc := "()D", sig := { parameters := [], returnType := some .double }, accessFlags := 1, code := some k34c1 }
def k34c2 : Code := { maxStack := 1, maxLocals := 1, code := prog_40_method_6_code, exceptionTable := #[], attributes := #[] }
def k34m2 : Method := { name := "measured", desc := "()Z", sig := { parameters := [], returnType := some .boolean }, accessFlags := 1, code := some k34c2 }
/-- com/example/hqsim/hqsim/engine/network/Message -/
def k34 : Class := { plain "com/example/hqsim/hqsim/engine/network/Message" (some 0) with
  accessFlags := 49
  interfaces := #[]
  cf := some (fileOf pool34 8 #[] #[{ accessFlags := 0, nameIndex := 5, descriptorIndex := 28, attributes := #[] }, { accessFlags := 1, nameIndex := 19, descriptorIndex := 33, attributes := #[] }, { accessFlags := 1, nameIndex := 26, descriptorIndex := 34, attributes := #[] }] 49 2 #[] #[{ accessFlags := 18, nameIndex := 11, descriptorIndex := 12, attributes := #[] }, { accessFlags := 18, nameIndex := 15, descriptorIndex := 16, attributes := #[] }, { accessFlags := 18, nameIndex := 19, descriptorIndex := 20, attributes := #[] }, { accessFlags := 18, nameIndex := 23, descriptorIndex := 20, attributes := #[] }, { accessFlags := 18, nameIndex := 26, descriptorIndex := 27, attributes := #[] }])
  fields := #[{ name := "origin", type := (.object "com/example/hqsim/hqsim/engine/network/Origin"), accessFlags := 18, slot := 0, constantValue := 0 }, { name := "sequence", type := .long, accessFlags := 18, slot := 1, constantValue := 0 }, { name := "produced", type := .double, accessFlags := 18, slot := 2, constantValue := 0 }, { name := "deadline", type := .double, accessFlags := 18, slot := 3, constantValue := 0 }, { name := "measured", type := .boolean, accessFlags := 18, slot := 4, constantValue := 0 }]
  methods := #[k34m0, k34m1, k34m2]
  instanceTypes := #[(.object "com/example/hqsim/hqsim/engine/network/Origin"), .long, .double, .double, .boolean]
  staticTypes := #[]
  resolved := Array.replicate 37 none
  statics := none }

def pool35 : Array CpInfo := pool [(16, .class_ 18), (1, u "java/util/Iterator"), (0, u "hasNext"), (0, u "()Z"), (10, .class_ 32), (0, u "java/lang/Object")] 20

def k35m0 : Method := { name := "hasNext", desc := "()Z", sig := { parameters := [], returnType := some .boolean }, accessFlags := 1025, code := none }
/-- java/util/Iterator -/
def k35 : Class := { plain "java/util/Iterator" (some 0) with
  accessFlags := 1537
  interfaces := #[]
  cf := some (fileOf pool35 16 #[] #[{ accessFlags := 1025, nameIndex := 19, descriptorIndex := 20, attributes := #[] }] 1537 31 #[] #[])
  fields := #[]
  methods := #[k35m0]
  instanceTypes := #[]
  staticTypes := #[]
  resolved := Array.replicate 53 none
  statics := none }

def pool36 : Array CpInfo := pool [(1, .fieldref 2 3), (0, .class_ 4), (0, .nameAndType 5 6), (0, u "java/util/ArrayList$Itr"), (0, u "this$0"), (0, u "Ljava/util/ArrayList;"), (0, .methodref 8 9), (0, .class_ 10), (0, .nameAndType 11 12), (0, u "java/lang/Object"), (0, u "<init>"), (0, u "()V"), (0, .fieldref 2 14), (0, .nameAndType 15 16), (0, u "lastRet"), (0, u "I"), (0, .fieldref 18 19), (0, .class_ 20), (0, .nameAndType 21 16), (0, u "java/util/ArrayList"), (0, u "modCount"), (0, .fieldref 2 23), (0, .nameAndType 24 16), (0, u "expectedModCount"), (0, .fieldref 2 26), (0, .nameAndType 27 16), (0, u "cursor"), (0, .fieldref 18 29), (0, .nameAndType 30 16), (0, u "size"), (38, .class_ 70), (0, u "java/util/Iterator"), (0, u "(Ljava/util/ArrayList;)V"), (8, u "hasNext"), (0, u "()Z")] 22

def k36c0 : Code := { maxStack := 2, maxLocals := 2, code := jdk_49_method_1_code, exceptionTable := #[], attributes := #[] }
def k36m0 : Method := { name := "<init>", desc := "(Ljava/util/ArrayList;)V", sig := { parameters := [(.object "java/util/ArrayList")], returnType := none }, accessFlags := 0, code := some k36c0 }
def k36c1 : Code := { maxStack := 2, maxLocals := 1, code := jdk_49_method_2_code, exceptionTable := #[], attributes := #[] }
def k36m1 : Method := { name := "hasNext", desc := "()Z", sig := { parameters := [], returnType := some .boolean }, accessFlags := 1, code := some k36c1 }
/-- java/util/ArrayList$Itr -/
def k36 : Class := { plain "java/util/ArrayList$Itr" (some 0) with
  accessFlags := 32
  interfaces := #[35]
  cf := some (fileOf pool36 2 #[.nestHost 18] #[{ accessFlags := 0, nameIndex := 11, descriptorIndex := 71, attributes := #[] }, { accessFlags := 1, nameIndex := 80, descriptorIndex := 81, attributes := #[] }] 32 8 #[69] #[{ accessFlags := 0, nameIndex := 27, descriptorIndex := 16, attributes := #[] }, { accessFlags := 0, nameIndex := 15, descriptorIndex := 16, attributes := #[] }, { accessFlags := 0, nameIndex := 24, descriptorIndex := 16, attributes := #[] }, { accessFlags := 4112, nameIndex := 5, descriptorIndex := 6, attributes := #[] }])
  fields := #[{ name := "cursor", type := .int, accessFlags := 0, slot := 0, constantValue := 0 }, { name := "lastRet", type := .int, accessFlags := 0, slot := 1, constantValue := 0 }, { name := "expectedModCount", type := .int, accessFlags := 0, slot := 2, constantValue := 0 }, { name := "this$0", type := (.object "java/util/ArrayList"), accessFlags := 4112, slot := 3, constantValue := 0 }]
  methods := #[k36m0, k36m1]
  instanceTypes := #[.int, .int, .int, (.object "java/util/ArrayList")]
  staticTypes := #[]
  resolved := Array.replicate 104 none
  statics := none }

/-- the primitive byte -/
def k37 : Class := { plain "byte" none with kind := .primitive 'B', accessFlags := 0x411 }
/-- [B -/
def k38 : Class := { plain "[B" (some 0) with kind := .array 37 .byte, interfaces := #[21, 4], accessFlags := 1041 }

/-- the primitive int -/
def k39 : Class := { plain "int" none with kind := .primitive 'I', accessFlags := 0x411 }
/-- [I -/
def k40 : Class := { plain "[I" (some 0) with kind := .array 39 .int, interfaces := #[21, 4], accessFlags := 1041 }

/-- the primitive long -/
def k41 : Class := { plain "long" none with kind := .primitive 'J', accessFlags := 0x411 }
/-- [J -/
def k42 : Class := { plain "[J" (some 0) with kind := .array 41 .long, interfaces := #[21, 4], accessFlags := 1041 }

/-- [Lcom/example/hqsim/hqsim/engine/kernel/Event; -/
def k43 : Class := { plain "[Lcom/example/hqsim/hqsim/engine/kernel/Event;" (some 0) with kind := .array 10 (.object "com/example/hqsim/hqsim/engine/kernel/Event"), interfaces := #[21, 4], accessFlags := 1041 }

/-- [Ljava/lang/Object; -/
def k44 : Class := { plain "[Ljava/lang/Object;" (some 0) with kind := .array 0 (.object "java/lang/Object"), interfaces := #[21, 4], accessFlags := 1041 }

/-- the primitive double -/
def k45 : Class := { plain "double" none with kind := .primitive 'D', accessFlags := 0x411 }
/-- [D -/
def k46 : Class := { plain "[D" (some 0) with kind := .array 45 .double, interfaces := #[21, 4], accessFlags := 1041 }
/-- [Fate -/
def k47 : Class := { plain "[Lcom/example/hqsim/hqsim/engine/network/Fate;" (some 0) with kind := .array 6 (.object "com/example/hqsim/hqsim/engine/network/Fate"), interfaces := #[21, 4], accessFlags := 1041 }
/-- [[J -/
def k48 : Class := { plain "[[J" (some 0) with kind := .array 42 (.array .long), interfaces := #[21, 4], accessFlags := 1041 }
def heap : Heap := #[{ cls := 30, slots := #[.long 0, .int 0, .ref 1, .ref 2], vm := .statics 30 },
  { cls := 44, slots := #[], vm := .none },
  { cls := 44, slots := #[], vm := .none },
  { cls := 6, slots := #[.ref 5, .ref 6, .ref 7, .ref 8, .ref 9], vm := .statics 6 },
  { cls := 20, slots := #[.ref 10], vm := .statics 20 },
  { cls := 6, slots := #[.null, .int 0, .int 0, .null], vm := .none },
  { cls := 6, slots := #[.null, .int 1, .int 0, .null], vm := .none },
  { cls := 6, slots := #[.null, .int 2, .int 0, .null], vm := .none },
  { cls := 6, slots := #[.null, .int 3, .int 0, .null], vm := .none },
  { cls := 47, slots := #[.ref 5, .ref 6, .ref 7, .ref 8], vm := .none },
  { cls := 20, slots := #[.ref 11, .null], vm := .none },
  { cls := 33, slots := #[.ref 12, .int 0], vm := .none },
  { cls := 44, slots := #[], vm := .none }]
def classes : Array Class := #[k0, k1, k2, k3, k4, k5, k6, k7, k8, k9, k10, k11, k12, k13, k14, k15, k16, k17, k18, k19, k20, k21, k22, k23, k24, k25, k26, k27, k28, k29, k30, k31, k32, k33, k34, k35, k36, k37, k38, k39, k40, k41, k42, k43, k44, k45, k46, k47, k48]
def interned : List (Array UInt16 × Addr) := []
def slotsUsed : Nat := 34
def theMethod : MethodId := ⟨1, 1⟩
def args0 : Array Value := #[.int 0, .int 5, .int 5, .int 5]
def aboutOver (below : List Frame) : State where
  vm := { classes := classes, interned := interned.toArray }
  heap := heap
  slotsUsed := slotsUsed
  threads := #[{ frames := .invoking theMethod args0 :: below }]
def below0 : List Frame := [.native { method := ⟨0, 0⟩, args := #[] }]
def about1 : State := aboutOver below0
def p0 : Program := .bare "" "" ""
def e0 : Env := launch0.env 0 0 0
theorem w_frames : about1.frames = Frame.invoking theMethod args0 :: below0 := rfl
set_option maxRecDepth 65536 in
theorem w_args : argsFit about1.vm theMethod args0 = true := by decide +kernel
set_option maxRecDepth 65536 in
theorem w_heap : heapFits about1 = true := by decide +kernel
set_option maxRecDepth 65536 in
theorem w_runnable : about1.curStatus? = some .runnable := by decide +kernel
set_option maxRecDepth 65536 in
theorem w_alone : about1.alone = true := by decide +kernel
set_option maxRecDepth 65536 in
theorem w_named : about1.methodNamed? x = some theMethod := by decide +kernel
set_option maxRecDepth 65536 in
theorem w_hears : about1.hears theMethod below0 = true := by decide +kernel
set_option maxRecDepth 65536 in
theorem w_ripe : about1.ripe theMethod args0 below0 = true := by decide +kernel
theorem w_running : about1.status = .running := rfl
set_option maxRecDepth 65536 in
theorem w_room : about1.hasRoom e0.platform room_1 = true :=
  launch0.hasRoom_least _ room_1 (by decide +kernel) (by decide +kernel) (by decide +kernel) (by decide +kernel) (by decide +kernel) (by decide +kernel)
theorem allAtoms_all (ts : List Jvm.Cond) (a : Array Jvm.Value) (st : Jvm.State) : (allAtoms ts).before a st = ts.all (fun c => c.before a st) := by
  induction ts with
  | nil => rfl
  | cons c t ih =>
    show (Jvm.Cond.and c (allAtoms t)).before a st = _
    rw [Jvm.Cond.before_and, ih, List.all_cons]
def words1 : List Jvm.Cond := Jvm.Cond.code x code maxLocals ret :: tables_1
/-- a 'code' word, met by the world's own term for the bytes: nothing is compared byte by byte -/
theorem code_word {y : MethodName} {bytes : ByteArray} {mx : Nat} {rt : Option FieldType} {a : Array Value} {s : State} {m : MethodId} {meth : Method} {c : Code} (h1 : s.methodNamed? y = some m) (h2 : s.vm.method? m = some meth) (h3 : meth.code = some c) (h4 : c.code = bytes)
    (h5 : (c.maxLocals == mx && c.exceptionTable.isEmpty && decide (c.maxStack ≤ mostOperands) && decide (meth.sig.returnType = rt) && !meth.locks && decide (parseMethodDescriptor y.desc = some meth.sig)) = true) : (Jvm.Cond.code y bytes mx rt).before a s = true := by
  simp only [Bool.and_eq_true, beq_iff_eq, Bool.not_eq_true', decide_eq_true_eq] at h5
  obtain ⟨⟨⟨⟨⟨g1, g2⟩, g3⟩, g4⟩, g5⟩, g6⟩ := h5
  simp [Cond.before, Cond.holds, Cond.value, h1, h2, h3, h4, g1, g2, g3, g4, g5, g6]
def isCode : Jvm.Cond → Bool
  | .code _ _ _ _ => true
  | _ => false
theorem all_split {L : List Jvm.Cond} {P : Jvm.Cond → Bool} (h1 : L.all (fun c => isCode c || P c) = true) (h2 : ∀ c ∈ L.filter isCode, P c = true) : L.all P = true := by
  refine List.all_eq_true.mpr fun c hc => ?_
  have h := List.all_eq_true.mp h1 c hc
  rcases Bool.eq_false_or_eq_true (isCode c) with hi | hi
  · exact h2 c (List.mem_filter.mpr ⟨hc, hi⟩)
  · simpa [hi] using h
set_option maxRecDepth 65536 in
theorem w_c0 : (Jvm.Cond.code x code maxLocals ret).before args0 about1 = true := code_word (m := ⟨1, 1⟩) (meth := k1m1) (c := k1c1) (by decide +kernel) rfl rfl rfl (by decide +kernel)
set_option maxRecDepth 65536 in
theorem w_c1 : (Jvm.Cond.code ({ cls := "com/example/hqsim/hqsim/engine/kernel/EventBudget", name := "<init>", desc := "(J)V" } : Jvm.MethodName) prog_15_method_1_code (3 : Nat) (Option.none : Option Jvm.ClassFile.FieldType)).before args0 about1 = true := code_word (m := ⟨7, 0⟩) (meth := k7m0) (c := k7c0) (by decide +kernel) rfl rfl rfl (by decide +kernel)
set_option maxRecDepth 65536 in
theorem w_c2 : (Jvm.Cond.code ({ cls := "com/example/hqsim/hqsim/engine/kernel/EventBudget", name := "<init>", desc := "(JJ)V" } : Jvm.MethodName) prog_15_method_2_code (5 : Nat) (Option.none : Option Jvm.ClassFile.FieldType)).before args0 about1 = true := code_word (m := ⟨7, 1⟩) (meth := k7m1) (c := k7c1) (by decide +kernel) rfl rfl rfl (by decide +kernel)
set_option maxRecDepth 65536 in
theorem w_c3 : (Jvm.Cond.code ({ cls := "java/lang/Object", name := "<init>", desc := "()V" } : Jvm.MethodName) object_method_1_code (1 : Nat) (Option.none : Option Jvm.ClassFile.FieldType)).before args0 about1 = true := code_word (m := ⟨0, 0⟩) (meth := k0m0) (c := k0c0) (by decide +kernel) rfl rfl rfl (by decide +kernel)
set_option maxRecDepth 65536 in
theorem w_c4 : (Jvm.Cond.code ({ cls := "com/example/hqsim/hqsim/engine/kernel/Simulation", name := "<init>", desc := "(Lcom/example/hqsim/hqsim/engine/kernel/EventBudget;)V" } : Jvm.MethodName) prog_19_method_1_code (2 : Nat) (Option.none : Option Jvm.ClassFile.FieldType)).before args0 about1 = true := code_word (m := ⟨8, 0⟩) (meth := k8m0) (c := k8c0) (by decide +kernel) rfl rfl rfl (by decide +kernel)
set_option maxRecDepth 65536 in
theorem w_c5 : (Jvm.Cond.code ({ cls := "com/example/hqsim/hqsim/engine/kernel/Simulation", name := "<init>", desc := "(Lcom/example/hqsim/hqsim/engine/kernel/EventBudget;I)V" } : Jvm.MethodName) prog_19_method_2_code (3 : Nat) (Option.none : Option Jvm.ClassFile.FieldType)).before args0 about1 = true := code_word (m := ⟨8, 1⟩) (meth := k8m1) (c := k8c1) (by decide +kernel) rfl rfl rfl (by decide +kernel)
set_option maxRecDepth 65536 in
theorem w_c6 : (Jvm.Cond.code ({ cls := "com/example/hqsim/hqsim/engine/kernel/PendingEvents", name := "<init>", desc := "(I)V" } : Jvm.MethodName) prog_18_method_1_code (2 : Nat) (Option.none : Option Jvm.ClassFile.FieldType)).before args0 about1 = true := code_word (m := ⟨9, 0⟩) (meth := k9m0) (c := k9c0) (by decide +kernel) rfl rfl rfl (by decide +kernel)
set_option maxRecDepth 65536 in
theorem w_c7 : (Jvm.Cond.code ({ cls := "com/example/hqsim/hqsim/engine/statistics/MeasurementWindow", name := "<init>", desc := "(DD)V" } : Jvm.MethodName) prog_53_method_1_code (5 : Nat) (Option.none : Option Jvm.ClassFile.FieldType)).before args0 about1 = true := code_word (m := ⟨13, 0⟩) (meth := k13m0) (c := k13c0) (by decide +kernel) rfl rfl rfl (by decide +kernel)
set_option maxRecDepth 65536 in
theorem w_c8 : (Jvm.Cond.code ({ cls := "java/lang/Record", name := "<init>", desc := "()V" } : Jvm.MethodName) jdk_30_method_1_code (1 : Nat) (Option.none : Option Jvm.ClassFile.FieldType)).before args0 about1 = true := code_word (m := ⟨12, 0⟩) (meth := k12m0) (c := k12c0) (by decide +kernel) rfl rfl rfl (by decide +kernel)
set_option maxRecDepth 65536 in
theorem w_c9 : (Jvm.Cond.code ({ cls := "com/example/hqsim/hqsim/engine/network/Measurement", name := "<init>", desc := "(Lcom/example/hqsim/hqsim/engine/kernel/Simulation;Lcom/example/hqsim/hqsim/engine/statistics/MeasurementWindow;)V" } : Jvm.MethodName) prog_38_method_1_code (3 : Nat) (Option.none : Option Jvm.ClassFile.FieldType)).before args0 about1 = true := code_word (m := ⟨11, 0⟩) (meth := k11m0) (c := k11c0) (by decide +kernel) rfl rfl rfl (by decide +kernel)
set_option maxRecDepth 65536 in
theorem w_c10 : (Jvm.Cond.code ({ cls := "com/example/hqsim/hqsim/engine/statistics/MeasurementWindow", name := "start", desc := "()D" } : Jvm.MethodName) prog_53_method_7_code (1 : Nat) (Option.some Jvm.ClassFile.FieldType.double)).before args0 about1 = true := code_word (m := ⟨13, 1⟩) (meth := k13m1) (c := k13c1) (by decide +kernel) rfl rfl rfl (by decide +kernel)
set_option maxRecDepth 65536 in
theorem w_c11 : (Jvm.Cond.code ({ cls := "com/example/hqsim/hqsim/engine/network/Measurement$Edge", name := "<init>", desc := "(Lcom/example/hqsim/hqsim/engine/network/Measurement;J)V" } : Jvm.MethodName) prog_39_method_1_code (4 : Nat) (Option.none : Option Jvm.ClassFile.FieldType)).before args0 about1 = true := code_word (m := ⟨14, 0⟩) (meth := k14m0) (c := k14c0) (by decide +kernel) rfl rfl rfl (by decide +kernel)
set_option maxRecDepth 65536 in
theorem w_c12 : (Jvm.Cond.code ({ cls := "com/example/hqsim/hqsim/engine/kernel/Event", name := "<init>", desc := "()V" } : Jvm.MethodName) prog_14_method_1_code (1 : Nat) (Option.none : Option Jvm.ClassFile.FieldType)).before args0 about1 = true := code_word (m := ⟨10, 0⟩) (meth := k10m0) (c := k10c0) (by decide +kernel) rfl rfl rfl (by decide +kernel)
set_option maxRecDepth 65536 in
theorem w_c13 : (Jvm.Cond.code ({ cls := "com/example/hqsim/hqsim/engine/kernel/Simulation", name := "scheduleAt", desc := "(DLcom/example/hqsim/hqsim/engine/kernel/Event;)V" } : Jvm.MethodName) prog_19_method_7_code (4 : Nat) (Option.none : Option Jvm.ClassFile.FieldType)).before args0 about1 = true := code_word (m := ⟨8, 3⟩) (meth := k8m3) (c := k8c3) (by decide +kernel) rfl rfl rfl (by decide +kernel)
set_option maxRecDepth 65536 in
theorem w_c14 : (Jvm.Cond.code ({ cls := "com/example/hqsim/hqsim/engine/kernel/Simulation", name := "add", desc := "(DLcom/example/hqsim/hqsim/engine/kernel/Event;)V" } : Jvm.MethodName) prog_19_method_11_code (4 : Nat) (Option.none : Option Jvm.ClassFile.FieldType)).before args0 about1 = true := code_word (m := ⟨8, 6⟩) (meth := k8m6) (c := k8c6) (by decide +kernel) rfl rfl rfl (by decide +kernel)
set_option maxRecDepth 65536 in
theorem w_c15 : (Jvm.Cond.code ({ cls := "com/example/hqsim/hqsim/engine/kernel/Event", name := "pending", desc := "()Z" } : Jvm.MethodName) prog_14_method_3_code (1 : Nat) (Option.some Jvm.ClassFile.FieldType.boolean)).before args0 about1 = true := code_word (m := ⟨10, 1⟩) (meth := k10m1) (c := k10c1) (by decide +kernel) rfl rfl rfl (by decide +kernel)
set_option maxRecDepth 65536 in
theorem w_c16 : (Jvm.Cond.code ({ cls := "com/example/hqsim/hqsim/engine/kernel/PendingEvents", name := "add", desc := "(Lcom/example/hqsim/hqsim/engine/kernel/Event;)V" } : Jvm.MethodName) prog_18_method_3_code (2 : Nat) (Option.none : Option Jvm.ClassFile.FieldType)).before args0 about1 = true := code_word (m := ⟨9, 2⟩) (meth := k9m2) (c := k9c2) (by decide +kernel) rfl rfl rfl (by decide +kernel)
set_option maxRecDepth 65536 in
theorem w_c17 : (Jvm.Cond.code ({ cls := "com/example/hqsim/hqsim/engine/kernel/PendingEvents", name := "siftUp", desc := "(ILcom/example/hqsim/hqsim/engine/kernel/Event;)V" } : Jvm.MethodName) prog_18_method_10_code (5 : Nat) (Option.none : Option Jvm.ClassFile.FieldType)).before args0 about1 = true := code_word (m := ⟨9, 5⟩) (meth := k9m5) (c := k9c5) (by decide +kernel) rfl rfl rfl (by decide +kernel)
set_option maxRecDepth 65536 in
theorem w_c18 : (Jvm.Cond.code ({ cls := "com/example/hqsim/hqsim/engine/kernel/PendingEvents", name := "place", desc := "(Lcom/example/hqsim/hqsim/engine/kernel/Event;I)V" } : Jvm.MethodName) prog_18_method_12_code (3 : Nat) (Option.none : Option Jvm.ClassFile.FieldType)).before args0 about1 = true := code_word (m := ⟨9, 7⟩) (meth := k9m7) (c := k9c7) (by decide +kernel) rfl rfl rfl (by decide +kernel)
set_option maxRecDepth 65536 in
theorem w_c19 : (Jvm.Cond.code ({ cls := "com/example/hqsim/hqsim/engine/statistics/MeasurementWindow", name := "end", desc := "()D" } : Jvm.MethodName) prog_53_method_8_code (1 : Nat) (Option.some Jvm.ClassFile.FieldType.double)).before args0 about1 = true := code_word (m := ⟨13, 2⟩) (meth := k13m2) (c := k13c2) (by decide +kernel) rfl rfl rfl (by decide +kernel)
set_option maxRecDepth 65536 in
theorem w_c20 : (Jvm.Cond.code ({ cls := "java/lang/Math", name := "nextUp", desc := "(D)D" } : Jvm.MethodName) jdk_29_method_95_code (4 : Nat) (Option.some Jvm.ClassFile.FieldType.double)).before args0 about1 = true := code_word (m := ⟨15, 1⟩) (meth := k15m1) (c := k15c1) (by decide +kernel) rfl rfl rfl (by decide +kernel)
set_option maxRecDepth 65536 in
theorem w_c21 : (Jvm.Cond.code ({ cls := "com/example/hqsim/hqsim/engine/kernel/PendingEvents", name := "before", desc := "(Lcom/example/hqsim/hqsim/engine/kernel/Event;Lcom/example/hqsim/hqsim/engine/kernel/Event;)Z" } : Jvm.MethodName) prog_18_method_17_code (2 : Nat) (Option.some Jvm.ClassFile.FieldType.boolean)).before args0 about1 = true := code_word (m := ⟨9, 8⟩) (meth := k9m8) (c := k9c8) (by decide +kernel) rfl rfl rfl (by decide +kernel)
set_option maxRecDepth 65536 in
theorem w_c22 : (Jvm.Cond.code ({ cls := "com/example/hqsim/hqsim/engine/network/EndToEnd", name := "<init>", desc := "(Lcom/example/hqsim/hqsim/engine/kernel/Simulation;Lcom/example/hqsim/hqsim/engine/statistics/MeasurementWindow;Lcom/example/hqsim/hqsim/engine/network/Measurement;Lcom/example/hqsim/hqsim/engine/network/DeliveryTimeMetrics;)V" } : Jvm.MethodName) prog_35_method_1_code (7 : Nat) (Option.none : Option Jvm.ClassFile.FieldType)).before args0 about1 = true := code_word (m := ⟨19, 0⟩) (meth := k19m0) (c := k19c0) (by decide +kernel) rfl rfl rfl (by decide +kernel)
set_option maxRecDepth 65536 in
theorem w_c23 : (Jvm.Cond.code ({ cls := "com/example/hqsim/hqsim/engine/network/Fate", name := "values", desc := "()[Lcom/example/hqsim/hqsim/engine/network/Fate;" } : Jvm.MethodName) prog_37_method_1_code (0 : Nat) (Option.some (Jvm.ClassFile.FieldType.array (Jvm.ClassFile.FieldType.object "com/example/hqsim/hqsim/engine/network/Fate")))).before args0 about1 = true := code_word (m := ⟨6, 0⟩) (meth := k6m0) (c := k6c0) (by decide +kernel) rfl rfl rfl (by decide +kernel)
set_option maxRecDepth 65536 in
theorem w_c24 : (Jvm.Cond.code ({ cls := "com/example/hqsim/hqsim/engine/statistics/QuantileHistogram", name := "<init>", desc := "()V" } : Jvm.MethodName) prog_54_method_1_code (1 : Nat) (Option.none : Option Jvm.ClassFile.FieldType)).before args0 about1 = true := code_word (m := ⟨22, 0⟩) (meth := k22m0) (c := k22c0) (by decide +kernel) rfl rfl rfl (by decide +kernel)
set_option maxRecDepth 65536 in
theorem w_c25 : (Jvm.Cond.code ({ cls := "java/util/ArrayList", name := "<init>", desc := "()V" } : Jvm.MethodName) jdk_38_method_2_code (1 : Nat) (Option.none : Option Jvm.ClassFile.FieldType)).before args0 about1 = true := code_word (m := ⟨30, 0⟩) (meth := k30m0) (c := k30c0) (by decide +kernel) rfl rfl rfl (by decide +kernel)
set_option maxRecDepth 65536 in
theorem w_c26 : (Jvm.Cond.code ({ cls := "java/util/AbstractList", name := "<init>", desc := "()V" } : Jvm.MethodName) jdk_39_method_1_code (1 : Nat) (Option.none : Option Jvm.ClassFile.FieldType)).before args0 about1 = true := code_word (m := ⟨28, 0⟩) (meth := k28m0) (c := k28c0) (by decide +kernel) rfl rfl rfl (by decide +kernel)
set_option maxRecDepth 65536 in
theorem w_c27 : (Jvm.Cond.code ({ cls := "java/util/AbstractCollection", name := "<init>", desc := "()V" } : Jvm.MethodName) jdk_22_method_1_code (1 : Nat) (Option.none : Option Jvm.ClassFile.FieldType)).before args0 about1 = true := code_word (m := ⟨25, 0⟩) (meth := k25m0) (c := k25c0) (by decide +kernel) rfl rfl rfl (by decide +kernel)
set_option maxRecDepth 65536 in
theorem w_c28 : (Jvm.Cond.code ({ cls := "com/example/hqsim/hqsim/engine/network/DeliveryTimeMetrics", name := "within", desc := "()Ljava/util/List;" } : Jvm.MethodName) prog_33_method_5_code (1 : Nat) (Option.some (Jvm.ClassFile.FieldType.object "java/util/List"))).before args0 about1 = true := code_word (m := ⟨20, 0⟩) (meth := k20m0) (c := k20c0) (by decide +kernel) rfl rfl rfl (by decide +kernel)
set_option maxRecDepth 65536 in
theorem w_c29 : (Jvm.Cond.code ({ cls := "java/util/ImmutableCollections$ListN", name := "size", desc := "()I" } : Jvm.MethodName) jdk_45_method_3_code (1 : Nat) (Option.some Jvm.ClassFile.FieldType.int)).before args0 about1 = true := code_word (m := ⟨33, 0⟩) (meth := k33m0) (c := k33c0) (by decide +kernel) rfl rfl rfl (by decide +kernel)
set_option maxRecDepth 65536 in
theorem w_c30 : (Jvm.Cond.code ({ cls := "com/example/hqsim/hqsim/engine/network/EndToEnd", name := "produce", desc := "(Lcom/example/hqsim/hqsim/engine/network/Origin;JD)Lcom/example/hqsim/hqsim/engine/network/Message;" } : Jvm.MethodName) prog_35_method_3_code (10 : Nat) (Option.some (Jvm.ClassFile.FieldType.object "com/example/hqsim/hqsim/engine/network/Message"))).before args0 about1 = true := code_word (m := ⟨19, 1⟩) (meth := k19m1) (c := k19c1) (by decide +kernel) rfl rfl rfl (by decide +kernel)
set_option maxRecDepth 65536 in
theorem w_c31 : (Jvm.Cond.code ({ cls := "com/example/hqsim/hqsim/engine/kernel/Simulation", name := "now", desc := "()D" } : Jvm.MethodName) prog_19_method_3_code (1 : Nat) (Option.some Jvm.ClassFile.FieldType.double)).before args0 about1 = true := code_word (m := ⟨8, 2⟩) (meth := k8m2) (c := k8c2) (by decide +kernel) rfl rfl rfl (by decide +kernel)
set_option maxRecDepth 65536 in
theorem w_c32 : (Jvm.Cond.code ({ cls := "com/example/hqsim/hqsim/engine/network/Measurement", name := "begun", desc := "()J" } : Jvm.MethodName) prog_38_method_3_code (1 : Nat) (Option.some Jvm.ClassFile.FieldType.long)).before args0 about1 = true := code_word (m := ⟨11, 2⟩) (meth := k11m2) (c := k11c2) (by decide +kernel) rfl rfl rfl (by decide +kernel)
set_option maxRecDepth 65536 in
theorem w_c33 : (Jvm.Cond.code ({ cls := "com/example/hqsim/hqsim/engine/network/Message", name := "<init>", desc := "(Lcom/example/hqsim/hqsim/engine/network/Origin;JDDZ)V" } : Jvm.MethodName) prog_40_method_1_code (9 : Nat) (Option.none : Option Jvm.ClassFile.FieldType)).before args0 about1 = true := code_word (m := ⟨34, 0⟩) (meth := k34m0) (c := k34c0) (by decide +kernel) rfl rfl rfl (by decide +kernel)
set_option maxRecDepth 65536 in
theorem w_c34 : (Jvm.Cond.code ({ cls := "com/example/hqsim/hqsim/engine/kernel/Simulation", name := "run", desc := "()V" } : Jvm.MethodName) prog_19_method_10_code (2 : Nat) (Option.none : Option Jvm.ClassFile.FieldType)).before args0 about1 = true := code_word (m := ⟨8, 5⟩) (meth := k8m5) (c := k8c5) (by decide +kernel) rfl rfl rfl (by decide +kernel)
set_option maxRecDepth 65536 in
theorem w_c35 : (Jvm.Cond.code ({ cls := "com/example/hqsim/hqsim/engine/kernel/PendingEvents", name := "size", desc := "()I" } : Jvm.MethodName) prog_18_method_2_code (1 : Nat) (Option.some Jvm.ClassFile.FieldType.int)).before args0 about1 = true := code_word (m := ⟨9, 1⟩) (meth := k9m1) (c := k9c1) (by decide +kernel) rfl rfl rfl (by decide +kernel)
set_option maxRecDepth 65536 in
theorem w_c36 : (Jvm.Cond.code ({ cls := "com/example/hqsim/hqsim/engine/kernel/PendingEvents", name := "first", desc := "()Lcom/example/hqsim/hqsim/engine/kernel/Event;" } : Jvm.MethodName) prog_18_method_4_code (7 : Nat) (Option.some (Jvm.ClassFile.FieldType.object "com/example/hqsim/hqsim/engine/kernel/Event"))).before args0 about1 = true := code_word (m := ⟨9, 3⟩) (meth := k9m3) (c := k9c3) (by decide +kernel) rfl rfl rfl (by decide +kernel)
set_option maxRecDepth 65536 in
theorem w_c37 : (Jvm.Cond.code ({ cls := "com/example/hqsim/hqsim/engine/kernel/EventBudget", name := "spend", desc := "(D)V" } : Jvm.MethodName) prog_15_method_5_code (3 : Nat) (Option.none : Option Jvm.ClassFile.FieldType)).before args0 about1 = true := code_word (m := ⟨7, 2⟩) (meth := k7m2) (c := k7c2) (by decide +kernel) rfl rfl rfl (by decide +kernel)
set_option maxRecDepth 65536 in
theorem w_c38 : (Jvm.Cond.code ({ cls := "com/example/hqsim/hqsim/engine/kernel/PendingEvents", name := "take", desc := "(Lcom/example/hqsim/hqsim/engine/kernel/Event;)V" } : Jvm.MethodName) prog_18_method_5_code (3 : Nat) (Option.none : Option Jvm.ClassFile.FieldType)).before args0 about1 = true := code_word (m := ⟨9, 4⟩) (meth := k9m4) (c := k9c4) (by decide +kernel) rfl rfl rfl (by decide +kernel)
set_option maxRecDepth 65536 in
theorem w_c39 : (Jvm.Cond.code ({ cls := "com/example/hqsim/hqsim/engine/kernel/PendingEvents", name := "siftDown", desc := "(ILcom/example/hqsim/hqsim/engine/kernel/Event;)V" } : Jvm.MethodName) prog_18_method_11_code (6 : Nat) (Option.none : Option Jvm.ClassFile.FieldType)).before args0 about1 = true := code_word (m := ⟨9, 6⟩) (meth := k9m6) (c := k9c6) (by decide +kernel) rfl rfl rfl (by decide +kernel)
set_option maxRecDepth 65536 in
theorem w_c40 : (Jvm.Cond.code ({ cls := "com/example/hqsim/hqsim/engine/network/Measurement$Edge", name := "run", desc := "()V" } : Jvm.MethodName) prog_39_method_2_code (1 : Nat) (Option.none : Option Jvm.ClassFile.FieldType)).before args0 about1 = true := code_word (m := ⟨14, 1⟩) (meth := k14m1) (c := k14c1) (by decide +kernel) rfl rfl rfl (by decide +kernel)
set_option maxRecDepth 65536 in
theorem w_c41 : (Jvm.Cond.code ({ cls := "com/example/hqsim/hqsim/engine/network/EndToEnd", name := "leave", desc := "(Lcom/example/hqsim/hqsim/engine/network/Message;Lcom/example/hqsim/hqsim/engine/network/Fate;)V" } : Jvm.MethodName) prog_35_method_4_code (5 : Nat) (Option.none : Option Jvm.ClassFile.FieldType)).before args0 about1 = true := code_word (m := ⟨19, 2⟩) (meth := k19m2) (c := k19c2) (by decide +kernel) rfl rfl rfl (by decide +kernel)
set_option maxRecDepth 65536 in
theorem w_c42 : (Jvm.Cond.code ({ cls := "com/example/hqsim/hqsim/engine/network/Measurement", name := "inside", desc := "()J" } : Jvm.MethodName) prog_38_method_2_code (1 : Nat) (Option.some Jvm.ClassFile.FieldType.long)).before args0 about1 = true := code_word (m := ⟨11, 1⟩) (meth := k11m1) (c := k11c1) (by decide +kernel) rfl rfl rfl (by decide +kernel)
set_option maxRecDepth 65536 in
theorem w_c43 : (Jvm.Cond.code ({ cls := "com/example/hqsim/hqsim/engine/network/Message", name := "measured", desc := "()Z" } : Jvm.MethodName) prog_40_method_6_code (1 : Nat) (Option.some Jvm.ClassFile.FieldType.boolean)).before args0 about1 = true := code_word (m := ⟨34, 2⟩) (meth := k34m2) (c := k34c2) (by decide +kernel) rfl rfl rfl (by decide +kernel)
set_option maxRecDepth 65536 in
theorem w_c44 : (Jvm.Cond.code ({ cls := "java/util/ArrayList", name := "size", desc := "()I" } : Jvm.MethodName) jdk_38_method_8_code (1 : Nat) (Option.some Jvm.ClassFile.FieldType.int)).before args0 about1 = true := code_word (m := ⟨30, 1⟩) (meth := k30m1) (c := k30c1) (by decide +kernel) rfl rfl rfl (by decide +kernel)
set_option maxRecDepth 65536 in
theorem w_c45 : (Jvm.Cond.code ({ cls := "com/example/hqsim/hqsim/engine/kernel/Simulation", name := "spend", desc := "(J)V" } : Jvm.MethodName) prog_19_method_9_code (3 : Nat) (Option.none : Option Jvm.ClassFile.FieldType)).before args0 about1 = true := code_word (m := ⟨8, 4⟩) (meth := k8m4) (c := k8c4) (by decide +kernel) rfl rfl rfl (by decide +kernel)
set_option maxRecDepth 65536 in
theorem w_c46 : (Jvm.Cond.code ({ cls := "com/example/hqsim/hqsim/engine/kernel/EventBudget", name := "spend", desc := "(JD)V" } : Jvm.MethodName) prog_15_method_6_code (5 : Nat) (Option.none : Option Jvm.ClassFile.FieldType)).before args0 about1 = true := code_word (m := ⟨7, 3⟩) (meth := k7m3) (c := k7c3) (by decide +kernel) rfl rfl rfl (by decide +kernel)
set_option maxRecDepth 65536 in
theorem w_c47 : (Jvm.Cond.code ({ cls := "java/util/ArrayList", name := "iterator", desc := "()Ljava/util/Iterator;" } : Jvm.MethodName) jdk_38_method_55_code (1 : Nat) (Option.some (Jvm.ClassFile.FieldType.object "java/util/Iterator"))).before args0 about1 = true := code_word (m := ⟨30, 2⟩) (meth := k30m2) (c := k30c2) (by decide +kernel) rfl rfl rfl (by decide +kernel)
set_option maxRecDepth 65536 in
theorem w_c48 : (Jvm.Cond.code ({ cls := "java/util/ArrayList$Itr", name := "<init>", desc := "(Ljava/util/ArrayList;)V" } : Jvm.MethodName) jdk_49_method_1_code (2 : Nat) (Option.none : Option Jvm.ClassFile.FieldType)).before args0 about1 = true := code_word (m := ⟨36, 0⟩) (meth := k36m0) (c := k36c0) (by decide +kernel) rfl rfl rfl (by decide +kernel)
set_option maxRecDepth 65536 in
theorem w_c49 : (Jvm.Cond.code ({ cls := "java/util/ArrayList$Itr", name := "hasNext", desc := "()Z" } : Jvm.MethodName) jdk_49_method_2_code (1 : Nat) (Option.some Jvm.ClassFile.FieldType.boolean)).before args0 about1 = true := code_word (m := ⟨36, 1⟩) (meth := k36m1) (c := k36c1) (by decide +kernel) rfl rfl rfl (by decide +kernel)
set_option maxRecDepth 65536 in
theorem w_c50 : (Jvm.Cond.code ({ cls := "com/example/hqsim/hqsim/engine/network/EndToEnd", name := "goesOn", desc := "()Z" } : Jvm.MethodName) prog_35_method_7_code (1 : Nat) (Option.some Jvm.ClassFile.FieldType.boolean)).before args0 about1 = true := code_word (m := ⟨19, 4⟩) (meth := k19m4) (c := k19c4) (by decide +kernel) rfl rfl rfl (by decide +kernel)
set_option maxRecDepth 65536 in
theorem w_c51 : (Jvm.Cond.code ({ cls := "com/example/hqsim/hqsim/engine/network/EndToEnd", name := "count", desc := "(Lcom/example/hqsim/hqsim/engine/network/Message;Lcom/example/hqsim/hqsim/engine/network/Fate;)V" } : Jvm.MethodName) prog_35_method_6_code (6 : Nat) (Option.none : Option Jvm.ClassFile.FieldType)).before args0 about1 = true := code_word (m := ⟨19, 3⟩) (meth := k19m3) (c := k19c3) (by decide +kernel) rfl rfl rfl (by decide +kernel)
set_option maxRecDepth 65536 in
theorem w_c52 : (Jvm.Cond.code ({ cls := "java/lang/Enum", name := "ordinal", desc := "()I" } : Jvm.MethodName) jdk_37_method_2_code (1 : Nat) (Option.some Jvm.ClassFile.FieldType.int)).before args0 about1 = true := code_word (m := ⟨5, 0⟩) (meth := k5m0) (c := k5c0) (by decide +kernel) rfl rfl rfl (by decide +kernel)
set_option maxRecDepth 65536 in
theorem w_c53 : (Jvm.Cond.code ({ cls := "com/example/hqsim/hqsim/engine/network/Message", name := "produced", desc := "()D" } : Jvm.MethodName) prog_40_method_4_code (1 : Nat) (Option.some Jvm.ClassFile.FieldType.double)).before args0 about1 = true := code_word (m := ⟨34, 1⟩) (meth := k34m1) (c := k34c1) (by decide +kernel) rfl rfl rfl (by decide +kernel)
set_option maxRecDepth 65536 in
theorem w_c54 : (Jvm.Cond.code ({ cls := "com/example/hqsim/hqsim/engine/statistics/QuantileHistogram", name := "add", desc := "(D)V" } : Jvm.MethodName) prog_54_method_2_code (6 : Nat) (Option.none : Option Jvm.ClassFile.FieldType)).before args0 about1 = true := code_word (m := ⟨22, 1⟩) (meth := k22m1) (c := k22c1) (by decide +kernel) rfl rfl rfl (by decide +kernel)
def codes1 : List Jvm.Cond := [Jvm.Cond.code x code maxLocals ret, Jvm.Cond.code ({ cls := "com/example/hqsim/hqsim/engine/kernel/EventBudget", name := "<init>", desc := "(J)V" } : Jvm.MethodName) prog_15_method_1_code (3 : Nat) (Option.none : Option Jvm.ClassFile.FieldType), Jvm.Cond.code ({ cls := "com/example/hqsim/hqsim/engine/kernel/EventBudget", name := "<init>", desc := "(JJ)V" } : Jvm.MethodName) prog_15_method_2_code (5 : Nat) (Option.none : Option Jvm.ClassFile.FieldType), Jvm.Cond.code ({ cls := "java/lang/Object", name := "<init>", desc := "()V" } : Jvm.MethodName) object_method_1_code (1 : Nat) (Option.none : Option Jvm.ClassFile.FieldType), Jvm.Cond.code ({ cls := "com/example/hqsim/hqsim/engine/kernel/Simulation", name := "<init>", desc := "(Lcom/example/hqsim/hqsim/engine/kernel/EventBudget;)V" } : Jvm.MethodName) prog_19_method_1_code (2 : Nat) (Option.none : Option Jvm.ClassFile.FieldType), Jvm.Cond.code ({ cls := "com/example/hqsim/hqsim/engine/kernel/Simulation", name := "<init>", desc := "(Lcom/example/hqsim/hqsim/engine/kernel/EventBudget;I)V" } : Jvm.MethodName) prog_19_method_2_code (3 : Nat) (Option.none : Option Jvm.ClassFile.FieldType), Jvm.Cond.code ({ cls := "com/example/hqsim/hqsim/engine/kernel/PendingEvents", name := "<init>", desc := "(I)V" } : Jvm.MethodName) prog_18_method_1_code (2 : Nat) (Option.none : Option Jvm.ClassFile.FieldType), Jvm.Cond.code ({ cls := "com/example/hqsim/hqsim/engine/statistics/MeasurementWindow", name := "<init>", desc := "(DD)V" } : Jvm.MethodName) prog_53_method_1_code (5 : Nat) (Option.none : Option Jvm.ClassFile.FieldType), Jvm.Cond.code ({ cls := "java/lang/Record", name := "<init>", desc := "()V" } : Jvm.MethodName) jdk_30_method_1_code (1 : Nat) (Option.none : Option Jvm.ClassFile.FieldType), Jvm.Cond.code ({ cls := "com/example/hqsim/hqsim/engine/network/Measurement", name := "<init>", desc := "(Lcom/example/hqsim/hqsim/engine/kernel/Simulation;Lcom/example/hqsim/hqsim/engine/statistics/MeasurementWindow;)V" } : Jvm.MethodName) prog_38_method_1_code (3 : Nat) (Option.none : Option Jvm.ClassFile.FieldType), Jvm.Cond.code ({ cls := "com/example/hqsim/hqsim/engine/statistics/MeasurementWindow", name := "start", desc := "()D" } : Jvm.MethodName) prog_53_method_7_code (1 : Nat) (Option.some Jvm.ClassFile.FieldType.double), Jvm.Cond.code ({ cls := "com/example/hqsim/hqsim/engine/network/Measurement$Edge", name := "<init>", desc := "(Lcom/example/hqsim/hqsim/engine/network/Measurement;J)V" } : Jvm.MethodName) prog_39_method_1_code (4 : Nat) (Option.none : Option Jvm.ClassFile.FieldType), Jvm.Cond.code ({ cls := "com/example/hqsim/hqsim/engine/kernel/Event", name := "<init>", desc := "()V" } : Jvm.MethodName) prog_14_method_1_code (1 : Nat) (Option.none : Option Jvm.ClassFile.FieldType), Jvm.Cond.code ({ cls := "com/example/hqsim/hqsim/engine/kernel/Simulation", name := "scheduleAt", desc := "(DLcom/example/hqsim/hqsim/engine/kernel/Event;)V" } : Jvm.MethodName) prog_19_method_7_code (4 : Nat) (Option.none : Option Jvm.ClassFile.FieldType), Jvm.Cond.code ({ cls := "com/example/hqsim/hqsim/engine/kernel/Simulation", name := "add", desc := "(DLcom/example/hqsim/hqsim/engine/kernel/Event;)V" } : Jvm.MethodName) prog_19_method_11_code (4 : Nat) (Option.none : Option Jvm.ClassFile.FieldType), Jvm.Cond.code ({ cls := "com/example/hqsim/hqsim/engine/kernel/Event", name := "pending", desc := "()Z" } : Jvm.MethodName) prog_14_method_3_code (1 : Nat) (Option.some Jvm.ClassFile.FieldType.boolean), Jvm.Cond.code ({ cls := "com/example/hqsim/hqsim/engine/kernel/PendingEvents", name := "add", desc := "(Lcom/example/hqsim/hqsim/engine/kernel/Event;)V" } : Jvm.MethodName) prog_18_method_3_code (2 : Nat) (Option.none : Option Jvm.ClassFile.FieldType), Jvm.Cond.code ({ cls := "com/example/hqsim/hqsim/engine/kernel/PendingEvents", name := "siftUp", desc := "(ILcom/example/hqsim/hqsim/engine/kernel/Event;)V" } : Jvm.MethodName) prog_18_method_10_code (5 : Nat) (Option.none : Option Jvm.ClassFile.FieldType), Jvm.Cond.code ({ cls := "com/example/hqsim/hqsim/engine/kernel/PendingEvents", name := "place", desc := "(Lcom/example/hqsim/hqsim/engine/kernel/Event;I)V" } : Jvm.MethodName) prog_18_method_12_code (3 : Nat) (Option.none : Option Jvm.ClassFile.FieldType), Jvm.Cond.code ({ cls := "com/example/hqsim/hqsim/engine/statistics/MeasurementWindow", name := "end", desc := "()D" } : Jvm.MethodName) prog_53_method_8_code (1 : Nat) (Option.some Jvm.ClassFile.FieldType.double), Jvm.Cond.code ({ cls := "java/lang/Math", name := "nextUp", desc := "(D)D" } : Jvm.MethodName) jdk_29_method_95_code (4 : Nat) (Option.some Jvm.ClassFile.FieldType.double), Jvm.Cond.code ({ cls := "com/example/hqsim/hqsim/engine/kernel/PendingEvents", name := "before", desc := "(Lcom/example/hqsim/hqsim/engine/kernel/Event;Lcom/example/hqsim/hqsim/engine/kernel/Event;)Z" } : Jvm.MethodName) prog_18_method_17_code (2 : Nat) (Option.some Jvm.ClassFile.FieldType.boolean), Jvm.Cond.code ({ cls := "com/example/hqsim/hqsim/engine/network/EndToEnd", name := "<init>", desc := "(Lcom/example/hqsim/hqsim/engine/kernel/Simulation;Lcom/example/hqsim/hqsim/engine/statistics/MeasurementWindow;Lcom/example/hqsim/hqsim/engine/network/Measurement;Lcom/example/hqsim/hqsim/engine/network/DeliveryTimeMetrics;)V" } : Jvm.MethodName) prog_35_method_1_code (7 : Nat) (Option.none : Option Jvm.ClassFile.FieldType), Jvm.Cond.code ({ cls := "com/example/hqsim/hqsim/engine/network/Fate", name := "values", desc := "()[Lcom/example/hqsim/hqsim/engine/network/Fate;" } : Jvm.MethodName) prog_37_method_1_code (0 : Nat) (Option.some (Jvm.ClassFile.FieldType.array (Jvm.ClassFile.FieldType.object "com/example/hqsim/hqsim/engine/network/Fate"))), Jvm.Cond.code ({ cls := "com/example/hqsim/hqsim/engine/statistics/QuantileHistogram", name := "<init>", desc := "()V" } : Jvm.MethodName) prog_54_method_1_code (1 : Nat) (Option.none : Option Jvm.ClassFile.FieldType), Jvm.Cond.code ({ cls := "java/util/ArrayList", name := "<init>", desc := "()V" } : Jvm.MethodName) jdk_38_method_2_code (1 : Nat) (Option.none : Option Jvm.ClassFile.FieldType), Jvm.Cond.code ({ cls := "java/util/AbstractList", name := "<init>", desc := "()V" } : Jvm.MethodName) jdk_39_method_1_code (1 : Nat) (Option.none : Option Jvm.ClassFile.FieldType), Jvm.Cond.code ({ cls := "java/util/AbstractCollection", name := "<init>", desc := "()V" } : Jvm.MethodName) jdk_22_method_1_code (1 : Nat) (Option.none : Option Jvm.ClassFile.FieldType), Jvm.Cond.code ({ cls := "com/example/hqsim/hqsim/engine/network/DeliveryTimeMetrics", name := "within", desc := "()Ljava/util/List;" } : Jvm.MethodName) prog_33_method_5_code (1 : Nat) (Option.some (Jvm.ClassFile.FieldType.object "java/util/List")), Jvm.Cond.code ({ cls := "java/util/ImmutableCollections$ListN", name := "size", desc := "()I" } : Jvm.MethodName) jdk_45_method_3_code (1 : Nat) (Option.some Jvm.ClassFile.FieldType.int), Jvm.Cond.code ({ cls := "com/example/hqsim/hqsim/engine/network/EndToEnd", name := "produce", desc := "(Lcom/example/hqsim/hqsim/engine/network/Origin;JD)Lcom/example/hqsim/hqsim/engine/network/Message;" } : Jvm.MethodName) prog_35_method_3_code (10 : Nat) (Option.some (Jvm.ClassFile.FieldType.object "com/example/hqsim/hqsim/engine/network/Message")), Jvm.Cond.code ({ cls := "com/example/hqsim/hqsim/engine/kernel/Simulation", name := "now", desc := "()D" } : Jvm.MethodName) prog_19_method_3_code (1 : Nat) (Option.some Jvm.ClassFile.FieldType.double), Jvm.Cond.code ({ cls := "com/example/hqsim/hqsim/engine/network/Measurement", name := "begun", desc := "()J" } : Jvm.MethodName) prog_38_method_3_code (1 : Nat) (Option.some Jvm.ClassFile.FieldType.long), Jvm.Cond.code ({ cls := "com/example/hqsim/hqsim/engine/network/Message", name := "<init>", desc := "(Lcom/example/hqsim/hqsim/engine/network/Origin;JDDZ)V" } : Jvm.MethodName) prog_40_method_1_code (9 : Nat) (Option.none : Option Jvm.ClassFile.FieldType), Jvm.Cond.code ({ cls := "com/example/hqsim/hqsim/engine/kernel/Simulation", name := "run", desc := "()V" } : Jvm.MethodName) prog_19_method_10_code (2 : Nat) (Option.none : Option Jvm.ClassFile.FieldType), Jvm.Cond.code ({ cls := "com/example/hqsim/hqsim/engine/kernel/PendingEvents", name := "size", desc := "()I" } : Jvm.MethodName) prog_18_method_2_code (1 : Nat) (Option.some Jvm.ClassFile.FieldType.int), Jvm.Cond.code ({ cls := "com/example/hqsim/hqsim/engine/kernel/PendingEvents", name := "first", desc := "()Lcom/example/hqsim/hqsim/engine/kernel/Event;" } : Jvm.MethodName) prog_18_method_4_code (7 : Nat) (Option.some (Jvm.ClassFile.FieldType.object "com/example/hqsim/hqsim/engine/kernel/Event")), Jvm.Cond.code ({ cls := "com/example/hqsim/hqsim/engine/kernel/EventBudget", name := "spend", desc := "(D)V" } : Jvm.MethodName) prog_15_method_5_code (3 : Nat) (Option.none : Option Jvm.ClassFile.FieldType), Jvm.Cond.code ({ cls := "com/example/hqsim/hqsim/engine/kernel/PendingEvents", name := "take", desc := "(Lcom/example/hqsim/hqsim/engine/kernel/Event;)V" } : Jvm.MethodName) prog_18_method_5_code (3 : Nat) (Option.none : Option Jvm.ClassFile.FieldType), Jvm.Cond.code ({ cls := "com/example/hqsim/hqsim/engine/kernel/PendingEvents", name := "siftDown", desc := "(ILcom/example/hqsim/hqsim/engine/kernel/Event;)V" } : Jvm.MethodName) prog_18_method_11_code (6 : Nat) (Option.none : Option Jvm.ClassFile.FieldType), Jvm.Cond.code ({ cls := "com/example/hqsim/hqsim/engine/network/Measurement$Edge", name := "run", desc := "()V" } : Jvm.MethodName) prog_39_method_2_code (1 : Nat) (Option.none : Option Jvm.ClassFile.FieldType), Jvm.Cond.code ({ cls := "com/example/hqsim/hqsim/engine/network/EndToEnd", name := "leave", desc := "(Lcom/example/hqsim/hqsim/engine/network/Message;Lcom/example/hqsim/hqsim/engine/network/Fate;)V" } : Jvm.MethodName) prog_35_method_4_code (5 : Nat) (Option.none : Option Jvm.ClassFile.FieldType), Jvm.Cond.code ({ cls := "com/example/hqsim/hqsim/engine/network/Measurement", name := "inside", desc := "()J" } : Jvm.MethodName) prog_38_method_2_code (1 : Nat) (Option.some Jvm.ClassFile.FieldType.long), Jvm.Cond.code ({ cls := "com/example/hqsim/hqsim/engine/network/Message", name := "measured", desc := "()Z" } : Jvm.MethodName) prog_40_method_6_code (1 : Nat) (Option.some Jvm.ClassFile.FieldType.boolean), Jvm.Cond.code ({ cls := "java/util/ArrayList", name := "size", desc := "()I" } : Jvm.MethodName) jdk_38_method_8_code (1 : Nat) (Option.some Jvm.ClassFile.FieldType.int), Jvm.Cond.code ({ cls := "com/example/hqsim/hqsim/engine/kernel/Simulation", name := "spend", desc := "(J)V" } : Jvm.MethodName) prog_19_method_9_code (3 : Nat) (Option.none : Option Jvm.ClassFile.FieldType), Jvm.Cond.code ({ cls := "com/example/hqsim/hqsim/engine/kernel/EventBudget", name := "spend", desc := "(JD)V" } : Jvm.MethodName) prog_15_method_6_code (5 : Nat) (Option.none : Option Jvm.ClassFile.FieldType), Jvm.Cond.code ({ cls := "java/util/ArrayList", name := "iterator", desc := "()Ljava/util/Iterator;" } : Jvm.MethodName) jdk_38_method_55_code (1 : Nat) (Option.some (Jvm.ClassFile.FieldType.object "java/util/Iterator")), Jvm.Cond.code ({ cls := "java/util/ArrayList$Itr", name := "<init>", desc := "(Ljava/util/ArrayList;)V" } : Jvm.MethodName) jdk_49_method_1_code (2 : Nat) (Option.none : Option Jvm.ClassFile.FieldType), Jvm.Cond.code ({ cls := "java/util/ArrayList$Itr", name := "hasNext", desc := "()Z" } : Jvm.MethodName) jdk_49_method_2_code (1 : Nat) (Option.some Jvm.ClassFile.FieldType.boolean), Jvm.Cond.code ({ cls := "com/example/hqsim/hqsim/engine/network/EndToEnd", name := "goesOn", desc := "()Z" } : Jvm.MethodName) prog_35_method_7_code (1 : Nat) (Option.some Jvm.ClassFile.FieldType.boolean), Jvm.Cond.code ({ cls := "com/example/hqsim/hqsim/engine/network/EndToEnd", name := "count", desc := "(Lcom/example/hqsim/hqsim/engine/network/Message;Lcom/example/hqsim/hqsim/engine/network/Fate;)V" } : Jvm.MethodName) prog_35_method_6_code (6 : Nat) (Option.none : Option Jvm.ClassFile.FieldType), Jvm.Cond.code ({ cls := "java/lang/Enum", name := "ordinal", desc := "()I" } : Jvm.MethodName) jdk_37_method_2_code (1 : Nat) (Option.some Jvm.ClassFile.FieldType.int), Jvm.Cond.code ({ cls := "com/example/hqsim/hqsim/engine/network/Message", name := "produced", desc := "()D" } : Jvm.MethodName) prog_40_method_4_code (1 : Nat) (Option.some Jvm.ClassFile.FieldType.double), Jvm.Cond.code ({ cls := "com/example/hqsim/hqsim/engine/statistics/QuantileHistogram", name := "add", desc := "(D)V" } : Jvm.MethodName) prog_54_method_2_code (6 : Nat) (Option.none : Option Jvm.ClassFile.FieldType)]
set_option maxRecDepth 65536 in
theorem codes_eq : words1.filter isCode = codes1 := rfl
theorem w_codes : ∀ c ∈ words1.filter isCode, c.before args0 about1 = true := by
  rw [codes_eq]
  intro c hc
  simp only [codes1, List.mem_cons, List.not_mem_nil, or_false] at hc
  rcases hc with rfl | rfl | rfl | rfl | rfl | rfl | rfl | rfl | rfl | rfl | rfl | rfl | rfl | rfl | rfl | rfl | rfl | rfl | rfl | rfl | rfl | rfl | rfl | rfl | rfl | rfl | rfl | rfl | rfl | rfl | rfl | rfl | rfl | rfl | rfl | rfl | rfl | rfl | rfl | rfl | rfl | rfl | rfl | rfl | rfl | rfl | rfl | rfl | rfl | rfl | rfl | rfl | rfl | rfl | rfl
  · exact w_c0
  · exact w_c1
  · exact w_c2
  · exact w_c3
  · exact w_c4
  · exact w_c5
  · exact w_c6
  · exact w_c7
  · exact w_c8
  · exact w_c9
  · exact w_c10
  · exact w_c11
  · exact w_c12
  · exact w_c13
  · exact w_c14
  · exact w_c15
  · exact w_c16
  · exact w_c17
  · exact w_c18
  · exact w_c19
  · exact w_c20
  · exact w_c21
  · exact w_c22
  · exact w_c23
  · exact w_c24
  · exact w_c25
  · exact w_c26
  · exact w_c27
  · exact w_c28
  · exact w_c29
  · exact w_c30
  · exact w_c31
  · exact w_c32
  · exact w_c33
  · exact w_c34
  · exact w_c35
  · exact w_c36
  · exact w_c37
  · exact w_c38
  · exact w_c39
  · exact w_c40
  · exact w_c41
  · exact w_c42
  · exact w_c43
  · exact w_c44
  · exact w_c45
  · exact w_c46
  · exact w_c47
  · exact w_c48
  · exact w_c49
  · exact w_c50
  · exact w_c51
  · exact w_c52
  · exact w_c53
  · exact w_c54
set_option maxRecDepth 65536 in
theorem w_t1 : (words1.take 24).all (fun c => isCode c || c.before args0 about1) = true := by decide +kernel
set_option maxRecDepth 65536 in
theorem w_t2 : ((words1.drop 24).take 24).all (fun c => isCode c || c.before args0 about1) = true := by decide +kernel
set_option maxRecDepth 65536 in
theorem w_t3 : (((words1.drop 24).drop 24).take 24).all (fun c => isCode c || c.before args0 about1) = true := by decide +kernel
set_option maxRecDepth 65536 in
theorem w_t4 : ((((words1.drop 24).drop 24).drop 24).take 24).all (fun c => isCode c || c.before args0 about1) = true := by decide +kernel
set_option maxRecDepth 65536 in
theorem w_t5 : (((((words1.drop 24).drop 24).drop 24).drop 24).take 24).all (fun c => isCode c || c.before args0 about1) = true := by decide +kernel
set_option maxRecDepth 65536 in
theorem w_t6 : ((((((words1.drop 24).drop 24).drop 24).drop 24).drop 24).take 24).all (fun c => isCode c || c.before args0 about1) = true := by decide +kernel
set_option maxRecDepth 65536 in
theorem w_t7 : (((((((words1.drop 24).drop 24).drop 24).drop 24).drop 24).drop 24).take 24).all (fun c => isCode c || c.before args0 about1) = true := by decide +kernel
set_option maxRecDepth 65536 in
theorem w_t8 : ((((((((words1.drop 24).drop 24).drop 24).drop 24).drop 24).drop 24).drop 24).take 24).all (fun c => isCode c || c.before args0 about1) = true := by decide +kernel
set_option maxRecDepth 65536 in
theorem w_t9 : (((((((((words1.drop 24).drop 24).drop 24).drop 24).drop 24).drop 24).drop 24).drop 24).take 24).all (fun c => isCode c || c.before args0 about1) = true := by decide +kernel
set_option maxRecDepth 65536 in
theorem w_t10 : ((((((((((words1.drop 24).drop 24).drop 24).drop 24).drop 24).drop 24).drop 24).drop 24).drop 24).take 24).all (fun c => isCode c || c.before args0 about1) = true := by decide +kernel
set_option maxRecDepth 65536 in
theorem w_t11 : (((((((((((words1.drop 24).drop 24).drop 24).drop 24).drop 24).drop 24).drop 24).drop 24).drop 24).drop 24).take 24).all (fun c => isCode c || c.before args0 about1) = true := by decide +kernel
set_option maxRecDepth 65536 in
theorem w_t12 : ((((((((((((words1.drop 24).drop 24).drop 24).drop 24).drop 24).drop 24).drop 24).drop 24).drop 24).drop 24).drop 24).take 24).all (fun c => isCode c || c.before args0 about1) = true := by decide +kernel
set_option maxRecDepth 65536 in
theorem w_t13 : (((((((((((((words1.drop 24).drop 24).drop 24).drop 24).drop 24).drop 24).drop 24).drop 24).drop 24).drop 24).drop 24).drop 24).take 24).all (fun c => isCode c || c.before args0 about1) = true := by decide +kernel
set_option maxRecDepth 65536 in
theorem w_t14 : ((((((((((((((words1.drop 24).drop 24).drop 24).drop 24).drop 24).drop 24).drop 24).drop 24).drop 24).drop 24).drop 24).drop 24).drop 24).take 24).all (fun c => isCode c || c.before args0 about1) = true := by decide +kernel
set_option maxRecDepth 65536 in
theorem w_t15 : (((((((((((((((words1.drop 24).drop 24).drop 24).drop 24).drop 24).drop 24).drop 24).drop 24).drop 24).drop 24).drop 24).drop 24).drop 24).drop 24).take 24).all (fun c => isCode c || c.before args0 about1) = true := by decide +kernel
set_option maxRecDepth 65536 in
theorem w_t16 : ((((((((((((((((words1.drop 24).drop 24).drop 24).drop 24).drop 24).drop 24).drop 24).drop 24).drop 24).drop 24).drop 24).drop 24).drop 24).drop 24).drop 24).take 24).all (fun c => isCode c || c.before args0 about1) = true := by decide +kernel
set_option maxRecDepth 65536 in
theorem w_t17 : (((((((((((((((((words1.drop 24).drop 24).drop 24).drop 24).drop 24).drop 24).drop 24).drop 24).drop 24).drop 24).drop 24).drop 24).drop 24).drop 24).drop 24).drop 24).take 24).all (fun c => isCode c || c.before args0 about1) = true := by decide +kernel
set_option maxRecDepth 65536 in
theorem w_t18 : ((((((((((((((((((words1.drop 24).drop 24).drop 24).drop 24).drop 24).drop 24).drop 24).drop 24).drop 24).drop 24).drop 24).drop 24).drop 24).drop 24).drop 24).drop 24).drop 24).take 24).all (fun c => isCode c || c.before args0 about1) = true := by decide +kernel
set_option maxRecDepth 65536 in
theorem w_t19 : (((((((((((((((((((words1.drop 24).drop 24).drop 24).drop 24).drop 24).drop 24).drop 24).drop 24).drop 24).drop 24).drop 24).drop 24).drop 24).drop 24).drop 24).drop 24).drop 24).drop 24).take 24).all (fun c => isCode c || c.before args0 about1) = true := by decide +kernel
set_option maxRecDepth 65536 in
theorem w_t20 : (((((((((((((((((((words1.drop 24).drop 24).drop 24).drop 24).drop 24).drop 24).drop 24).drop 24).drop 24).drop 24).drop 24).drop 24).drop 24).drop 24).drop 24).drop 24).drop 24).drop 24).drop 24).all (fun c => isCode c || c.before args0 about1) = true := by decide +kernel
theorem w_tables : (allAtoms (Jvm.Cond.code x code maxLocals ret :: tables_1)).before args0 about1 = true := by
  rw [allAtoms_all]
  show words1.all (fun c => c.before args0 about1) = true
  refine all_split ?_ w_codes
  rw [← List.take_append_drop 24 words1, List.all_append, w_t1, ← List.take_append_drop 24 (words1.drop 24), List.all_append, w_t2, ← List.take_append_drop 24 ((words1.drop 24).drop 24), List.all_append, w_t3, ← List.take_append_drop 24 (((words1.drop 24).drop 24).drop 24), List.all_append, w_t4, ← List.take_append_drop 24 ((((words1.drop 24).drop 24).drop 24).drop 24), List.all_append, w_t5, ← List.take_append_drop 24 (((((words1.drop 24).drop 24).drop 24).drop 24).drop 24), List.all_append, w_t6, ← List.take_append_drop 24 ((((((words1.drop 24).drop 24).drop 24).drop 24).drop 24).drop 24), List.all_append, w_t7, ← List.take_append_drop 24 (((((((words1.drop 24).drop 24).drop 24).drop 24).drop 24).drop 24).drop 24), List.all_append, w_t8, ← List.take_append_drop 24 ((((((((words1.drop 24).drop 24).drop 24).drop 24).drop 24).drop 24).drop 24).drop 24), List.all_append, w_t9, ← List.take_append_drop 24 (((((((((words1.drop 24).drop 24).drop 24).drop 24).drop 24).drop 24).drop 24).drop 24).drop 24), List.all_append, w_t10, ← List.take_append_drop 24 ((((((((((words1.drop 24).drop 24).drop 24).drop 24).drop 24).drop 24).drop 24).drop 24).drop 24).drop 24), List.all_append, w_t11, ← List.take_append_drop 24 (((((((((((words1.drop 24).drop 24).drop 24).drop 24).drop 24).drop 24).drop 24).drop 24).drop 24).drop 24).drop 24), List.all_append, w_t12, ← List.take_append_drop 24 ((((((((((((words1.drop 24).drop 24).drop 24).drop 24).drop 24).drop 24).drop 24).drop 24).drop 24).drop 24).drop 24).drop 24), List.all_append, w_t13, ← List.take_append_drop 24 (((((((((((((words1.drop 24).drop 24).drop 24).drop 24).drop 24).drop 24).drop 24).drop 24).drop 24).drop 24).drop 24).drop 24).drop 24), List.all_append, w_t14, ← List.take_append_drop 24 ((((((((((((((words1.drop 24).drop 24).drop 24).drop 24).drop 24).drop 24).drop 24).drop 24).drop 24).drop 24).drop 24).drop 24).drop 24).drop 24), List.all_append, w_t15, ← List.take_append_drop 24 (((((((((((((((words1.drop 24).drop 24).drop 24).drop 24).drop 24).drop 24).drop 24).drop 24).drop 24).drop 24).drop 24).drop 24).drop 24).drop 24).drop 24), List.all_append, w_t16, ← List.take_append_drop 24 ((((((((((((((((words1.drop 24).drop 24).drop 24).drop 24).drop 24).drop 24).drop 24).drop 24).drop 24).drop 24).drop 24).drop 24).drop 24).drop 24).drop 24).drop 24), List.all_append, w_t17, ← List.take_append_drop 24 (((((((((((((((((words1.drop 24).drop 24).drop 24).drop 24).drop 24).drop 24).drop 24).drop 24).drop 24).drop 24).drop 24).drop 24).drop 24).drop 24).drop 24).drop 24).drop 24), List.all_append, w_t18, ← List.take_append_drop 24 ((((((((((((((((((words1.drop 24).drop 24).drop 24).drop 24).drop 24).drop 24).drop 24).drop 24).drop 24).drop 24).drop 24).drop 24).drop 24).drop 24).drop 24).drop 24).drop 24).drop 24), List.all_append, w_t19, w_t20]
  rfl
set_option maxRecDepth 65536 in
theorem w_rest : rest_1_c.before args0 about1 = true := by decide +kernel
set_option maxRecDepth 65536 in
theorem w_case : (Jvm.Cond.and given_1 narrow_1).before args0 about1 = true := by decide +kernel
theorem w_applies : (headSpec (Jvm.Cond.code x code maxLocals ret :: tables_1) room_1).applies x e0.platform about1 = true :=
  (Spec.applies_iff w_frames).mpr ⟨w_running, w_runnable, w_alone, w_named, w_hears, w_ripe, w_room, w_tables⟩
theorem atStart : AtStart classFile x code maxLocals ret World_1 tables_1 room_1 Calls_1 rest_1 Pre_1 launch0 p0 e0 about1 theMethod args0 below0 :=
  ⟨lists_1, trivial, launch0.admits_env _ _ _, launch0.least_env, fairChoices_fair.cas, fairChoices_fair.clock, w_frames, w_args, w_heap, w_applies, trivial, w_rest, w_case⟩
end start1
theorem witness_1 : WitnessClaimed_1 := ⟨start1.p0, start1.e0, start1.about1, start1.theMethod, start1.args0, start1.below0, start1.atStart⟩
end Jvm.Pilot.@@N@@
