import JvmDerived
import JvmDerived.Pilot.@@N@@Statement
import JvmDerived.Pilot.@@N@@Code
set_option linter.unusedVariables false
set_option linter.unusedSimpArgs false
namespace Jvm.RoadKit
open Sem ClassFile Op Lib Jvm.Stand Jvm.Free Jvm.LawKit
/-! own_: walks written forward: 'Goes P T g': from the frame g at T the run comes to a state that P takes. -/
def Goes (p : Program) (e : Env) (below : List Frame) (P : State → Prop) (T : State) (g : JFrame) : Prop := ∃ t, Steps p.tables e below (T.setTop g) t ∧ P t
/-- how a body ends: it returned v, and Q holds of v, the heap and the places written -/
def Fin1 (below : List Frame) (s : State) (rm : Room) (Q : Option Value → Heap → List Loc → Prop) (t : State) : Prop :=
  ∃ o, t.status = .running ∧ Ended t below o ∧ ∃ v L, o = .returned v ∧ Q v t.heap L ∧ FrameEnd s o t L rm.cells rm.slots
/-- a body's contract -/
def Does (l : Launch) (y : MethodName) (bytes : ByteArray) (maxL : Nat) (ret : Option FieldType) (ws : List Cond) (rm : Room) (Z : State) (as' : Array Value) (h : Heap) (Q : Option Value → Heap → List Loc → Prop) : Prop :=
  MetFree l y (head1 (Cond.code y bytes maxL ret :: ws) rm) (fun a U => a = as' ∧ Z.Warmed39 U.vm ∧ U.heap = h) (fun _ _ _ _ _ => True) (fun _ U o U' => ∃ v L, o = .returned v ∧ Q v U'.heap L ∧ FrameEnd U o U' L rm.cells rm.slots)
section Own
variable {p : Program} {l : Launch} {e : Env} {R : Room} {s : State} {m : MethodId} {args : Array Value} {below : List Frame} {meth : Method} {c : Code} {T T' : State} {locs : List Loc} {cells slots : Nat} {Z : State} {a0 : Array Value} {h h' : Heap} {g g' : JFrame} {P : State → Prop}
theorem Goes.by (st : ∀ target, Steps p.tables e below (T'.setTop g') target → Steps p.tables e below (T.setTop g) target) (k : Goes p e below P T' g') : Goes p e below P T g := by
  obtain ⟨t, h1, h2⟩ := k
  exact ⟨t, st _ h1, h2⟩
theorem Goes.cast (q : g = g') (k : Goes p e below P T g') : Goes p e below P T g := q ▸ k
theorem Does.of {y : MethodName} {bytes : ByteArray} {maxL : Nat} {ret : Option FieldType} {ws : List Cond} {rm : Room} {as' : Array Value} {Q : Option Value → Heap → List Loc → Prop} (hp : plainFor y = true)
    (body : ∀ (p : Program) (e : Env) (s : State) (m : MethodId) (below : List Frame) (meth : Method) (c : Code) (s₁ : State), p.tables.exec = Jvm.exec → c.code = bytes → c.maxLocals = maxL → meth.sig.returnType = ret → meth.locks = false → Z.Warmed39 s.vm → s.vm.findClass y.cls = some m.cls → meth.name = y.name → Stand p l e rm s m as' below meth c s₁ [] 0 0 → s₁.heap = h →
      Goes p e below (Fin1 below s rm Q) s₁ (entryFrame m as' maxL)) : Does l y bytes maxL ret ws rm Z as' h Q := by
  refine MetFree.of_bodySF hp hisR ?_
  intro p e s m args below meth c s₁ Bd hml0 hP hK
  obtain ⟨rfl, hZ, hh⟩ := hP
  have e0 : s₁.heap = h := by rw [← hh, Bd.state]; rfl
  obtain ⟨t, h1, o, h2⟩ := body p e s m below meth c s₁ Bd.exec Bd.bytes hml0 Bd.returns Bd.notSynchronized hZ (findClass_of_methodNamed Bd.named) ((name_of_methodNamed Bd.named Bd.method).1) (Stand.of_body Bd) e0
  exact ⟨t, o, h1, h2⟩
theorem fin_of {rm : Room} {Q : Option Value → Heap → List Loc → Prop} {v : Option Value} (X : Stand p l e R s m args below meth c T locs cells slots) (hlk : meth.locks = false) (hv : meth.sig.returnType = none → v = none) (hQ : Q v T.heap locs) (hc : cells ≤ rm.cells) (hs : slots ≤ rm.slots)
    (st : ∀ fs, (∀ (f : JFrame) (acts : List Action), f.method = m → f.locked = none → f.entered = [] → (doReturn e (T.setTop f) acts v).1 = T.setFrames fs) → Steps p.tables e below (T.setTop g) (T.setFrames fs)) : Goes p e below (Fin1 below s rm Q) T g := by
  obtain ⟨fs, hr, hrun, hended, hW, hsame⟩ := X.leave (v := v) hv hlk
  exact ⟨_, st fs hr, _, hrun, hended, _, _, rfl, hQ, ⟨_, rfl⟩, hW, hsame.mono hc hs⟩
theorem outV {rm : Room} {Q : Option Value → Heap → List Loc → Prop} {pc : Nat} {Ls : Array Slot} (X : Stand p l e R s m args below meth c T locs cells slots) (hx : p.tables.exec = Jvm.exec) (hlk : meth.locks = false) (hret : meth.sig.returnType = none) (hd : decode c.code pc = .ok (.return_, 1)) (hQ : Q none T.heap locs) (hc : cells ≤ rm.cells) (hs : slots ≤ rm.slots) : Goes p e below (Fin1 below s rm Q) T (mkF m pc Ls []) :=
  fin_of X hlk (fun _ => rfl) hQ hc hs fun fs hr => X.returnOut hx hret hd hr
theorem outZ {rm : Room} {Q : Option Value → Heap → List Loc → Prop} {pc : Nat} {Ls : Array Slot} {z : Int32} {rest : List Value} (X : Stand p l e R s m args below meth c T locs cells slots) (hx : p.tables.exec = Jvm.exec) (hlk : meth.locks = false) (hret : meth.sig.returnType = some .boolean) (hd : decode c.code pc = .ok (.ireturn, 1)) (hQ : Q (some (.int (nar .boolean z))) T.heap locs) (hc : cells ≤ rm.cells) (hs : slots ≤ rm.slots) : Goes p e below (Fin1 below s rm Q) T (mkF m pc Ls (.int z :: rest)) :=
  fin_of X hlk (fun h => by rw [hret] at h; cases h) hQ hc hs fun fs hr => retN X hx (t := .boolean) hret (by simp) hd hr
theorem outO {rm : Room} {Q : Option Value → Heap → List Loc → Prop} {pc : Nat} {Ls : Array Slot} {w : Value} {t : FieldType} {i : Instr} {rest : List Value} (X : Stand p l e R s m args below meth c T locs cells slots) (hx : p.tables.exec = Jvm.exec) (hlk : meth.locks = false) (hret : meth.sig.returnType = some t) (hn : narrow t w = w)
    (hi : (i = .ireturn ∧ (t = .int ∨ t = .boolean ∨ t = .byte ∨ t = .char ∨ t = .short) ∧ ∃ z, w = .int z) ∨ (i = .lreturn ∧ t = .long ∧ ∃ z, w = .long z) ∨ (i = .dreturn ∧ t = .double ∧ ∃ z, w = .double z) ∨ (i = .freturn ∧ t = .float ∧ ∃ z, w = .float z) ∨ (i = .areturn ∧ t.isReference = true ∧ w.isRef = true))
    (hd : decode c.code pc = .ok (i, 1)) (hQ : Q (some w) T.heap locs) (hc : cells ≤ rm.cells) (hs : slots ≤ rm.slots) : Goes p e below (Fin1 below s rm Q) T (mkF m pc Ls (w :: rest)) :=
  fin_of X hlk (fun h => by rw [hret] at h; cases h) hQ hc hs fun fs hr => retOut X hx hret hn hi hd hr
theorem outI {rm : Room} {Q : Option Value → Heap → List Loc → Prop} {pc : Nat} {Ls : Array Slot} {z : Int32} {rest : List Value} (X : Stand p l e R s m args below meth c T locs cells slots) (hx : p.tables.exec = Jvm.exec) (hlk : meth.locks = false) (hret : meth.sig.returnType = some .int) (hd : decode c.code pc = .ok (.ireturn, 1)) (hQ : Q (some (.int z)) T.heap locs) (hc : cells ≤ rm.cells) (hs : slots ≤ rm.slots) : Goes p e below (Fin1 below s rm Q) T (mkF m pc Ls (.int z :: rest)) :=
  outO X hx hlk hret rfl (Or.inl ⟨rfl, Or.inl rfl, _, rfl⟩) hd hQ hc hs
theorem outJ {rm : Room} {Q : Option Value → Heap → List Loc → Prop} {pc : Nat} {Ls : Array Slot} {z : Int64} {rest : List Value} (X : Stand p l e R s m args below meth c T locs cells slots) (hx : p.tables.exec = Jvm.exec) (hlk : meth.locks = false) (hret : meth.sig.returnType = some .long) (hd : decode c.code pc = .ok (.lreturn, 1)) (hQ : Q (some (.long z)) T.heap locs) (hc : cells ≤ rm.cells) (hs : slots ≤ rm.slots) : Goes p e below (Fin1 below s rm Q) T (mkF m pc Ls (.long z :: rest)) :=
  outO X hx hlk hret rfl (Or.inr (Or.inl ⟨rfl, rfl, _, rfl⟩)) hd hQ hc hs
theorem outD {rm : Room} {Q : Option Value → Heap → List Loc → Prop} {pc : Nat} {Ls : Array Slot} {z : UInt64} {rest : List Value} (X : Stand p l e R s m args below meth c T locs cells slots) (hx : p.tables.exec = Jvm.exec) (hlk : meth.locks = false) (hret : meth.sig.returnType = some .double) (hd : decode c.code pc = .ok (.dreturn, 1)) (hQ : Q (some (.double z)) T.heap locs) (hc : cells ≤ rm.cells) (hs : slots ≤ rm.slots) : Goes p e below (Fin1 below s rm Q) T (mkF m pc Ls (.double z :: rest)) :=
  outO X hx hlk hret rfl (Or.inr (Or.inr (Or.inl ⟨rfl, rfl, _, rfl⟩))) hd hQ hc hs
theorem outA {rm : Room} {Q : Option Value → Heap → List Loc → Prop} {pc : Nat} {Ls : Array Slot} {w : Value} {t : FieldType} {rest : List Value} (X : Stand p l e R s m args below meth c T locs cells slots) (hx : p.tables.exec = Jvm.exec) (hlk : meth.locks = false) (hret : meth.sig.returnType = some t) (ht : t.isReference = true) (hw : w.isRef = true) (hn : narrow t w = w) (hd : decode c.code pc = .ok (.areturn, 1)) (hQ : Q (some w) T.heap locs) (hc : cells ≤ rm.cells) (hs : slots ≤ rm.slots) : Goes p e below (Fin1 below s rm Q) T (mkF m pc Ls (w :: rest)) :=
  outO X hx hlk hret hn (Or.inr (Or.inr (Or.inr (Or.inr ⟨rfl, ht, hw⟩)))) hd hQ hc hs
/-! calls by a contract -/
theorem callI (X : Stand p l e R s m args below meth c T locs cells slots) (hx : p.tables.exec = Jvm.exec) (hZ : Z.Warmed39 s.vm) {own : String} {index : Nat} {y : MethodName} (hy1 : y.name = "<init>") (hown : s.vm.findClass own = some m.cls) {bytes : ByteArray} {maxL : Nat} {rm : Room}
    (w1 : (Cond.methodLink own index y).before a0 Z = true) (w2 : (Cond.instanceMethod y).before a0 Z = true) (w3 : (Cond.code y bytes maxL none).before a0 Z = true) (w4 : (Cond.initialized y.cls).before a0 Z = true) (hy : y.cls ≠ "java/lang/invoke/MethodHandle" ∧ y.cls ≠ "java/lang/invoke/VarHandle")
    (eT : T.heap = h) {a : Addr} {argsL rest : List Value} {as' : Array Value} {Q : Option Value → Heap → List Loc → Prop} {W : Nat} (hM : Does l y bytes maxL none [] rm Z as' h Q) (has : (.ref a :: argsL).toArray = as') (hf : rm.frames + 1 ≤ R.frames) (hl : W + (maxL + 11) + rm.locals ≤ R.locals)
    (hcc : cells + rm.cells ≤ R.cells) (hss : slots + rm.slots ≤ R.slots) {g : JFrame} (hg : g.method = m) (hsize : g.locals.size = c.maxLocals) (hlen : ∀ sig, parseMethodDescriptor y.desc = some sig → argsL.length = sig.parameters.length) (hst : g.stack = argsL.reverse ++ .ref a :: rest) (hW : 2 * g.monitorRoom + (rest.map fun v => v.category).sum ≤ W) (hd : decode c.code g.pc = .ok (.invokespecial index, 3)) :
    ∃ v T' L, Stand p l e R s m args below meth c T' (locs ++ L) (cells + rm.cells) (slots + rm.slots) ∧ Q v T'.heap L ∧ ∀ target, Steps p.tables e below (T'.setTop { g with pc := g.pc + 3, stack := v.toList ++ rest }) target → Steps p.tables e below (T.setTop g) target := by
  obtain ⟨v, vm1, ⟨T', L', k', n'⟩, -, X', ⟨L, hQ, e1, e2, e3⟩, st⟩ := X.specialBack hx (y := y) hy1 hown (mvT hZ w1) (mvT hZ w2) (mvT hZ w3) hy (backOf (W := W) hM hZ w3 w4 hf hl) hg hsize (Steps.refl _) hlen hst hW hd (fun _ _ => ⟨has, eT, hcc, hss⟩)
  dsimp only [Pt.U, Pt.locs, Pt.cells, Pt.slots] at X' e1 e2 e3 st hQ
  subst e1 e2 e3
  exact ⟨v, T', L, X', hQ, fun t k => st.trans k⟩
theorem callV (X : Stand p l e R s m args below meth c T locs cells slots) (hx : p.tables.exec = Jvm.exec) (hZ : Z.Warmed39 s.vm) {own C : String} {index : Nat} {y : MethodName} (hown : s.vm.findClass own = some m.cls) {bytes : ByteArray} {maxL : Nat} {ret : Option FieldType} {rm : Room}
    (w1 : (Cond.methodLink own index y).before a0 Z = true) (w2 : (Cond.declares y).before a0 Z = true) (w3 : (Cond.selects C y y).before a0 Z = true) (w4 : (Cond.instanceMethod y).before a0 Z = true) (w5 : (Cond.code y bytes maxL ret).before a0 Z = true) (w6 : (Cond.initialized y.cls).before a0 Z = true) (hy : y.cls ≠ "java/lang/invoke/MethodHandle" ∧ y.cls ≠ "java/lang/invoke/VarHandle")
    (eT : T.heap = h) {a : Addr} (E : Exa Z h a C) {argsL rest : List Value} {as' : Array Value} {Q : Option Value → Heap → List Loc → Prop} {W : Nat} (hM : Does l y bytes maxL ret [] rm Z as' h Q) (has : (.ref a :: argsL).toArray = as') (hf : rm.frames + 1 ≤ R.frames) (hl : W + (maxL + 11) + rm.locals ≤ R.locals)
    (hcc : cells + rm.cells ≤ R.cells) (hss : slots + rm.slots ≤ R.slots) {g : JFrame} (hg : g.method = m) (hsize : g.locals.size = c.maxLocals) (hlen : ∀ sig, parseMethodDescriptor y.desc = some sig → argsL.length = sig.parameters.length) (hst : g.stack = argsL.reverse ++ .ref a :: rest) (hW : 2 * g.monitorRoom + (rest.map fun v => v.category).sum ≤ W) (hd : decode c.code g.pc = .ok (.invokevirtual index, 3)) :
    ∃ v T' L, Stand p l e R s m args below meth c T' (locs ++ L) (cells + rm.cells) (slots + rm.slots) ∧ Q v T'.heap L ∧ ∀ target, Steps p.tables e below (T'.setTop { g with pc := g.pc + 3, stack := v.toList ++ rest }) target → Steps p.tables e below (T.setTop g) target := by
  obtain ⟨cB, kB, q1, q2, q3⟩ := isOf hZ eT E
  obtain ⟨v, vm1, ⟨T', L', k', n'⟩, -, X', ⟨L, hQ, e1, e2, e3⟩, st⟩ := X.virtualBack hx (y := y) (z := y) hown (mvT hZ w1) (mvT hZ w2) (notFace_of_selects (args := args) (mvT hZ w3)) (mvT hZ w3) (mvT hZ w4) hy (backOf (W := W) hM hZ w5 w6 hf hl) q1 q3 hg hsize (Steps.refl _) hlen hst hW hd (fun _ _ => ⟨has, eT, hcc, hss⟩)
  dsimp only [Pt.U, Pt.locs, Pt.cells, Pt.slots] at X' e1 e2 e3 st hQ
  subst e1 e2 e3
  exact ⟨v, T', L, X', hQ, fun t k => st.trans k⟩
theorem callC (X : Stand p l e R s m args below meth c T locs cells slots) (hx : p.tables.exec = Jvm.exec) (hZ : Z.Warmed39 s.vm) {own : String} {index : Nat} {y : MethodName} (hown : s.vm.findClass own = some m.cls) {bytes : ByteArray} {maxL : Nat} {ret : Option FieldType} {rm : Room}
    (w1 : (Cond.methodLink own index y).before a0 Z = true) (w2 : (Cond.static y).before a0 Z = true) (w3 : (Cond.code y bytes maxL ret).before a0 Z = true) (w4 : (Cond.initialized y.cls).before a0 Z = true) (hy : y.cls ≠ "java/lang/invoke/MethodHandle" ∧ y.cls ≠ "java/lang/invoke/VarHandle")
    (eT : T.heap = h) {argsL rest : List Value} {as' : Array Value} {Q : Option Value → Heap → List Loc → Prop} {W : Nat} (hM : Does l y bytes maxL ret [] rm Z as' h Q) (has : argsL.toArray = as') (hf : rm.frames + 1 ≤ R.frames) (hl : W + (maxL + 11) + rm.locals ≤ R.locals)
    (hcc : cells + rm.cells ≤ R.cells) (hss : slots + rm.slots ≤ R.slots) {g : JFrame} (hg : g.method = m) (hsize : g.locals.size = c.maxLocals) (hlen : ∀ sig, parseMethodDescriptor y.desc = some sig → argsL.length = sig.parameters.length) (hst : g.stack = argsL.reverse ++ rest) (hW : 2 * g.monitorRoom + (rest.map fun v => v.category).sum ≤ W) (hd : decode c.code g.pc = .ok (.invokestatic index, 3)) :
    ∃ v T' L, Stand p l e R s m args below meth c T' (locs ++ L) (cells + rm.cells) (slots + rm.slots) ∧ Q v T'.heap L ∧ ∀ target, Steps p.tables e below (T'.setTop { g with pc := g.pc + 3, stack := v.toList ++ rest }) target → Steps p.tables e below (T.setTop g) target := by
  obtain ⟨v, vm1, ⟨T', L', k', n'⟩, -, X', ⟨L, hQ, e1, e2, e3⟩, st⟩ := Jvm.LawKit.callS X hx (y := y) hown (mvT hZ w1) (mvT hZ w2) (mvT hZ w4) (mvT hZ w3) hy (backOf (W := W) hM hZ w3 w4 hf hl) hg hsize hlen hst hW hd (fun _ _ => ⟨has, eT, hcc, hss⟩)
  dsimp only [Pt.U, Pt.locs, Pt.cells, Pt.slots] at X' e1 e2 e3 st hQ
  subst e1 e2 e3
  exact ⟨v, T', L, X', hQ, st⟩
end Own
end Jvm.RoadKit
namespace Jvm.Free.XS
open Sem ClassFile Op Lib
theorem lcmpS {tb : Tables} [Ours tb] {e : Env} {below : List Frame} {T target : State} {m : MethodId} {c : Code} {g : JFrame} (h : At T m c below) (hx : tb.exec = Jvm.exec) (hg : g.method = m) {x y : Int64} {v : Int32} {rest : List Value} (hd : decode c.code g.pc = .ok (.lcmp, 1)) (hs : g.stack = .long y :: .long x :: rest) (hv : Jvm.RoadKit.lcmpW x y = v)
    (hr : Steps tb e below (T.setTop { g with pc := g.pc + 1, stack := .int v :: rest }) target) : Steps tb e below (T.setTop g) target := by
  subst hv
  exact lcmp h hx hg hd hs hr
end Jvm.Free.XS
namespace Jvm.RoadKit
open Sem ClassFile Op Lib Jvm.Stand Jvm.Free Jvm.LawKit Jvm.FP Jvm.Free.Fl
section OwnD
theorem own_cmp (i j : Int) : compare i j = if i < j then Ordering.lt else if i = j then Ordering.eq else Ordering.gt := rfl
theorem cmpL_lt {x y : Int64} (h : x < y) : lcmpW x y = -1 := by
  have h' := Int64.lt_iff_toInt_lt.mp h
  show (if y < x then (1 : Int32) else if x = y then 0 else -1) = -1
  rw [if_neg (fun q => by have := Int64.lt_iff_toInt_lt.mp q; omega), if_neg (fun q => by rw [q] at h'; omega)]
theorem cmpL_eq {x y : Int64} (h : x = y) : lcmpW x y = 0 := by
  subst h
  show (if x < x then (1 : Int32) else if x = x then 0 else -1) = 0
  rw [if_neg (fun q => by have := Int64.lt_iff_toInt_lt.mp q; omega), if_pos rfl]
theorem cmpL_gt {x y : Int64} (h : y < x) : lcmpW x y = 1 := by
  show (if y < x then (1 : Int32) else if x = y then 0 else -1) = 1
  rw [if_pos h]
theorem DInt_nn {i : Int} {x : UInt64} (h : Core.DInt i x) : NoNaN64 x := val64_no.mpr (Core.DInt_ne_nan h)
theorem DInt_fin {i : Int} {x : UInt64} (h : Core.DInt i x) : Fin64 x := fin64_core.mpr (by
  have h' : Core.Whole i (Core.val64 x) := h
  cases q : Core.val64 x with
  | nan => rw [q] at h'; exact h'.elim
  | inf s => rw [q] at h'; exact h'.elim
  | fin s c e => exact ⟨s, c, e, q⟩)
theorem cmpD_lt {i j : Int} {x y : UInt64} (hx : Core.DInt i x) (hy : Core.DInt j y) (h : i < j) (o : CmpOp) : cmpValue (FP.dcmp x y) o = -1 := by
  rw [show FP.dcmp x y = _ from Core.dcmp_int hx hy, own_cmp, if_pos h]; rfl
theorem cmpD_eq {i j : Int} {x y : UInt64} (hx : Core.DInt i x) (hy : Core.DInt j y) (h : i = j) (o : CmpOp) : cmpValue (FP.dcmp x y) o = 0 := by
  rw [show FP.dcmp x y = _ from Core.dcmp_int hx hy, own_cmp, if_neg (by omega), if_pos h]; rfl
theorem cmpD_gt {i j : Int} {x y : UInt64} (hx : Core.DInt i x) (hy : Core.DInt j y) (h : j < i) (o : CmpOp) : cmpValue (FP.dcmp x y) o = 1 := by
  rw [show FP.dcmp x y = _ from Core.dcmp_int hx hy, own_cmp, if_neg (by omega), if_neg (by omega)]; rfl
theorem DInt_zero : Core.DInt 0 0 := by
  have h := Core.l2d_int (a := 0) (by decide)
  rw [show Core.l2d 0 = 0 from l2d_zero] at h
  exact h
theorem DInt_i2d {x : Int32} {d : UInt64} (q : FP.i2d x = d) : Core.DInt x.toInt d := q ▸ Core.i2d_int x
theorem DInt_l2d {x : Int64} {d : UInt64} (q : FP.l2d x = d) (h : x.toInt.natAbs ≤ 2 ^ 53) : Core.DInt x.toInt d := q ▸ Core.l2d_int h
theorem DInt_add {i j : Int} {a b d : UInt64} (q : FP.dadd a b = d) (ha : Core.DInt i a) (hb : Core.DInt j b) (h : (i + j).natAbs ≤ 2 ^ 53) : Core.DInt (i + j) d := q ▸ Core.dadd_int ha hb h
theorem DInt_sub {i j : Int} {a b d : UInt64} (q : FP.dsub a b = d) (ha : Core.DInt i a) (hb : Core.DInt j b) (h : (i - j).natAbs ≤ 2 ^ 53) : Core.DInt (i - j) d := q ▸ Core.dsub_int ha hb h
theorem DInt_mul {i j : Int} {a b d : UInt64} (q : FP.dmul a b = d) (ha : Core.DInt i a) (hb : Core.DInt j b) (h : (i * j).natAbs ≤ 2 ^ 53) : Core.DInt (i * j) d := q ▸ Core.dmul_int ha hb h
end OwnD
/-! an array by the list of its values -/
def Sar (Z : State) (h : Heap) (a : Addr) (ty : FieldType) (vs : List Value) : Prop := ∃ c : Cell, Arr Z h a c ty ∧ c.slots = vs.toArray
section OwnA
variable {p : Program} {l : Launch} {e : Env} {R : Room} {s : State} {m : MethodId} {args : Array Value} {below : List Frame} {meth : Method} {c : Code} {T : State} {locs : List Loc} {cells slots : Nat} {Z : State} {a0 : Array Value} {h h' : Heap} {a b : Addr} {ty : FieldType} {vs : List Value} {sl : Nat} {v : Value} {ws : List Addr}
theorem Sar.lt (F : Sar Z h a ty vs) : a < h.size := by obtain ⟨c, A, -⟩ := F; exact A.lt
theorem Sar.ext (F : Sar Z h a ty vs) (E : Ext h h') : Sar Z h' a ty vs := by obtain ⟨c, A, r⟩ := F; exact ⟨c, A.ext E, r⟩
theorem Sar.other (F : Sar Z h b ty vs) (W : Wr h h' a sl v) (q : b ≠ a) : Sar Z h' b ty vs := by obtain ⟨c, A, r⟩ := F; exact ⟨c, A.other W q, r⟩
theorem Sar.keep (F : Sar Z h a ty vs) (K : Keep h h' ws) (q : a ∉ ws) : Sar Z h' a ty vs := by obtain ⟨c, A, r⟩ := F; exact ⟨c, ⟨K.2.1 a c A.1 q, A.2⟩, r⟩
theorem Sar.new {k : ClassId} {z : Int32} {n : Nat} (A : Arr Z h a (newA k ty z) ty) (hn : z.toNatClampNeg = n) : Sar Z h a ty (List.replicate n (defaultValue ty)) := ⟨_, A, by subst hn; show Array.replicate _ _ = _; simp⟩
theorem Sar.in {cl : Cell} {j : Int32} {i : Nat} (S : cl.slots = vs.toArray) (hj : j.toInt = i) (hi : i < vs.length) : ¬ (j < 0 ∨ cl.slots.size ≤ j.toNatClampNeg) := by
  rw [S]
  have q : j.toNatClampNeg = i := by show j.toInt.toNat = i; omega
  have r : ¬ j < 0 := fun z => by have z' := Int32.lt_iff_toInt_lt.mp z; rw [hj] at z'; simp at z'; omega
  rw [q]
  simp only [List.size_toArray]
  intro z
  rcases z with z | z
  · exact r z
  · omega
theorem Sar.nat {j : Int32} {i : Nat} (hj : j.toInt = i) : j.toNatClampNeg = i := by show j.toInt.toNat = i; omega
theorem stDS (X : Stand p l e R s m args below meth c T locs cells slots) (hx : p.tables.exec = Jvm.exec) (hZ : Z.Warmed39 s.vm) (eT : T.heap = h) (V : Sar Z h a .double vs) {j : Int32} {x : UInt64} (i : Nat) (hj : j.toInt = i) (hi : i < vs.length) {g : JFrame} (hg : g.method = m) {rest : List Value} (hs : g.stack = .double x :: .int j :: .ref a :: rest) (hd : decode c.code g.pc = .ok (.dastore, 1)) :
    ∃ T' h', Stand p l e R s m args below meth c T' (locs ++ [⟨a, i⟩]) cells slots ∧ T'.heap = h' ∧ Wr h h' a i (.double x) ∧ Sar Z h' a .double (vs.set i (.double x)) ∧ ∀ target, Steps p.tables e below (T'.setTop { g with pc := g.pc + 1, stack := rest }) target → Steps p.tables e below (T.setTop g) target := by
  obtain ⟨cl, A, S⟩ := V
  obtain ⟨T', h', X', e', W, st⟩ := stD X hx hZ eT A (Sar.in S hj hi) hg hs hd
  rw [Sar.nat hj] at X' W
  exact ⟨T', h', X', e', W, ⟨_, A.same W, by show cl.slots.setIfInBounds _ _ = _; rw [S]; simp⟩, st⟩
theorem stIS (X : Stand p l e R s m args below meth c T locs cells slots) (hx : p.tables.exec = Jvm.exec) (hZ : Z.Warmed39 s.vm) (eT : T.heap = h) (V : Sar Z h a .int vs) {j : Int32} {x : Int32} (i : Nat) (hj : j.toInt = i) (hi : i < vs.length) {g : JFrame} (hg : g.method = m) {rest : List Value} (hs : g.stack = .int x :: .int j :: .ref a :: rest) (hd : decode c.code g.pc = .ok (.iastore, 1)) :
    ∃ T' h', Stand p l e R s m args below meth c T' (locs ++ [⟨a, i⟩]) cells slots ∧ T'.heap = h' ∧ Wr h h' a i (.int x) ∧ Sar Z h' a .int (vs.set i (.int x)) ∧ ∀ target, Steps p.tables e below (T'.setTop { g with pc := g.pc + 1, stack := rest }) target → Steps p.tables e below (T.setTop g) target := by
  obtain ⟨cl, A, S⟩ := V
  obtain ⟨T', h', X', e', W, st⟩ := stI X hx hZ eT A (Sar.in S hj hi) hg hs hd
  rw [Sar.nat hj] at X' W
  exact ⟨T', h', X', e', W, ⟨_, A.same W, by show cl.slots.setIfInBounds _ _ = _; rw [S]; simp⟩, st⟩
theorem ldDS (X : Stand p l e R s m args below meth c T locs cells slots) (hx : p.tables.exec = Jvm.exec) (hZ : Z.Warmed39 s.vm) (eT : T.heap = h) (V : Sar Z h a .double vs) {j : Int32} (i : Nat) (hj : j.toInt = i) (hv : vs[i]? = some v) {g : JFrame} (hg : g.method = m) {rest : List Value} (hs : g.stack = .int j :: .ref a :: rest) (hd : decode c.code g.pc = .ok (.daload, 1)) :
    ∀ target, Steps p.tables e below (T.setTop { g with pc := g.pc + 1, stack := v :: rest }) target → Steps p.tables e below (T.setTop g) target := by
  obtain ⟨cl, A, S⟩ := V
  have hi : i < vs.length := (List.getElem?_eq_some_iff.mp hv).1
  exact X.daload hx (by rw [eT]; exact A.1) (State.isArrayOf_alike hZ.alike A.2.1) A.2.2 (Sar.in S hj hi) (by rw [S, Sar.nat hj]; simpa using hv) hg hs hd
theorem ldIS (X : Stand p l e R s m args below meth c T locs cells slots) (hx : p.tables.exec = Jvm.exec) (hZ : Z.Warmed39 s.vm) (eT : T.heap = h) (V : Sar Z h a .int vs) {j : Int32} (i : Nat) (hj : j.toInt = i) (hv : vs[i]? = some v) {g : JFrame} (hg : g.method = m) {rest : List Value} (hs : g.stack = .int j :: .ref a :: rest) (hd : decode c.code g.pc = .ok (.iaload, 1)) :
    ∀ target, Steps p.tables e below (T.setTop { g with pc := g.pc + 1, stack := v :: rest }) target → Steps p.tables e below (T.setTop g) target := by
  obtain ⟨cl, A, S⟩ := V
  have hi : i < vs.length := (List.getElem?_eq_some_iff.mp hv).1
  exact X.iaload hx (by rw [eT]; exact A.1) (State.isArrayOf_alike hZ.alike A.2.1) A.2.2 (Sar.in S hj hi) (by rw [S, Sar.nat hj]; simpa using hv) hg hs hd
theorem lenS (X : Stand p l e R s m args below meth c T locs cells slots) (hx : p.tables.exec = Jvm.exec) (hZ : Z.Warmed39 s.vm) (eT : T.heap = h) (V : Sar Z h a ty vs) {n : Int32} (hn : vs.length.toInt32 = n) {g : JFrame} (hg : g.method = m) {rest : List Value} (hs : g.stack = .ref a :: rest) (hd : decode c.code g.pc = .ok (.arraylength, 1)) :
    ∀ target, Steps p.tables e below (T.setTop { g with pc := g.pc + 1, stack := .int n :: rest }) target → Steps p.tables e below (T.setTop g) target := by
  obtain ⟨cl, A, S⟩ := V
  intro target k
  refine X.arraylength hx (by rw [eT]; exact A.1) (State.isArrayOf_alike hZ.alike A.2.1) hg hs hd target ?_
  rw [S]
  simp only [List.size_toArray, hn]
  exact k
end OwnA
end Jvm.RoadKit
namespace Jvm.RoadKit
open Jvm.FP Jvm.Free.Fl
theorem DInt_nz {i : Int} {x : UInt64} (h : Core.DInt i x) (hi : i ≠ 0) : Nz64 x := nz64_core.mpr fun z => by
  obtain ⟨s, q, e⟩ := z
  have h' : Core.Whole i (Core.val64 x) := h
  rw [e] at h'
  exact hi ((Core.whole_zero h').mp rfl)
theorem DInt_one : Core.DInt 1 4607182418800017408 := Core.dint_one
end Jvm.RoadKit
namespace Jvm.RoadKit
open Jvm.FP Jvm.Free.Fl Op
theorem cmpD_le {i j : Int} {x y : UInt64} (hx : Core.DInt i x) (hy : Core.DInt j y) (h : i ≤ j) (o : ClassFile.CmpOp) : ∃ v : Int32, cmpValue (FP.dcmp x y) o = v ∧ ¬ (0 : Int32) < v := by
  by_cases q : i < j
  · exact ⟨-1, cmpD_lt hx hy q o, by decide⟩
  · exact ⟨0, cmpD_eq hx hy (by omega) o, by decide⟩
theorem cmpD_ge {i j : Int} {x y : UInt64} (hx : Core.DInt i x) (hy : Core.DInt j y) (h : j ≤ i) (o : ClassFile.CmpOp) : ∃ v : Int32, cmpValue (FP.dcmp x y) o = v ∧ ¬ v < (0 : Int32) := by
  by_cases q : j < i
  · exact ⟨1, cmpD_gt hx hy q o, by decide⟩
  · exact ⟨0, cmpD_eq hx hy (by omega) o, by decide⟩
end Jvm.RoadKit
namespace Jvm.RoadKit
open Jvm.Free
theorem cmpL_le {x y : Int64} (h : ¬ y.toInt < x.toInt) : ∃ v : Int32, lcmpW x y = v ∧ ¬ (0 : Int32) < v := by
  by_cases q : x.toInt < y.toInt
  · exact ⟨-1, cmpL_lt (Int64.lt_iff_toInt_lt.mpr q), by decide⟩
  · exact ⟨0, cmpL_eq (Int64.toInt_inj.mp (by omega)), by decide⟩
theorem cmpL_gtI {x y : Int64} (h : y.toInt < x.toInt) : lcmpW x y = 1 := cmpL_gt (Int64.lt_iff_toInt_lt.mpr h)
end Jvm.RoadKit
namespace Jvm.RoadKit
open Jvm.Free
theorem cmpL_ge {x y : Int64} (h : ¬ x.toInt < y.toInt) : ∃ v : Int32, lcmpW x y = v ∧ ¬ v < (0 : Int32) := by
  by_cases q : y.toInt < x.toInt
  · exact ⟨1, cmpL_gtI q, by decide⟩
  · exact ⟨0, cmpL_eq (Int64.toInt_inj.mp (by omega)), by decide⟩
end Jvm.RoadKit
namespace Jvm.RoadKit
section OwnN
theorem own_mb {i j : Int} {A B : Nat} (hi : i.natAbs ≤ A) (hj : j.natAbs ≤ B) : (i * j).natAbs ≤ A * B := by rw [Int.natAbs_mul]; exact Nat.mul_le_mul hi hj
theorem own_mb2 {i j : Int} {A B : Nat} (hi : -(A : Int) ≤ i ∧ i ≤ A) (hj : -(B : Int) ≤ j ∧ j ≤ B) : -((A * B : Nat) : Int) ≤ i * j ∧ i * j ≤ ((A * B : Nat) : Int) := by
  have h := own_mb (i := i) (j := j) (A := A) (B := B) (by omega) (by omega)
  omega
theorem own_ladd {a b : Int64} (h1 : -9223372036854775808 ≤ a.toInt + b.toInt) (h2 : a.toInt + b.toInt < 9223372036854775808) : (a + b).toInt = a.toInt + b.toInt := by
  have := c_ladd a b; have := rng64 (a + b); omega
theorem own_lsub {a b : Int64} (h1 : -9223372036854775808 ≤ a.toInt - b.toInt) (h2 : a.toInt - b.toInt < 9223372036854775808) : (a - b).toInt = a.toInt - b.toInt := by
  have := c_lsub a b; have := rng64 (a - b); omega
theorem own_lmul {a b : Int64} (h : (a.toInt * b.toInt).natAbs < 9223372036854775808) : (a * b).toInt = a.toInt * b.toInt := by
  have := c_lmul a b; have := rng64 (a * b); omega
theorem own_short (x : Int32) : (x.toInt16.toInt32).toInt.natAbs ≤ 32768 := by
  have := c_i2s x; omega
theorem own_and3 (x : Int32) : (x &&& 3) = 0 ∨ (x &&& 3) = 1 ∨ (x &&& 3) = 2 ∨ (x &&& 3) = 3 := by
  have h := c_and x 3 (by decide)
  have e : (3 : Int32).toInt = 3 := by decide
  simp only [← Int32.toInt_inj]
  rw [show (0 : Int32).toInt = 0 from by decide, show (1 : Int32).toInt = 1 from by decide, show (2 : Int32).toInt = 2 from by decide, e]
  omega
end OwnN
end Jvm.RoadKit
namespace Jvm.Pilot.@@N@@
open Jvm Jvm.ClassFile Sem Op Lib Jvm.Free Jvm.Stand Jvm.LawKit Jvm.RoadKit Jvm.FP Jvm.Free.Fl Bundle Jvm.Pilot.@@N@@.Jvm.D
def own_idf (dn d : UInt64) (j : Int) : UInt64 := if 0 < j then FP.ddiv (FP.dadd dn 4607182418800017408) d else 0
theorem own_idf_p {dn d : UInt64} {j : Int} (h : 0 < j) : own_idf dn d j = FP.ddiv (FP.dadd dn 4607182418800017408) d := if_pos h
theorem own_idf_n {dn d : UInt64} {j : Int} (h : ¬ 0 < j) : own_idf dn d j = 0 := if_neg h
theorem d2_0 : decode jdk_30_method_1_code 0 = .ok (.aload_n 0, 1) := by decide +kernel
theorem d2_1 : decode jdk_30_method_1_code 1 = .ok (.invokespecial 1, 3) := by decide +kernel
theorem d2_4 : decode jdk_30_method_1_code 4 = .ok (.return_, 1) := by decide +kernel
theorem pn0 : plainName "java/lang/Record" = true := by first | (simp [plainName, overriddenIn]; done) | decide +kernel
theorem pd0 : parseMethodDescriptor "()V" = some ⟨[], none⟩ := by decide +kernel
theorem ef_rm_rec (m : MethodId) (x0 : Addr) : entryFrame m #[(.ref x0)] 1 = mkF m 0 #[.val (.ref x0)] [] := by first | (simp [entryFrame, mkF, argsToLocals, Value.category, maxLocals]; done) | rfl
set_option maxRecDepth 65536 in
set_option maxHeartbeats 40000000 in
theorem rm_rec (l : Launch) (Z : State) (a0 : Array Value) (hw : ∀ d ∈ tables_1, d.before a0 Z = true) (a : Addr) (h0 : Heap) (n0 : Nat) (Z0 : n0 ≤ h0.size)  :
    Does l (⟨"java/lang/Record", "<init>", "()V"⟩ : MethodName) jdk_30_method_1_code 1 none [] ({ frames := 1, cells := 0, slots := 0, locals := 12 } : Room) Z #[(.ref a)] h0 (fun v h L => v = none ∧ Fr n0 L ∧ h = h0) := by
  refine Does.of (plainFor_of_name pn0) ?_
  intro p e s m below meth c s₁ hx hby hml hret hlk hZ hown hnm X0 e0
  have N0 := Fr.nil n0
  refine Goes.cast (g' := mkF m 0 #[.val (.ref a)] []) (ef_rm_rec m a) ?_
  refine Goes.by (T' := s₁) (g' := (mkF m 1 #[.val (.ref a)] [(.ref a)])) (fun _ k => XS.aloadN X0.here hx rfl (hb hby d2_0) rfl rfl k) ?_
  obtain ⟨T1, X1, e1, st1⟩ := initO X0 hx hZ hown (hw _ (List.mem_of_getElem? (i := 12) rfl)) (hw _ (List.mem_of_getElem? (i := 13) rfl)) (hw _ (List.mem_of_getElem? (i := 14) rfl)) e0 (g := (mkF m 1 #[.val (.ref a)] [(.ref a)])) rfl (by rw [hml]; rfl) rfl (hb hby d2_1) (by decide) (W := 0) (by show 2 * 0 + _ ≤ _; exact Nat.le_of_eq rfl) (by decide)
  refine Goes.by (T' := T1) (g' := (mkF m 4 #[.val (.ref a)] [])) st1 ?_
  exact outV X1 hx hlk hret (hb hby d2_4) (by rw [e1]; exact ⟨rfl, N0, rfl⟩) (by decide) (by decide)
theorem d1_0 : decode prog_26_method_1_code 0 = .ok (.aload_n 0, 1) := by decide +kernel
theorem d1_1 : decode prog_26_method_1_code 1 = .ok (.invokespecial 1, 3) := by decide +kernel
theorem d1_4 : decode prog_26_method_1_code 4 = .ok (.aload_n 0, 1) := by decide +kernel
theorem d1_5 : decode prog_26_method_1_code 5 = .ok (.dload_n 1, 1) := by decide +kernel
theorem d1_6 : decode prog_26_method_1_code 6 = .ok (.putfield 7, 3) := by decide +kernel
theorem d1_9 : decode prog_26_method_1_code 9 = .ok (.aload_n 0, 1) := by decide +kernel
theorem d1_10 : decode prog_26_method_1_code 10 = .ok (.aload_n 3, 1) := by decide +kernel
theorem d1_11 : decode prog_26_method_1_code 11 = .ok (.putfield 13, 3) := by decide +kernel
theorem d1_14 : decode prog_26_method_1_code 14 = .ok (.aload_n 0, 1) := by decide +kernel
theorem d1_15 : decode prog_26_method_1_code 15 = .ok (.dload 4, 2) := by decide +kernel
theorem d1_17 : decode prog_26_method_1_code 17 = .ok (.putfield 17, 3) := by decide +kernel
theorem d1_20 : decode prog_26_method_1_code 20 = .ok (.aload_n 0, 1) := by decide +kernel
theorem d1_21 : decode prog_26_method_1_code 21 = .ok (.dload 6, 2) := by decide +kernel
theorem d1_23 : decode prog_26_method_1_code 23 = .ok (.putfield 20, 3) := by decide +kernel
theorem d1_26 : decode prog_26_method_1_code 26 = .ok (.aload_n 0, 1) := by decide +kernel
theorem d1_27 : decode prog_26_method_1_code 27 = .ok (.dload 8, 2) := by decide +kernel
theorem d1_29 : decode prog_26_method_1_code 29 = .ok (.putfield 23, 3) := by decide +kernel
theorem d1_32 : decode prog_26_method_1_code 32 = .ok (.return_, 1) := by decide +kernel
theorem pn1 : plainName "com/example/rummage/rummage/Ranking$Collection" = true := by first | (simp [plainName, overriddenIn]; done) | decide +kernel
theorem pd1 : parseMethodDescriptor "(D[DDDD)V" = some ⟨[.double, (.array .double), .double, .double, .double], none⟩ := by decide +kernel
theorem ef_rm_init (m : MethodId) (x0 : Addr) (x1 : UInt64) (x2 : Addr) (x3 : UInt64) (x4 : UInt64) (x5 : UInt64) : entryFrame m #[(.ref x0), (.double x1), (.ref x2), (.double x3), (.double x4), (.double x5)] 10 = mkF m 0 #[.val (.ref x0), .val (.double x1), .second, .val (.ref x2), .val (.double x3), .second, .val (.double x4), .second, .val (.double x5), .second] [] := by first | (simp [entryFrame, mkF, argsToLocals, Value.category, maxLocals]; done) | rfl
set_option maxRecDepth 65536 in
set_option maxHeartbeats 40000000 in
theorem rm_init (l : Launch) (Z : State) (a0 : Array Value) (hw : ∀ d ∈ tables_1, d.before a0 Z = true) (a : Addr) (u0 : UInt64) (b : Addr) (u1 u2 u3 : UInt64) (h0 : Heap) (n0 : Nat) (Z0 : n0 ≤ h0.size) (EA : Exa Z h0 a "com/example/rummage/rummage/Ranking$Collection") (F_documents_a : Fld Z h0 a "com/example/rummage/rummage/Ranking$Collection" "documents" "D" (.double (0 : UInt64))) (F_documentFrequencies_a : Fld Z h0 a "com/example/rummage/rummage/Ranking$Collection" "documentFrequencies" "[D" .null) (F_averageLength_a : Fld Z h0 a "com/example/rummage/rummage/Ranking$Collection" "averageLength" "D" (.double (0 : UInt64))) (F_affinity_a : Fld Z h0 a "com/example/rummage/rummage/Ranking$Collection" "affinity" "D" (.double (0 : UInt64))) (F_fanIn_a : Fld Z h0 a "com/example/rummage/rummage/Ranking$Collection" "fanIn" "D" (.double (0 : UInt64))) (ga : n0 ≤ a) :
    Does l (⟨"com/example/rummage/rummage/Ranking$Collection", "<init>", "(D[DDDD)V"⟩ : MethodName) prog_26_method_1_code 10 none [] ({ frames := 2, cells := 0, slots := 0, locals := 24 } : Room) Z #[(.ref a), (.double u0), (.ref b), (.double u1), (.double u2), (.double u3)] h0 (fun v h L => v = none ∧ Fld Z h a "com/example/rummage/rummage/Ranking$Collection" "documents" "D" (.double u0) ∧ Fld Z h a "com/example/rummage/rummage/Ranking$Collection" "documentFrequencies" "[D" (.ref b) ∧ Fld Z h a "com/example/rummage/rummage/Ranking$Collection" "averageLength" "D" (.double u1) ∧ Fld Z h a "com/example/rummage/rummage/Ranking$Collection" "affinity" "D" (.double u2) ∧ Fld Z h a "com/example/rummage/rummage/Ranking$Collection" "fanIn" "D" (.double u3) ∧ Keep h0 h [a] ∧ Fr n0 L) := by
  refine Does.of (plainFor_of_name pn1) ?_
  intro p e s m below meth c s₁ hx hby hml hret hlk hZ hown hnm X0 e0
  have N0 := Fr.nil n0
  refine Goes.cast (g' := mkF m 0 #[.val (.ref a), .val (.double u0), .second, .val (.ref b), .val (.double u1), .second, .val (.double u2), .second, .val (.double u3), .second] []) (ef_rm_init m a u0 b u1 u2 u3) ?_
  have K0 := Keep.refl h0 [a]
  refine Goes.by (T' := s₁) (g' := (mkF m 1 #[.val (.ref a), .val (.double u0), .second, .val (.ref b), .val (.double u1), .second, .val (.double u2), .second, .val (.double u3), .second] [(.ref a)])) (fun _ k => XS.aloadN X0.here hx rfl (hb hby d1_0) rfl rfl k) ?_
  obtain ⟨v2, T2, L2, X2, hQ2, st2⟩ := callI X0 hx hZ (y := (⟨"java/lang/Record", "<init>", "()V"⟩ : MethodName)) rfl hown (hw _ (List.mem_of_getElem? (i := 7) rfl)) (hw _ (List.mem_of_getElem? (i := 8) rfl)) (hw _ (List.mem_of_getElem? (i := 11) rfl)) (hw _ (List.mem_of_getElem? (i := 10) rfl)) (by decide) e0 (a := a) (argsL := []) (rest := []) (W := 0) (rm_rec l Z a0 hw a h0 n0 Z0) rfl (by decide) (by decide) (by decide) (by decide) (g := (mkF m 1 #[.val (.ref a), .val (.double u0), .second, .val (.ref b), .val (.double u1), .second, .val (.double u2), .second, .val (.double u3), .second] [(.ref a)])) rfl (by rw [hml]; rfl) (lenOf pd0 rfl) rfl (by show 2 * 0 + _ ≤ _; exact Nat.le_of_eq rfl) (hb hby d1_1)
  obtain ⟨rfl, NL2, hk2⟩ := hQ2
  have N0 := Fr.app N0 NL2
  refine Goes.by (T' := T2) (g' := (mkF m 4 #[.val (.ref a), .val (.double u0), .second, .val (.ref b), .val (.double u1), .second, .val (.double u2), .second, .val (.double u3), .second] [])) st2 ?_
  refine Goes.by (T' := T2) (g' := (mkF m 5 #[.val (.ref a), .val (.double u0), .second, .val (.ref b), .val (.double u1), .second, .val (.double u2), .second, .val (.double u3), .second] [(.ref a)])) (fun _ k => XS.aloadN X2.here hx rfl (hb hby d1_4) rfl rfl k) ?_
  refine Goes.by (T' := T2) (g' := (mkF m 6 #[.val (.ref a), .val (.double u0), .second, .val (.ref b), .val (.double u1), .second, .val (.double u2), .second, .val (.double u3), .second] [(.double u0), (.ref a)])) (fun _ k => XS.dloadN X2.here hx rfl (hb hby d1_5) rfl k) ?_
  obtain ⟨T3, h3, X3, e3, W3, st3⟩ := putF X2 hx hZ hown (host := "") (Or.inl (hw _ (List.mem_of_getElem? (i := 15) rfl))) Via.refl hk2 F_documents_a EA (Or.inr ⟨(hw _ (List.mem_of_getElem? (i := 16) rfl)), rfl, hnm⟩) (hw _ (List.mem_of_getElem? (i := 2) rfl)) (ty := .double) (by decide) rfl rfl (g := (mkF m 6 #[.val (.ref a), .val (.double u0), .second, .val (.ref b), .val (.double u1), .second, .val (.double u2), .second, .val (.double u3), .second] [(.double u0), (.ref a)])) rfl rfl (hb hby d1_6)
  have N0 := Fr.snoc X3 N0 ga
  have EA := EA.wr W3
  have F_documents_a := F_documents_a.same W3
  have F_documentFrequencies_a := F_documentFrequencies_a.other W3 (Or.inr (slot_ne (t := (.array .double)) (t' := .double) (Or.inr (hw _ (List.mem_of_getElem? (i := 18) rfl))) (Or.inr (hw _ (List.mem_of_getElem? (i := 16) rfl))) (by decide) (by decide) (by decide)))
  have F_averageLength_a := F_averageLength_a.other W3 (Or.inr (slot_ne (t := .double) (t' := .double) (Or.inr (hw _ (List.mem_of_getElem? (i := 20) rfl))) (Or.inr (hw _ (List.mem_of_getElem? (i := 16) rfl))) (by decide) (by decide) (by decide)))
  have F_affinity_a := F_affinity_a.other W3 (Or.inr (slot_ne (t := .double) (t' := .double) (Or.inr (hw _ (List.mem_of_getElem? (i := 22) rfl))) (Or.inr (hw _ (List.mem_of_getElem? (i := 16) rfl))) (by decide) (by decide) (by decide)))
  have F_fanIn_a := F_fanIn_a.other W3 (Or.inr (slot_ne (t := .double) (t' := .double) (Or.inr (hw _ (List.mem_of_getElem? (i := 24) rfl))) (Or.inr (hw _ (List.mem_of_getElem? (i := 16) rfl))) (by decide) (by decide) (by decide)))
  have Z0 := Nat.le_trans Z0 (Nat.le_of_eq W3.size.symm)
  have K0 := K0.wr W3 (Or.inl (List.mem_singleton.mpr rfl))
  refine Goes.by (T' := T3) (g' := (mkF m 9 #[.val (.ref a), .val (.double u0), .second, .val (.ref b), .val (.double u1), .second, .val (.double u2), .second, .val (.double u3), .second] [])) st3 ?_
  refine Goes.by (T' := T3) (g' := (mkF m 10 #[.val (.ref a), .val (.double u0), .second, .val (.ref b), .val (.double u1), .second, .val (.double u2), .second, .val (.double u3), .second] [(.ref a)])) (fun _ k => XS.aloadN X3.here hx rfl (hb hby d1_9) rfl rfl k) ?_
  refine Goes.by (T' := T3) (g' := (mkF m 11 #[.val (.ref a), .val (.double u0), .second, .val (.ref b), .val (.double u1), .second, .val (.double u2), .second, .val (.double u3), .second] [(.ref b), (.ref a)])) (fun _ k => XS.aloadN X3.here hx rfl (hb hby d1_10) rfl rfl k) ?_
  obtain ⟨T4, h4, X4, e4, W4, st4⟩ := putF X3 hx hZ hown (host := "") (Or.inl (hw _ (List.mem_of_getElem? (i := 17) rfl))) Via.refl e3 F_documentFrequencies_a EA (Or.inr ⟨(hw _ (List.mem_of_getElem? (i := 18) rfl)), rfl, hnm⟩) (hw _ (List.mem_of_getElem? (i := 2) rfl)) (ty := (.array .double)) (by decide) rfl rfl (g := (mkF m 11 #[.val (.ref a), .val (.double u0), .second, .val (.ref b), .val (.double u1), .second, .val (.double u2), .second, .val (.double u3), .second] [(.ref b), (.ref a)])) rfl rfl (hb hby d1_11)
  have N0 := Fr.snoc X4 N0 ga
  have EA := EA.wr W4
  have F_documents_a := F_documents_a.other W4 (Or.inr (slot_ne (t := .double) (t' := (.array .double)) (Or.inr (hw _ (List.mem_of_getElem? (i := 16) rfl))) (Or.inr (hw _ (List.mem_of_getElem? (i := 18) rfl))) (by decide) (by decide) (by decide)))
  have F_documentFrequencies_a := F_documentFrequencies_a.same W4
  have F_averageLength_a := F_averageLength_a.other W4 (Or.inr (slot_ne (t := .double) (t' := (.array .double)) (Or.inr (hw _ (List.mem_of_getElem? (i := 20) rfl))) (Or.inr (hw _ (List.mem_of_getElem? (i := 18) rfl))) (by decide) (by decide) (by decide)))
  have F_affinity_a := F_affinity_a.other W4 (Or.inr (slot_ne (t := .double) (t' := (.array .double)) (Or.inr (hw _ (List.mem_of_getElem? (i := 22) rfl))) (Or.inr (hw _ (List.mem_of_getElem? (i := 18) rfl))) (by decide) (by decide) (by decide)))
  have F_fanIn_a := F_fanIn_a.other W4 (Or.inr (slot_ne (t := .double) (t' := (.array .double)) (Or.inr (hw _ (List.mem_of_getElem? (i := 24) rfl))) (Or.inr (hw _ (List.mem_of_getElem? (i := 18) rfl))) (by decide) (by decide) (by decide)))
  have Z0 := Nat.le_trans Z0 (Nat.le_of_eq W4.size.symm)
  have K0 := K0.wr W4 (Or.inl (List.mem_singleton.mpr rfl))
  refine Goes.by (T' := T4) (g' := (mkF m 14 #[.val (.ref a), .val (.double u0), .second, .val (.ref b), .val (.double u1), .second, .val (.double u2), .second, .val (.double u3), .second] [])) st4 ?_
  refine Goes.by (T' := T4) (g' := (mkF m 15 #[.val (.ref a), .val (.double u0), .second, .val (.ref b), .val (.double u1), .second, .val (.double u2), .second, .val (.double u3), .second] [(.ref a)])) (fun _ k => XS.aloadN X4.here hx rfl (hb hby d1_14) rfl rfl k) ?_
  refine Goes.by (T' := T4) (g' := (mkF m 17 #[.val (.ref a), .val (.double u0), .second, .val (.ref b), .val (.double u1), .second, .val (.double u2), .second, .val (.double u3), .second] [(.double u1), (.ref a)])) (fun _ k => XS.dload X4.here hx rfl (hb hby d1_15) rfl k) ?_
  obtain ⟨T5, h5, X5, e5, W5, st5⟩ := putF X4 hx hZ hown (host := "") (Or.inl (hw _ (List.mem_of_getElem? (i := 19) rfl))) Via.refl e4 F_averageLength_a EA (Or.inr ⟨(hw _ (List.mem_of_getElem? (i := 20) rfl)), rfl, hnm⟩) (hw _ (List.mem_of_getElem? (i := 2) rfl)) (ty := .double) (by decide) rfl rfl (g := (mkF m 17 #[.val (.ref a), .val (.double u0), .second, .val (.ref b), .val (.double u1), .second, .val (.double u2), .second, .val (.double u3), .second] [(.double u1), (.ref a)])) rfl rfl (hb hby d1_17)
  have N0 := Fr.snoc X5 N0 ga
  have EA := EA.wr W5
  have F_documents_a := F_documents_a.other W5 (Or.inr (slot_ne (t := .double) (t' := .double) (Or.inr (hw _ (List.mem_of_getElem? (i := 16) rfl))) (Or.inr (hw _ (List.mem_of_getElem? (i := 20) rfl))) (by decide) (by decide) (by decide)))
  have F_documentFrequencies_a := F_documentFrequencies_a.other W5 (Or.inr (slot_ne (t := (.array .double)) (t' := .double) (Or.inr (hw _ (List.mem_of_getElem? (i := 18) rfl))) (Or.inr (hw _ (List.mem_of_getElem? (i := 20) rfl))) (by decide) (by decide) (by decide)))
  have F_averageLength_a := F_averageLength_a.same W5
  have F_affinity_a := F_affinity_a.other W5 (Or.inr (slot_ne (t := .double) (t' := .double) (Or.inr (hw _ (List.mem_of_getElem? (i := 22) rfl))) (Or.inr (hw _ (List.mem_of_getElem? (i := 20) rfl))) (by decide) (by decide) (by decide)))
  have F_fanIn_a := F_fanIn_a.other W5 (Or.inr (slot_ne (t := .double) (t' := .double) (Or.inr (hw _ (List.mem_of_getElem? (i := 24) rfl))) (Or.inr (hw _ (List.mem_of_getElem? (i := 20) rfl))) (by decide) (by decide) (by decide)))
  have Z0 := Nat.le_trans Z0 (Nat.le_of_eq W5.size.symm)
  have K0 := K0.wr W5 (Or.inl (List.mem_singleton.mpr rfl))
  refine Goes.by (T' := T5) (g' := (mkF m 20 #[.val (.ref a), .val (.double u0), .second, .val (.ref b), .val (.double u1), .second, .val (.double u2), .second, .val (.double u3), .second] [])) st5 ?_
  refine Goes.by (T' := T5) (g' := (mkF m 21 #[.val (.ref a), .val (.double u0), .second, .val (.ref b), .val (.double u1), .second, .val (.double u2), .second, .val (.double u3), .second] [(.ref a)])) (fun _ k => XS.aloadN X5.here hx rfl (hb hby d1_20) rfl rfl k) ?_
  refine Goes.by (T' := T5) (g' := (mkF m 23 #[.val (.ref a), .val (.double u0), .second, .val (.ref b), .val (.double u1), .second, .val (.double u2), .second, .val (.double u3), .second] [(.double u2), (.ref a)])) (fun _ k => XS.dload X5.here hx rfl (hb hby d1_21) rfl k) ?_
  obtain ⟨T6, h6, X6, e6, W6, st6⟩ := putF X5 hx hZ hown (host := "") (Or.inl (hw _ (List.mem_of_getElem? (i := 21) rfl))) Via.refl e5 F_affinity_a EA (Or.inr ⟨(hw _ (List.mem_of_getElem? (i := 22) rfl)), rfl, hnm⟩) (hw _ (List.mem_of_getElem? (i := 2) rfl)) (ty := .double) (by decide) rfl rfl (g := (mkF m 23 #[.val (.ref a), .val (.double u0), .second, .val (.ref b), .val (.double u1), .second, .val (.double u2), .second, .val (.double u3), .second] [(.double u2), (.ref a)])) rfl rfl (hb hby d1_23)
  have N0 := Fr.snoc X6 N0 ga
  have EA := EA.wr W6
  have F_documents_a := F_documents_a.other W6 (Or.inr (slot_ne (t := .double) (t' := .double) (Or.inr (hw _ (List.mem_of_getElem? (i := 16) rfl))) (Or.inr (hw _ (List.mem_of_getElem? (i := 22) rfl))) (by decide) (by decide) (by decide)))
  have F_documentFrequencies_a := F_documentFrequencies_a.other W6 (Or.inr (slot_ne (t := (.array .double)) (t' := .double) (Or.inr (hw _ (List.mem_of_getElem? (i := 18) rfl))) (Or.inr (hw _ (List.mem_of_getElem? (i := 22) rfl))) (by decide) (by decide) (by decide)))
  have F_averageLength_a := F_averageLength_a.other W6 (Or.inr (slot_ne (t := .double) (t' := .double) (Or.inr (hw _ (List.mem_of_getElem? (i := 20) rfl))) (Or.inr (hw _ (List.mem_of_getElem? (i := 22) rfl))) (by decide) (by decide) (by decide)))
  have F_affinity_a := F_affinity_a.same W6
  have F_fanIn_a := F_fanIn_a.other W6 (Or.inr (slot_ne (t := .double) (t' := .double) (Or.inr (hw _ (List.mem_of_getElem? (i := 24) rfl))) (Or.inr (hw _ (List.mem_of_getElem? (i := 22) rfl))) (by decide) (by decide) (by decide)))
  have Z0 := Nat.le_trans Z0 (Nat.le_of_eq W6.size.symm)
  have K0 := K0.wr W6 (Or.inl (List.mem_singleton.mpr rfl))
  refine Goes.by (T' := T6) (g' := (mkF m 26 #[.val (.ref a), .val (.double u0), .second, .val (.ref b), .val (.double u1), .second, .val (.double u2), .second, .val (.double u3), .second] [])) st6 ?_
  refine Goes.by (T' := T6) (g' := (mkF m 27 #[.val (.ref a), .val (.double u0), .second, .val (.ref b), .val (.double u1), .second, .val (.double u2), .second, .val (.double u3), .second] [(.ref a)])) (fun _ k => XS.aloadN X6.here hx rfl (hb hby d1_26) rfl rfl k) ?_
  refine Goes.by (T' := T6) (g' := (mkF m 29 #[.val (.ref a), .val (.double u0), .second, .val (.ref b), .val (.double u1), .second, .val (.double u2), .second, .val (.double u3), .second] [(.double u3), (.ref a)])) (fun _ k => XS.dload X6.here hx rfl (hb hby d1_27) rfl k) ?_
  obtain ⟨T7, h7, X7, e7, W7, st7⟩ := putF X6 hx hZ hown (host := "") (Or.inl (hw _ (List.mem_of_getElem? (i := 23) rfl))) Via.refl e6 F_fanIn_a EA (Or.inr ⟨(hw _ (List.mem_of_getElem? (i := 24) rfl)), rfl, hnm⟩) (hw _ (List.mem_of_getElem? (i := 2) rfl)) (ty := .double) (by decide) rfl rfl (g := (mkF m 29 #[.val (.ref a), .val (.double u0), .second, .val (.ref b), .val (.double u1), .second, .val (.double u2), .second, .val (.double u3), .second] [(.double u3), (.ref a)])) rfl rfl (hb hby d1_29)
  have N0 := Fr.snoc X7 N0 ga
  have EA := EA.wr W7
  have F_documents_a := F_documents_a.other W7 (Or.inr (slot_ne (t := .double) (t' := .double) (Or.inr (hw _ (List.mem_of_getElem? (i := 16) rfl))) (Or.inr (hw _ (List.mem_of_getElem? (i := 24) rfl))) (by decide) (by decide) (by decide)))
  have F_documentFrequencies_a := F_documentFrequencies_a.other W7 (Or.inr (slot_ne (t := (.array .double)) (t' := .double) (Or.inr (hw _ (List.mem_of_getElem? (i := 18) rfl))) (Or.inr (hw _ (List.mem_of_getElem? (i := 24) rfl))) (by decide) (by decide) (by decide)))
  have F_averageLength_a := F_averageLength_a.other W7 (Or.inr (slot_ne (t := .double) (t' := .double) (Or.inr (hw _ (List.mem_of_getElem? (i := 20) rfl))) (Or.inr (hw _ (List.mem_of_getElem? (i := 24) rfl))) (by decide) (by decide) (by decide)))
  have F_affinity_a := F_affinity_a.other W7 (Or.inr (slot_ne (t := .double) (t' := .double) (Or.inr (hw _ (List.mem_of_getElem? (i := 22) rfl))) (Or.inr (hw _ (List.mem_of_getElem? (i := 24) rfl))) (by decide) (by decide) (by decide)))
  have F_fanIn_a := F_fanIn_a.same W7
  have Z0 := Nat.le_trans Z0 (Nat.le_of_eq W7.size.symm)
  have K0 := K0.wr W7 (Or.inl (List.mem_singleton.mpr rfl))
  refine Goes.by (T' := T7) (g' := (mkF m 32 #[.val (.ref a), .val (.double u0), .second, .val (.ref b), .val (.double u1), .second, .val (.double u2), .second, .val (.double u3), .second] [])) st7 ?_
  exact outV X7 hx hlk hret (hb hby d1_32) (by rw [e7]; exact ⟨rfl, F_documents_a, F_documentFrequencies_a, F_averageLength_a, F_affinity_a, F_fanIn_a, K0, N0⟩) (by decide) (by decide)
theorem d4_0 : decode prog_26_method_2_code 0 = .ok (.aload_n 0, 1) := by decide +kernel
theorem d4_1 : decode prog_26_method_2_code 1 = .ok (.getfield 13, 3) := by decide +kernel
theorem d4_4 : decode prog_26_method_2_code 4 = .ok (.arraylength, 1) := by decide +kernel
theorem d4_5 : decode prog_26_method_2_code 5 = .ok (.newarray .double, 2) := by decide +kernel
theorem d4_7 : decode prog_26_method_2_code 7 = .ok (.astore_n 1, 1) := by decide +kernel
theorem d4_8 : decode prog_26_method_2_code 8 = .ok (.iconst 0, 1) := by decide +kernel
theorem d4_9 : decode prog_26_method_2_code 9 = .ok (.istore_n 2, 1) := by decide +kernel
theorem d4_10 : decode prog_26_method_2_code 10 = .ok (.iload_n 2, 1) := by decide +kernel
theorem d4_11 : decode prog_26_method_2_code 11 = .ok (.aload_n 1, 1) := by decide +kernel
theorem d4_12 : decode prog_26_method_2_code 12 = .ok (.arraylength, 1) := by decide +kernel
theorem d4_13 : decode prog_26_method_2_code 13 = .ok (.if_icmp .ge 36, 3) := by decide +kernel
theorem d4_16 : decode prog_26_method_2_code 16 = .ok (.aload_n 0, 1) := by decide +kernel
theorem d4_17 : decode prog_26_method_2_code 17 = .ok (.getfield 13, 3) := by decide +kernel
theorem d4_20 : decode prog_26_method_2_code 20 = .ok (.iload_n 2, 1) := by decide +kernel
theorem d4_21 : decode prog_26_method_2_code 21 = .ok (.daload, 1) := by decide +kernel
theorem d4_22 : decode prog_26_method_2_code 22 = .ok (.dconst 0, 1) := by decide +kernel
theorem d4_23 : decode prog_26_method_2_code 23 = .ok (.dcmp .l, 1) := by decide +kernel
theorem d4_24 : decode prog_26_method_2_code 24 = .ok (.ifCond .le 19, 3) := by decide +kernel
theorem d4_27 : decode prog_26_method_2_code 27 = .ok (.aload_n 1, 1) := by decide +kernel
theorem d4_28 : decode prog_26_method_2_code 28 = .ok (.iload_n 2, 1) := by decide +kernel
theorem d4_29 : decode prog_26_method_2_code 29 = .ok (.aload_n 0, 1) := by decide +kernel
theorem d4_30 : decode prog_26_method_2_code 30 = .ok (.getfield 7, 3) := by decide +kernel
theorem d4_33 : decode prog_26_method_2_code 33 = .ok (.dconst 1, 1) := by decide +kernel
theorem d4_34 : decode prog_26_method_2_code 34 = .ok (.dadd, 1) := by decide +kernel
theorem d4_35 : decode prog_26_method_2_code 35 = .ok (.aload_n 0, 1) := by decide +kernel
theorem d4_36 : decode prog_26_method_2_code 36 = .ok (.getfield 13, 3) := by decide +kernel
theorem d4_39 : decode prog_26_method_2_code 39 = .ok (.iload_n 2, 1) := by decide +kernel
theorem d4_40 : decode prog_26_method_2_code 40 = .ok (.daload, 1) := by decide +kernel
theorem d4_41 : decode prog_26_method_2_code 41 = .ok (.ddiv, 1) := by decide +kernel
theorem d4_42 : decode prog_26_method_2_code 42 = .ok (.dastore, 1) := by decide +kernel
theorem d4_43 : decode prog_26_method_2_code 43 = .ok (.iinc 2 1, 3) := by decide +kernel
theorem d4_46 : decode prog_26_method_2_code 46 = .ok (.goto (-36), 3) := by decide +kernel
theorem d4_49 : decode prog_26_method_2_code 49 = .ok (.aload_n 1, 1) := by decide +kernel
theorem d4_50 : decode prog_26_method_2_code 50 = .ok (.areturn, 1) := by decide +kernel
theorem pd2 : parseMethodDescriptor "()[D" = some ⟨[], some (.array .double)⟩ := by decide +kernel
theorem ef_rm_idf (m : MethodId) (x0 : Addr) : entryFrame m #[(.ref x0)] 3 = mkF m 0 #[.val (.ref x0), .unset, .unset] [] := by first | (simp [entryFrame, mkF, argsToLocals, Value.category, maxLocals]; done) | rfl
set_option maxRecDepth 65536 in
set_option maxHeartbeats 40000000 in
theorem rm_idf (l : Launch) (Z : State) (a0 : Array Value) (hw : ∀ d ∈ tables_1, d.before a0 Z = true) (a b : Addr) (dn d0 d1 d2 : UInt64) (nn j0 j1 j2 : Int) (h0 : Heap) (n0 : Nat) (Z0 : n0 ≤ h0.size) (F1 : Fld Z h0 a "com/example/rummage/rummage/Ranking$Collection" "documents" "D" (.double dn)) (F2 : Fld Z h0 a "com/example/rummage/rummage/Ranking$Collection" "documentFrequencies" "[D" (.ref b)) (VB : Sar Z h0 b .double [(.double d0), (.double d1), (.double d2)]) (NN : Core.DInt nn dn) (bn : nn.natAbs ≤ 2147483648) (I0 : Core.DInt j0 d0) (I1 : Core.DInt j1 d1) (I2 : Core.DInt j2 d2) :
    Does l (⟨"com/example/rummage/rummage/Ranking$Collection", "idf", "()[D"⟩ : MethodName) prog_26_method_2_code 3 (some (.array .double)) [] ({ frames := 0, cells := 1, slots := 3, locals := 0 } : Room) Z #[(.ref a)] h0 (fun v h L => ∃ r, v = some (.ref r) ∧ h0.size ≤ r ∧ Sar Z h r .double [(.double (own_idf dn d0 j0)), (.double (own_idf dn d1 j1)), (.double (own_idf dn d2 j2))] ∧ Keep h0 h [] ∧ Fr n0 L) := by
  refine Does.of (plainFor_of_name pn1) ?_
  intro p e s m below meth c s₁ hx hby hml hret hlk hZ hown hnm X0 e0
  have N0 := Fr.nil n0
  refine Goes.cast (g' := mkF m 0 #[.val (.ref a), .unset, .unset] []) (ef_rm_idf m a) ?_
  have K0 := Keep.refl h0 []
  refine Goes.by (T' := s₁) (g' := (mkF m 1 #[.val (.ref a), .unset, .unset] [(.ref a)])) (fun _ k => XS.aloadN X0.here hx rfl (hb hby d4_0) rfl rfl k) ?_
  obtain ⟨T8, X8, e8, st8⟩ := getF X0 hx hZ hown (host := "") (Or.inl (hw _ (List.mem_of_getElem? (i := 17) rfl))) Via.refl e0 F2 (g := (mkF m 1 #[.val (.ref a), .unset, .unset] [(.ref a)])) rfl rfl (hb hby d4_1)
  refine Goes.by (T' := T8) (g' := (mkF m 4 #[.val (.ref a), .unset, .unset] [(.ref b)])) st8 ?_
  refine Goes.by (T' := T8) (g' := (mkF m 5 #[.val (.ref a), .unset, .unset] [(.int (3 : Int32))])) (lenS X8 hx hZ e8 VB (n := (3 : Int32)) rfl (g := (mkF m 4 #[.val (.ref a), .unset, .unset] [(.ref b)])) rfl rfl (hb hby d4_4)) ?_
  obtain ⟨T9, h9, k9, X9, e9, E9, A9, st9⟩ := newP X8 hx hZ (hw _ (List.mem_of_getElem? (i := 0) rfl)) e8 (g := (mkF m 5 #[.val (.ref a), .unset, .unset] [(.int (3 : Int32))])) rfl (hb hby d4_5) rfl (by decide) (cap := 3) (by decide) (by decide) (by decide) (by decide)
  obtain ⟨r, g9⟩ : ∃ z, z = h0.size := ⟨_, rfl⟩
  rw [← g9] at A9 st9
  have ne_a_r : a ≠ r := fun q => Nat.lt_irrefl _ (Nat.lt_of_lt_of_eq F1.lt (g9.symm.trans q.symm))
  have ne_b_r : b ≠ r := fun q => Nat.lt_irrefl _ (Nat.lt_of_lt_of_eq VB.lt (g9.symm.trans q.symm))
  have ge_r : n0 ≤ r := Nat.le_trans Z0 (Nat.le_of_eq g9.symm)
  have sz_r : h0.size ≤ r := Nat.le_trans K0.1 (Nat.le_of_eq g9.symm)
  have F1 := F1.ext E9
  have F2 := F2.ext E9
  have VB := VB.ext E9
  have Z0 := Nat.le_trans Z0 E9.1
  have K0 := K0.ext E9
  have V_r : Sar Z h9 r .double [(.double (0 : UInt64)), (.double (0 : UInt64)), (.double (0 : UInt64))] := Sar.new (n := 3) A9 (by decide)
  refine Goes.by (T' := T9) (g' := (mkF m 7 #[.val (.ref a), .unset, .unset] [(.ref r)])) st9 ?_
  refine Goes.by (T' := T9) (g' := (mkF m 8 #[.val (.ref a), .val (.ref r), .unset] [])) (fun _ k => XS.astoreN X9.here hx rfl (hb hby d4_7) rfl rfl (l' := #[.val (.ref a), .val (.ref r), .unset]) rfl k) ?_
  refine Goes.by (T' := T9) (g' := (mkF m 9 #[.val (.ref a), .val (.ref r), .unset] [(.int (0 : Int32))])) (fun _ k => XS.iconst X9.here hx rfl (hb hby d4_8)  k) ?_
  refine Goes.by (T' := T9) (g' := (mkF m 10 #[.val (.ref a), .val (.ref r), .val (.int (0 : Int32))] [])) (fun _ k => XS.istoreN X9.here hx rfl (hb hby d4_9) rfl (l' := #[.val (.ref a), .val (.ref r), .val (.int (0 : Int32))]) rfl k) ?_
  refine Goes.by (T' := T9) (g' := (mkF m 11 #[.val (.ref a), .val (.ref r), .val (.int (0 : Int32))] [(.int (0 : Int32))])) (fun _ k => XS.iloadN X9.here hx rfl (hb hby d4_10) rfl k) ?_
  refine Goes.by (T' := T9) (g' := (mkF m 12 #[.val (.ref a), .val (.ref r), .val (.int (0 : Int32))] [(.ref r), (.int (0 : Int32))])) (fun _ k => XS.aloadN X9.here hx rfl (hb hby d4_11) rfl rfl k) ?_
  refine Goes.by (T' := T9) (g' := (mkF m 13 #[.val (.ref a), .val (.ref r), .val (.int (0 : Int32))] [(.int (3 : Int32)), (.int (0 : Int32))])) (lenS X9 hx hZ e9 V_r (n := (3 : Int32)) rfl (g := (mkF m 12 #[.val (.ref a), .val (.ref r), .val (.int (0 : Int32))] [(.ref r), (.int (0 : Int32))])) rfl rfl (hb hby d4_12)) ?_
  refine Goes.by (T' := T9) (g' := (mkF m 16 #[.val (.ref a), .val (.ref r), .val (.int (0 : Int32))] [])) (fun _ k => XS.icmpNo X9.here hx rfl (hb hby d4_13) rfl (by decide) k) ?_
  refine Goes.by (T' := T9) (g' := (mkF m 17 #[.val (.ref a), .val (.ref r), .val (.int (0 : Int32))] [(.ref a)])) (fun _ k => XS.aloadN X9.here hx rfl (hb hby d4_16) rfl rfl k) ?_
  obtain ⟨T10, X10, e10, st10⟩ := getF X9 hx hZ hown (host := "") (Or.inl (hw _ (List.mem_of_getElem? (i := 17) rfl))) Via.refl e9 F2 (g := (mkF m 17 #[.val (.ref a), .val (.ref r), .val (.int (0 : Int32))] [(.ref a)])) rfl rfl (hb hby d4_17)
  refine Goes.by (T' := T10) (g' := (mkF m 20 #[.val (.ref a), .val (.ref r), .val (.int (0 : Int32))] [(.ref b)])) st10 ?_
  refine Goes.by (T' := T10) (g' := (mkF m 21 #[.val (.ref a), .val (.ref r), .val (.int (0 : Int32))] [(.int (0 : Int32)), (.ref b)])) (fun _ k => XS.iloadN X10.here hx rfl (hb hby d4_20) rfl k) ?_
  refine Goes.by (T' := T10) (g' := (mkF m 22 #[.val (.ref a), .val (.ref r), .val (.int (0 : Int32))] [(.double d0)])) (ldDS X10 hx hZ e10 VB (v := (.double d0)) (j := (0 : Int32)) 0 (by decide) rfl (g := (mkF m 21 #[.val (.ref a), .val (.ref r), .val (.int (0 : Int32))] [(.int (0 : Int32)), (.ref b)])) rfl rfl (hb hby d4_21)) ?_
  refine Goes.by (T' := T10) (g' := (mkF m 23 #[.val (.ref a), .val (.ref r), .val (.int (0 : Int32))] [(.double (0 : UInt64)), (.double d0)])) (fun _ k => XS.dconst0 X10.here hx rfl (hb hby d4_22) rfl k) ?_
  by_cases hc0 : 0 < j0
  · refine Goes.by (T' := T10) (g' := (mkF m 24 #[.val (.ref a), .val (.ref r), .val (.int (0 : Int32))] [(.int (1 : Int32))])) (fun _ k => XS.dcmpS X10.here hx rfl (hb hby d4_23) rfl (cmpD_gt I0 DInt_zero hc0 _) k) ?_
    refine Goes.by (T' := T10) (g' := (mkF m 27 #[.val (.ref a), .val (.ref r), .val (.int (0 : Int32))] [])) (fun _ k => XS.ifNo X10.here hx rfl (hb hby d4_24) rfl (by decide) k) ?_
    refine Goes.by (T' := T10) (g' := (mkF m 28 #[.val (.ref a), .val (.ref r), .val (.int (0 : Int32))] [(.ref r)])) (fun _ k => XS.aloadN X10.here hx rfl (hb hby d4_27) rfl rfl k) ?_
    refine Goes.by (T' := T10) (g' := (mkF m 29 #[.val (.ref a), .val (.ref r), .val (.int (0 : Int32))] [(.int (0 : Int32)), (.ref r)])) (fun _ k => XS.iloadN X10.here hx rfl (hb hby d4_28) rfl k) ?_
    refine Goes.by (T' := T10) (g' := (mkF m 30 #[.val (.ref a), .val (.ref r), .val (.int (0 : Int32))] [(.ref a), (.int (0 : Int32)), (.ref r)])) (fun _ k => XS.aloadN X10.here hx rfl (hb hby d4_29) rfl rfl k) ?_
    obtain ⟨T11, X11, e11, st11⟩ := getF X10 hx hZ hown (host := "") (Or.inl (hw _ (List.mem_of_getElem? (i := 15) rfl))) Via.refl e10 F1 (g := (mkF m 30 #[.val (.ref a), .val (.ref r), .val (.int (0 : Int32))] [(.ref a), (.int (0 : Int32)), (.ref r)])) rfl rfl (hb hby d4_30)
    refine Goes.by (T' := T11) (g' := (mkF m 33 #[.val (.ref a), .val (.ref r), .val (.int (0 : Int32))] [(.double dn), (.int (0 : Int32)), (.ref r)])) st11 ?_
    refine Goes.by (T' := T11) (g' := (mkF m 34 #[.val (.ref a), .val (.ref r), .val (.int (0 : Int32))] [(.double (4607182418800017408 : UInt64)), (.double dn), (.int (0 : Int32)), (.ref r)])) (fun _ k => XS.dconst1 X11.here hx rfl (hb hby d4_33) rfl k) ?_
    obtain ⟨sn0, q_sn0⟩ : ∃ zz, FP.dadd dn (4607182418800017408 : UInt64) = zz := ⟨_, rfl⟩
    have DS0 := DInt_add q_sn0 NN DInt_one (by omega)
    refine Goes.by (T' := T11) (g' := (mkF m 35 #[.val (.ref a), .val (.ref r), .val (.int (0 : Int32))] [(.double sn0), (.int (0 : Int32)), (.ref r)])) (fun _ k => XS.daddS X11.here hx rfl (hb hby d4_34) rfl (by rw [q_sn0]; exact DInt_nn DS0) q_sn0 k) ?_
    refine Goes.by (T' := T11) (g' := (mkF m 36 #[.val (.ref a), .val (.ref r), .val (.int (0 : Int32))] [(.ref a), (.double sn0), (.int (0 : Int32)), (.ref r)])) (fun _ k => XS.aloadN X11.here hx rfl (hb hby d4_35) rfl rfl k) ?_
    obtain ⟨T12, X12, e12, st12⟩ := getF X11 hx hZ hown (host := "") (Or.inl (hw _ (List.mem_of_getElem? (i := 17) rfl))) Via.refl e11 F2 (g := (mkF m 36 #[.val (.ref a), .val (.ref r), .val (.int (0 : Int32))] [(.ref a), (.double sn0), (.int (0 : Int32)), (.ref r)])) rfl rfl (hb hby d4_36)
    refine Goes.by (T' := T12) (g' := (mkF m 39 #[.val (.ref a), .val (.ref r), .val (.int (0 : Int32))] [(.ref b), (.double sn0), (.int (0 : Int32)), (.ref r)])) st12 ?_
    refine Goes.by (T' := T12) (g' := (mkF m 40 #[.val (.ref a), .val (.ref r), .val (.int (0 : Int32))] [(.int (0 : Int32)), (.ref b), (.double sn0), (.int (0 : Int32)), (.ref r)])) (fun _ k => XS.iloadN X12.here hx rfl (hb hby d4_39) rfl k) ?_
    refine Goes.by (T' := T12) (g' := (mkF m 41 #[.val (.ref a), .val (.ref r), .val (.int (0 : Int32))] [(.double d0), (.double sn0), (.int (0 : Int32)), (.ref r)])) (ldDS X12 hx hZ e12 VB (v := (.double d0)) (j := (0 : Int32)) 0 (by decide) rfl (g := (mkF m 40 #[.val (.ref a), .val (.ref r), .val (.int (0 : Int32))] [(.int (0 : Int32)), (.ref b), (.double sn0), (.int (0 : Int32)), (.ref r)])) rfl rfl (hb hby d4_40)) ?_
    obtain ⟨dq0, q_dq0⟩ : ∃ zz, FP.ddiv sn0 d0 = zz := ⟨_, rfl⟩
    refine Goes.by (T' := T12) (g' := (mkF m 42 #[.val (.ref a), .val (.ref r), .val (.int (0 : Int32))] [(.double dq0), (.int (0 : Int32)), (.ref r)])) (fun _ k => XS.ddivS X12.here hx rfl (hb hby d4_41) rfl (by rw [q_dq0]; exact (q_dq0 ▸ ddiv_out (DInt_nn DS0) (DInt_fin I0) (DInt_nz I0 (by omega)))) q_dq0 k) ?_
    have EI0 : own_idf dn d0 j0 = dq0 := by rw [own_idf_p hc0, q_sn0, q_dq0]
    obtain ⟨T13, h13, X13, e13, W13, V13, st13⟩ := stDS X12 hx hZ e12 V_r (j := (0 : Int32)) 0 (by decide) (by show 0 < 3; decide) (g := (mkF m 42 #[.val (.ref a), .val (.ref r), .val (.int (0 : Int32))] [(.double dq0), (.int (0 : Int32)), (.ref r)])) rfl rfl (hb hby d4_42)
    have N0 := Fr.snoc X13 N0 ge_r
    have F1 := F1.other W13 (Or.inl ne_a_r)
    have F2 := F2.other W13 (Or.inl ne_a_r)
    have VB := VB.other W13 ne_b_r
    have Z0 := Nat.le_trans Z0 (Nat.le_of_eq W13.size.symm)
    have K0 := K0.wr W13 (Or.inr sz_r)
    have V_r : Sar Z h13 r .double [(.double dq0), (.double (0 : UInt64)), (.double (0 : UInt64))] := V13
    refine Goes.by (T' := T13) (g' := (mkF m 43 #[.val (.ref a), .val (.ref r), .val (.int (0 : Int32))] [])) st13 ?_
    refine Goes.by (T' := T13) (g' := (mkF m 46 #[.val (.ref a), .val (.ref r), .val (.int (1 : Int32))] [])) (fun _ k => XS.iinc X13.here hx rfl (hb hby d4_43) rfl (l' := #[.val (.ref a), .val (.ref r), .val (.int (1 : Int32))]) rfl k) ?_
    refine Goes.by (T' := T13) (g' := (mkF m 10 #[.val (.ref a), .val (.ref r), .val (.int (1 : Int32))] [])) (fun _ k => XS.goto X13.here hx rfl (pc0 := 46) (pc' := 10) rfl (hb hby d4_46) (by decide) (by decide) k) ?_
    refine Goes.by (T' := T13) (g' := (mkF m 11 #[.val (.ref a), .val (.ref r), .val (.int (1 : Int32))] [(.int (1 : Int32))])) (fun _ k => XS.iloadN X13.here hx rfl (hb hby d4_10) rfl k) ?_
    refine Goes.by (T' := T13) (g' := (mkF m 12 #[.val (.ref a), .val (.ref r), .val (.int (1 : Int32))] [(.ref r), (.int (1 : Int32))])) (fun _ k => XS.aloadN X13.here hx rfl (hb hby d4_11) rfl rfl k) ?_
    refine Goes.by (T' := T13) (g' := (mkF m 13 #[.val (.ref a), .val (.ref r), .val (.int (1 : Int32))] [(.int (3 : Int32)), (.int (1 : Int32))])) (lenS X13 hx hZ e13 V_r (n := (3 : Int32)) rfl (g := (mkF m 12 #[.val (.ref a), .val (.ref r), .val (.int (1 : Int32))] [(.ref r), (.int (1 : Int32))])) rfl rfl (hb hby d4_12)) ?_
    refine Goes.by (T' := T13) (g' := (mkF m 16 #[.val (.ref a), .val (.ref r), .val (.int (1 : Int32))] [])) (fun _ k => XS.icmpNo X13.here hx rfl (hb hby d4_13) rfl (by decide) k) ?_
    refine Goes.by (T' := T13) (g' := (mkF m 17 #[.val (.ref a), .val (.ref r), .val (.int (1 : Int32))] [(.ref a)])) (fun _ k => XS.aloadN X13.here hx rfl (hb hby d4_16) rfl rfl k) ?_
    obtain ⟨T14, X14, e14, st14⟩ := getF X13 hx hZ hown (host := "") (Or.inl (hw _ (List.mem_of_getElem? (i := 17) rfl))) Via.refl e13 F2 (g := (mkF m 17 #[.val (.ref a), .val (.ref r), .val (.int (1 : Int32))] [(.ref a)])) rfl rfl (hb hby d4_17)
    refine Goes.by (T' := T14) (g' := (mkF m 20 #[.val (.ref a), .val (.ref r), .val (.int (1 : Int32))] [(.ref b)])) st14 ?_
    refine Goes.by (T' := T14) (g' := (mkF m 21 #[.val (.ref a), .val (.ref r), .val (.int (1 : Int32))] [(.int (1 : Int32)), (.ref b)])) (fun _ k => XS.iloadN X14.here hx rfl (hb hby d4_20) rfl k) ?_
    refine Goes.by (T' := T14) (g' := (mkF m 22 #[.val (.ref a), .val (.ref r), .val (.int (1 : Int32))] [(.double d1)])) (ldDS X14 hx hZ e14 VB (v := (.double d1)) (j := (1 : Int32)) 1 (by decide) rfl (g := (mkF m 21 #[.val (.ref a), .val (.ref r), .val (.int (1 : Int32))] [(.int (1 : Int32)), (.ref b)])) rfl rfl (hb hby d4_21)) ?_
    refine Goes.by (T' := T14) (g' := (mkF m 23 #[.val (.ref a), .val (.ref r), .val (.int (1 : Int32))] [(.double (0 : UInt64)), (.double d1)])) (fun _ k => XS.dconst0 X14.here hx rfl (hb hby d4_22) rfl k) ?_
    by_cases hc1 : 0 < j1
    · refine Goes.by (T' := T14) (g' := (mkF m 24 #[.val (.ref a), .val (.ref r), .val (.int (1 : Int32))] [(.int (1 : Int32))])) (fun _ k => XS.dcmpS X14.here hx rfl (hb hby d4_23) rfl (cmpD_gt I1 DInt_zero hc1 _) k) ?_
      refine Goes.by (T' := T14) (g' := (mkF m 27 #[.val (.ref a), .val (.ref r), .val (.int (1 : Int32))] [])) (fun _ k => XS.ifNo X14.here hx rfl (hb hby d4_24) rfl (by decide) k) ?_
      refine Goes.by (T' := T14) (g' := (mkF m 28 #[.val (.ref a), .val (.ref r), .val (.int (1 : Int32))] [(.ref r)])) (fun _ k => XS.aloadN X14.here hx rfl (hb hby d4_27) rfl rfl k) ?_
      refine Goes.by (T' := T14) (g' := (mkF m 29 #[.val (.ref a), .val (.ref r), .val (.int (1 : Int32))] [(.int (1 : Int32)), (.ref r)])) (fun _ k => XS.iloadN X14.here hx rfl (hb hby d4_28) rfl k) ?_
      refine Goes.by (T' := T14) (g' := (mkF m 30 #[.val (.ref a), .val (.ref r), .val (.int (1 : Int32))] [(.ref a), (.int (1 : Int32)), (.ref r)])) (fun _ k => XS.aloadN X14.here hx rfl (hb hby d4_29) rfl rfl k) ?_
      obtain ⟨T15, X15, e15, st15⟩ := getF X14 hx hZ hown (host := "") (Or.inl (hw _ (List.mem_of_getElem? (i := 15) rfl))) Via.refl e14 F1 (g := (mkF m 30 #[.val (.ref a), .val (.ref r), .val (.int (1 : Int32))] [(.ref a), (.int (1 : Int32)), (.ref r)])) rfl rfl (hb hby d4_30)
      refine Goes.by (T' := T15) (g' := (mkF m 33 #[.val (.ref a), .val (.ref r), .val (.int (1 : Int32))] [(.double dn), (.int (1 : Int32)), (.ref r)])) st15 ?_
      refine Goes.by (T' := T15) (g' := (mkF m 34 #[.val (.ref a), .val (.ref r), .val (.int (1 : Int32))] [(.double (4607182418800017408 : UInt64)), (.double dn), (.int (1 : Int32)), (.ref r)])) (fun _ k => XS.dconst1 X15.here hx rfl (hb hby d4_33) rfl k) ?_
      obtain ⟨sn1, q_sn1⟩ : ∃ zz, FP.dadd dn (4607182418800017408 : UInt64) = zz := ⟨_, rfl⟩
      have DS1 := DInt_add q_sn1 NN DInt_one (by omega)
      refine Goes.by (T' := T15) (g' := (mkF m 35 #[.val (.ref a), .val (.ref r), .val (.int (1 : Int32))] [(.double sn1), (.int (1 : Int32)), (.ref r)])) (fun _ k => XS.daddS X15.here hx rfl (hb hby d4_34) rfl (by rw [q_sn1]; exact DInt_nn DS1) q_sn1 k) ?_
      refine Goes.by (T' := T15) (g' := (mkF m 36 #[.val (.ref a), .val (.ref r), .val (.int (1 : Int32))] [(.ref a), (.double sn1), (.int (1 : Int32)), (.ref r)])) (fun _ k => XS.aloadN X15.here hx rfl (hb hby d4_35) rfl rfl k) ?_
      obtain ⟨T16, X16, e16, st16⟩ := getF X15 hx hZ hown (host := "") (Or.inl (hw _ (List.mem_of_getElem? (i := 17) rfl))) Via.refl e15 F2 (g := (mkF m 36 #[.val (.ref a), .val (.ref r), .val (.int (1 : Int32))] [(.ref a), (.double sn1), (.int (1 : Int32)), (.ref r)])) rfl rfl (hb hby d4_36)
      refine Goes.by (T' := T16) (g' := (mkF m 39 #[.val (.ref a), .val (.ref r), .val (.int (1 : Int32))] [(.ref b), (.double sn1), (.int (1 : Int32)), (.ref r)])) st16 ?_
      refine Goes.by (T' := T16) (g' := (mkF m 40 #[.val (.ref a), .val (.ref r), .val (.int (1 : Int32))] [(.int (1 : Int32)), (.ref b), (.double sn1), (.int (1 : Int32)), (.ref r)])) (fun _ k => XS.iloadN X16.here hx rfl (hb hby d4_39) rfl k) ?_
      refine Goes.by (T' := T16) (g' := (mkF m 41 #[.val (.ref a), .val (.ref r), .val (.int (1 : Int32))] [(.double d1), (.double sn1), (.int (1 : Int32)), (.ref r)])) (ldDS X16 hx hZ e16 VB (v := (.double d1)) (j := (1 : Int32)) 1 (by decide) rfl (g := (mkF m 40 #[.val (.ref a), .val (.ref r), .val (.int (1 : Int32))] [(.int (1 : Int32)), (.ref b), (.double sn1), (.int (1 : Int32)), (.ref r)])) rfl rfl (hb hby d4_40)) ?_
      obtain ⟨dq1, q_dq1⟩ : ∃ zz, FP.ddiv sn1 d1 = zz := ⟨_, rfl⟩
      refine Goes.by (T' := T16) (g' := (mkF m 42 #[.val (.ref a), .val (.ref r), .val (.int (1 : Int32))] [(.double dq1), (.int (1 : Int32)), (.ref r)])) (fun _ k => XS.ddivS X16.here hx rfl (hb hby d4_41) rfl (by rw [q_dq1]; exact (q_dq1 ▸ ddiv_out (DInt_nn DS1) (DInt_fin I1) (DInt_nz I1 (by omega)))) q_dq1 k) ?_
      have EI1 : own_idf dn d1 j1 = dq1 := by rw [own_idf_p hc1, q_sn1, q_dq1]
      obtain ⟨T17, h17, X17, e17, W17, V17, st17⟩ := stDS X16 hx hZ e16 V_r (j := (1 : Int32)) 1 (by decide) (by show 1 < 3; decide) (g := (mkF m 42 #[.val (.ref a), .val (.ref r), .val (.int (1 : Int32))] [(.double dq1), (.int (1 : Int32)), (.ref r)])) rfl rfl (hb hby d4_42)
      have N0 := Fr.snoc X17 N0 ge_r
      have F1 := F1.other W17 (Or.inl ne_a_r)
      have F2 := F2.other W17 (Or.inl ne_a_r)
      have VB := VB.other W17 ne_b_r
      have Z0 := Nat.le_trans Z0 (Nat.le_of_eq W17.size.symm)
      have K0 := K0.wr W17 (Or.inr sz_r)
      have V_r : Sar Z h17 r .double [(.double dq0), (.double dq1), (.double (0 : UInt64))] := V17
      refine Goes.by (T' := T17) (g' := (mkF m 43 #[.val (.ref a), .val (.ref r), .val (.int (1 : Int32))] [])) st17 ?_
      refine Goes.by (T' := T17) (g' := (mkF m 46 #[.val (.ref a), .val (.ref r), .val (.int (2 : Int32))] [])) (fun _ k => XS.iinc X17.here hx rfl (hb hby d4_43) rfl (l' := #[.val (.ref a), .val (.ref r), .val (.int (2 : Int32))]) rfl k) ?_
      refine Goes.by (T' := T17) (g' := (mkF m 10 #[.val (.ref a), .val (.ref r), .val (.int (2 : Int32))] [])) (fun _ k => XS.goto X17.here hx rfl (pc0 := 46) (pc' := 10) rfl (hb hby d4_46) (by decide) (by decide) k) ?_
      refine Goes.by (T' := T17) (g' := (mkF m 11 #[.val (.ref a), .val (.ref r), .val (.int (2 : Int32))] [(.int (2 : Int32))])) (fun _ k => XS.iloadN X17.here hx rfl (hb hby d4_10) rfl k) ?_
      refine Goes.by (T' := T17) (g' := (mkF m 12 #[.val (.ref a), .val (.ref r), .val (.int (2 : Int32))] [(.ref r), (.int (2 : Int32))])) (fun _ k => XS.aloadN X17.here hx rfl (hb hby d4_11) rfl rfl k) ?_
      refine Goes.by (T' := T17) (g' := (mkF m 13 #[.val (.ref a), .val (.ref r), .val (.int (2 : Int32))] [(.int (3 : Int32)), (.int (2 : Int32))])) (lenS X17 hx hZ e17 V_r (n := (3 : Int32)) rfl (g := (mkF m 12 #[.val (.ref a), .val (.ref r), .val (.int (2 : Int32))] [(.ref r), (.int (2 : Int32))])) rfl rfl (hb hby d4_12)) ?_
      refine Goes.by (T' := T17) (g' := (mkF m 16 #[.val (.ref a), .val (.ref r), .val (.int (2 : Int32))] [])) (fun _ k => XS.icmpNo X17.here hx rfl (hb hby d4_13) rfl (by decide) k) ?_
      refine Goes.by (T' := T17) (g' := (mkF m 17 #[.val (.ref a), .val (.ref r), .val (.int (2 : Int32))] [(.ref a)])) (fun _ k => XS.aloadN X17.here hx rfl (hb hby d4_16) rfl rfl k) ?_
      obtain ⟨T18, X18, e18, st18⟩ := getF X17 hx hZ hown (host := "") (Or.inl (hw _ (List.mem_of_getElem? (i := 17) rfl))) Via.refl e17 F2 (g := (mkF m 17 #[.val (.ref a), .val (.ref r), .val (.int (2 : Int32))] [(.ref a)])) rfl rfl (hb hby d4_17)
      refine Goes.by (T' := T18) (g' := (mkF m 20 #[.val (.ref a), .val (.ref r), .val (.int (2 : Int32))] [(.ref b)])) st18 ?_
      refine Goes.by (T' := T18) (g' := (mkF m 21 #[.val (.ref a), .val (.ref r), .val (.int (2 : Int32))] [(.int (2 : Int32)), (.ref b)])) (fun _ k => XS.iloadN X18.here hx rfl (hb hby d4_20) rfl k) ?_
      refine Goes.by (T' := T18) (g' := (mkF m 22 #[.val (.ref a), .val (.ref r), .val (.int (2 : Int32))] [(.double d2)])) (ldDS X18 hx hZ e18 VB (v := (.double d2)) (j := (2 : Int32)) 2 (by decide) rfl (g := (mkF m 21 #[.val (.ref a), .val (.ref r), .val (.int (2 : Int32))] [(.int (2 : Int32)), (.ref b)])) rfl rfl (hb hby d4_21)) ?_
      refine Goes.by (T' := T18) (g' := (mkF m 23 #[.val (.ref a), .val (.ref r), .val (.int (2 : Int32))] [(.double (0 : UInt64)), (.double d2)])) (fun _ k => XS.dconst0 X18.here hx rfl (hb hby d4_22) rfl k) ?_
      by_cases hc2 : 0 < j2
      · refine Goes.by (T' := T18) (g' := (mkF m 24 #[.val (.ref a), .val (.ref r), .val (.int (2 : Int32))] [(.int (1 : Int32))])) (fun _ k => XS.dcmpS X18.here hx rfl (hb hby d4_23) rfl (cmpD_gt I2 DInt_zero hc2 _) k) ?_
        refine Goes.by (T' := T18) (g' := (mkF m 27 #[.val (.ref a), .val (.ref r), .val (.int (2 : Int32))] [])) (fun _ k => XS.ifNo X18.here hx rfl (hb hby d4_24) rfl (by decide) k) ?_
        refine Goes.by (T' := T18) (g' := (mkF m 28 #[.val (.ref a), .val (.ref r), .val (.int (2 : Int32))] [(.ref r)])) (fun _ k => XS.aloadN X18.here hx rfl (hb hby d4_27) rfl rfl k) ?_
        refine Goes.by (T' := T18) (g' := (mkF m 29 #[.val (.ref a), .val (.ref r), .val (.int (2 : Int32))] [(.int (2 : Int32)), (.ref r)])) (fun _ k => XS.iloadN X18.here hx rfl (hb hby d4_28) rfl k) ?_
        refine Goes.by (T' := T18) (g' := (mkF m 30 #[.val (.ref a), .val (.ref r), .val (.int (2 : Int32))] [(.ref a), (.int (2 : Int32)), (.ref r)])) (fun _ k => XS.aloadN X18.here hx rfl (hb hby d4_29) rfl rfl k) ?_
        obtain ⟨T19, X19, e19, st19⟩ := getF X18 hx hZ hown (host := "") (Or.inl (hw _ (List.mem_of_getElem? (i := 15) rfl))) Via.refl e18 F1 (g := (mkF m 30 #[.val (.ref a), .val (.ref r), .val (.int (2 : Int32))] [(.ref a), (.int (2 : Int32)), (.ref r)])) rfl rfl (hb hby d4_30)
        refine Goes.by (T' := T19) (g' := (mkF m 33 #[.val (.ref a), .val (.ref r), .val (.int (2 : Int32))] [(.double dn), (.int (2 : Int32)), (.ref r)])) st19 ?_
        refine Goes.by (T' := T19) (g' := (mkF m 34 #[.val (.ref a), .val (.ref r), .val (.int (2 : Int32))] [(.double (4607182418800017408 : UInt64)), (.double dn), (.int (2 : Int32)), (.ref r)])) (fun _ k => XS.dconst1 X19.here hx rfl (hb hby d4_33) rfl k) ?_
        obtain ⟨sn2, q_sn2⟩ : ∃ zz, FP.dadd dn (4607182418800017408 : UInt64) = zz := ⟨_, rfl⟩
        have DS2 := DInt_add q_sn2 NN DInt_one (by omega)
        refine Goes.by (T' := T19) (g' := (mkF m 35 #[.val (.ref a), .val (.ref r), .val (.int (2 : Int32))] [(.double sn2), (.int (2 : Int32)), (.ref r)])) (fun _ k => XS.daddS X19.here hx rfl (hb hby d4_34) rfl (by rw [q_sn2]; exact DInt_nn DS2) q_sn2 k) ?_
        refine Goes.by (T' := T19) (g' := (mkF m 36 #[.val (.ref a), .val (.ref r), .val (.int (2 : Int32))] [(.ref a), (.double sn2), (.int (2 : Int32)), (.ref r)])) (fun _ k => XS.aloadN X19.here hx rfl (hb hby d4_35) rfl rfl k) ?_
        obtain ⟨T20, X20, e20, st20⟩ := getF X19 hx hZ hown (host := "") (Or.inl (hw _ (List.mem_of_getElem? (i := 17) rfl))) Via.refl e19 F2 (g := (mkF m 36 #[.val (.ref a), .val (.ref r), .val (.int (2 : Int32))] [(.ref a), (.double sn2), (.int (2 : Int32)), (.ref r)])) rfl rfl (hb hby d4_36)
        refine Goes.by (T' := T20) (g' := (mkF m 39 #[.val (.ref a), .val (.ref r), .val (.int (2 : Int32))] [(.ref b), (.double sn2), (.int (2 : Int32)), (.ref r)])) st20 ?_
        refine Goes.by (T' := T20) (g' := (mkF m 40 #[.val (.ref a), .val (.ref r), .val (.int (2 : Int32))] [(.int (2 : Int32)), (.ref b), (.double sn2), (.int (2 : Int32)), (.ref r)])) (fun _ k => XS.iloadN X20.here hx rfl (hb hby d4_39) rfl k) ?_
        refine Goes.by (T' := T20) (g' := (mkF m 41 #[.val (.ref a), .val (.ref r), .val (.int (2 : Int32))] [(.double d2), (.double sn2), (.int (2 : Int32)), (.ref r)])) (ldDS X20 hx hZ e20 VB (v := (.double d2)) (j := (2 : Int32)) 2 (by decide) rfl (g := (mkF m 40 #[.val (.ref a), .val (.ref r), .val (.int (2 : Int32))] [(.int (2 : Int32)), (.ref b), (.double sn2), (.int (2 : Int32)), (.ref r)])) rfl rfl (hb hby d4_40)) ?_
        obtain ⟨dq2, q_dq2⟩ : ∃ zz, FP.ddiv sn2 d2 = zz := ⟨_, rfl⟩
        refine Goes.by (T' := T20) (g' := (mkF m 42 #[.val (.ref a), .val (.ref r), .val (.int (2 : Int32))] [(.double dq2), (.int (2 : Int32)), (.ref r)])) (fun _ k => XS.ddivS X20.here hx rfl (hb hby d4_41) rfl (by rw [q_dq2]; exact (q_dq2 ▸ ddiv_out (DInt_nn DS2) (DInt_fin I2) (DInt_nz I2 (by omega)))) q_dq2 k) ?_
        have EI2 : own_idf dn d2 j2 = dq2 := by rw [own_idf_p hc2, q_sn2, q_dq2]
        obtain ⟨T21, h21, X21, e21, W21, V21, st21⟩ := stDS X20 hx hZ e20 V_r (j := (2 : Int32)) 2 (by decide) (by show 2 < 3; decide) (g := (mkF m 42 #[.val (.ref a), .val (.ref r), .val (.int (2 : Int32))] [(.double dq2), (.int (2 : Int32)), (.ref r)])) rfl rfl (hb hby d4_42)
        have N0 := Fr.snoc X21 N0 ge_r
        have F1 := F1.other W21 (Or.inl ne_a_r)
        have F2 := F2.other W21 (Or.inl ne_a_r)
        have VB := VB.other W21 ne_b_r
        have Z0 := Nat.le_trans Z0 (Nat.le_of_eq W21.size.symm)
        have K0 := K0.wr W21 (Or.inr sz_r)
        have V_r : Sar Z h21 r .double [(.double dq0), (.double dq1), (.double dq2)] := V21
        refine Goes.by (T' := T21) (g' := (mkF m 43 #[.val (.ref a), .val (.ref r), .val (.int (2 : Int32))] [])) st21 ?_
        refine Goes.by (T' := T21) (g' := (mkF m 46 #[.val (.ref a), .val (.ref r), .val (.int (3 : Int32))] [])) (fun _ k => XS.iinc X21.here hx rfl (hb hby d4_43) rfl (l' := #[.val (.ref a), .val (.ref r), .val (.int (3 : Int32))]) rfl k) ?_
        refine Goes.by (T' := T21) (g' := (mkF m 10 #[.val (.ref a), .val (.ref r), .val (.int (3 : Int32))] [])) (fun _ k => XS.goto X21.here hx rfl (pc0 := 46) (pc' := 10) rfl (hb hby d4_46) (by decide) (by decide) k) ?_
        refine Goes.by (T' := T21) (g' := (mkF m 11 #[.val (.ref a), .val (.ref r), .val (.int (3 : Int32))] [(.int (3 : Int32))])) (fun _ k => XS.iloadN X21.here hx rfl (hb hby d4_10) rfl k) ?_
        refine Goes.by (T' := T21) (g' := (mkF m 12 #[.val (.ref a), .val (.ref r), .val (.int (3 : Int32))] [(.ref r), (.int (3 : Int32))])) (fun _ k => XS.aloadN X21.here hx rfl (hb hby d4_11) rfl rfl k) ?_
        refine Goes.by (T' := T21) (g' := (mkF m 13 #[.val (.ref a), .val (.ref r), .val (.int (3 : Int32))] [(.int (3 : Int32)), (.int (3 : Int32))])) (lenS X21 hx hZ e21 V_r (n := (3 : Int32)) rfl (g := (mkF m 12 #[.val (.ref a), .val (.ref r), .val (.int (3 : Int32))] [(.ref r), (.int (3 : Int32))])) rfl rfl (hb hby d4_12)) ?_
        refine Goes.by (T' := T21) (g' := (mkF m 49 #[.val (.ref a), .val (.ref r), .val (.int (3 : Int32))] [])) (fun _ k => XS.icmpYes X21.here hx rfl (pc0 := 13) (pc' := 49) rfl (hb hby d4_13) rfl (by decide) (by decide) (by decide) k) ?_
        refine Goes.by (T' := T21) (g' := (mkF m 50 #[.val (.ref a), .val (.ref r), .val (.int (3 : Int32))] [(.ref r)])) (fun _ k => XS.aloadN X21.here hx rfl (hb hby d4_49) rfl rfl k) ?_
        exact outA X21 hx hlk hret rfl rfl rfl (hb hby d4_50) (by rw [e21]; exact ⟨r, rfl, sz_r, by rw [EI0, EI1, EI2]; exact V_r, K0, N0⟩) (by decide) (by decide)
      · obtain ⟨cv2, hv2, hn2⟩ := cmpD_le I2 DInt_zero (by omega) .l
        refine Goes.by (T' := T18) (g' := (mkF m 24 #[.val (.ref a), .val (.ref r), .val (.int (2 : Int32))] [(.int cv2)])) (fun _ k => XS.dcmpS X18.here hx rfl (hb hby d4_23) rfl hv2 k) ?_
        refine Goes.by (T' := T18) (g' := (mkF m 43 #[.val (.ref a), .val (.ref r), .val (.int (2 : Int32))] [])) (fun _ k => XS.ifYes X18.here hx rfl (pc0 := 24) (pc' := 43) rfl (hb hby d4_24) rfl ((if0 _ _).trans (flt hn2).2.2.2) (by decide) (by decide) k) ?_
        have EI2 : own_idf dn d2 j2 = 0 := own_idf_n hc2
        refine Goes.by (T' := T18) (g' := (mkF m 46 #[.val (.ref a), .val (.ref r), .val (.int (3 : Int32))] [])) (fun _ k => XS.iinc X18.here hx rfl (hb hby d4_43) rfl (l' := #[.val (.ref a), .val (.ref r), .val (.int (3 : Int32))]) rfl k) ?_
        refine Goes.by (T' := T18) (g' := (mkF m 10 #[.val (.ref a), .val (.ref r), .val (.int (3 : Int32))] [])) (fun _ k => XS.goto X18.here hx rfl (pc0 := 46) (pc' := 10) rfl (hb hby d4_46) (by decide) (by decide) k) ?_
        refine Goes.by (T' := T18) (g' := (mkF m 11 #[.val (.ref a), .val (.ref r), .val (.int (3 : Int32))] [(.int (3 : Int32))])) (fun _ k => XS.iloadN X18.here hx rfl (hb hby d4_10) rfl k) ?_
        refine Goes.by (T' := T18) (g' := (mkF m 12 #[.val (.ref a), .val (.ref r), .val (.int (3 : Int32))] [(.ref r), (.int (3 : Int32))])) (fun _ k => XS.aloadN X18.here hx rfl (hb hby d4_11) rfl rfl k) ?_
        refine Goes.by (T' := T18) (g' := (mkF m 13 #[.val (.ref a), .val (.ref r), .val (.int (3 : Int32))] [(.int (3 : Int32)), (.int (3 : Int32))])) (lenS X18 hx hZ e18 V_r (n := (3 : Int32)) rfl (g := (mkF m 12 #[.val (.ref a), .val (.ref r), .val (.int (3 : Int32))] [(.ref r), (.int (3 : Int32))])) rfl rfl (hb hby d4_12)) ?_
        refine Goes.by (T' := T18) (g' := (mkF m 49 #[.val (.ref a), .val (.ref r), .val (.int (3 : Int32))] [])) (fun _ k => XS.icmpYes X18.here hx rfl (pc0 := 13) (pc' := 49) rfl (hb hby d4_13) rfl (by decide) (by decide) (by decide) k) ?_
        refine Goes.by (T' := T18) (g' := (mkF m 50 #[.val (.ref a), .val (.ref r), .val (.int (3 : Int32))] [(.ref r)])) (fun _ k => XS.aloadN X18.here hx rfl (hb hby d4_49) rfl rfl k) ?_
        exact outA X18 hx hlk hret rfl rfl rfl (hb hby d4_50) (by rw [e18]; exact ⟨r, rfl, sz_r, by rw [EI0, EI1, EI2]; exact V_r, K0, N0⟩) (by decide) (by decide)
    · obtain ⟨cv1, hv1, hn1⟩ := cmpD_le I1 DInt_zero (by omega) .l
      refine Goes.by (T' := T14) (g' := (mkF m 24 #[.val (.ref a), .val (.ref r), .val (.int (1 : Int32))] [(.int cv1)])) (fun _ k => XS.dcmpS X14.here hx rfl (hb hby d4_23) rfl hv1 k) ?_
      refine Goes.by (T' := T14) (g' := (mkF m 43 #[.val (.ref a), .val (.ref r), .val (.int (1 : Int32))] [])) (fun _ k => XS.ifYes X14.here hx rfl (pc0 := 24) (pc' := 43) rfl (hb hby d4_24) rfl ((if0 _ _).trans (flt hn1).2.2.2) (by decide) (by decide) k) ?_
      have EI1 : own_idf dn d1 j1 = 0 := own_idf_n hc1
      refine Goes.by (T' := T14) (g' := (mkF m 46 #[.val (.ref a), .val (.ref r), .val (.int (2 : Int32))] [])) (fun _ k => XS.iinc X14.here hx rfl (hb hby d4_43) rfl (l' := #[.val (.ref a), .val (.ref r), .val (.int (2 : Int32))]) rfl k) ?_
      refine Goes.by (T' := T14) (g' := (mkF m 10 #[.val (.ref a), .val (.ref r), .val (.int (2 : Int32))] [])) (fun _ k => XS.goto X14.here hx rfl (pc0 := 46) (pc' := 10) rfl (hb hby d4_46) (by decide) (by decide) k) ?_
      refine Goes.by (T' := T14) (g' := (mkF m 11 #[.val (.ref a), .val (.ref r), .val (.int (2 : Int32))] [(.int (2 : Int32))])) (fun _ k => XS.iloadN X14.here hx rfl (hb hby d4_10) rfl k) ?_
      refine Goes.by (T' := T14) (g' := (mkF m 12 #[.val (.ref a), .val (.ref r), .val (.int (2 : Int32))] [(.ref r), (.int (2 : Int32))])) (fun _ k => XS.aloadN X14.here hx rfl (hb hby d4_11) rfl rfl k) ?_
      refine Goes.by (T' := T14) (g' := (mkF m 13 #[.val (.ref a), .val (.ref r), .val (.int (2 : Int32))] [(.int (3 : Int32)), (.int (2 : Int32))])) (lenS X14 hx hZ e14 V_r (n := (3 : Int32)) rfl (g := (mkF m 12 #[.val (.ref a), .val (.ref r), .val (.int (2 : Int32))] [(.ref r), (.int (2 : Int32))])) rfl rfl (hb hby d4_12)) ?_
      refine Goes.by (T' := T14) (g' := (mkF m 16 #[.val (.ref a), .val (.ref r), .val (.int (2 : Int32))] [])) (fun _ k => XS.icmpNo X14.here hx rfl (hb hby d4_13) rfl (by decide) k) ?_
      refine Goes.by (T' := T14) (g' := (mkF m 17 #[.val (.ref a), .val (.ref r), .val (.int (2 : Int32))] [(.ref a)])) (fun _ k => XS.aloadN X14.here hx rfl (hb hby d4_16) rfl rfl k) ?_
      obtain ⟨T22, X22, e22, st22⟩ := getF X14 hx hZ hown (host := "") (Or.inl (hw _ (List.mem_of_getElem? (i := 17) rfl))) Via.refl e14 F2 (g := (mkF m 17 #[.val (.ref a), .val (.ref r), .val (.int (2 : Int32))] [(.ref a)])) rfl rfl (hb hby d4_17)
      refine Goes.by (T' := T22) (g' := (mkF m 20 #[.val (.ref a), .val (.ref r), .val (.int (2 : Int32))] [(.ref b)])) st22 ?_
      refine Goes.by (T' := T22) (g' := (mkF m 21 #[.val (.ref a), .val (.ref r), .val (.int (2 : Int32))] [(.int (2 : Int32)), (.ref b)])) (fun _ k => XS.iloadN X22.here hx rfl (hb hby d4_20) rfl k) ?_
      refine Goes.by (T' := T22) (g' := (mkF m 22 #[.val (.ref a), .val (.ref r), .val (.int (2 : Int32))] [(.double d2)])) (ldDS X22 hx hZ e22 VB (v := (.double d2)) (j := (2 : Int32)) 2 (by decide) rfl (g := (mkF m 21 #[.val (.ref a), .val (.ref r), .val (.int (2 : Int32))] [(.int (2 : Int32)), (.ref b)])) rfl rfl (hb hby d4_21)) ?_
      refine Goes.by (T' := T22) (g' := (mkF m 23 #[.val (.ref a), .val (.ref r), .val (.int (2 : Int32))] [(.double (0 : UInt64)), (.double d2)])) (fun _ k => XS.dconst0 X22.here hx rfl (hb hby d4_22) rfl k) ?_
      by_cases hc2 : 0 < j2
      · refine Goes.by (T' := T22) (g' := (mkF m 24 #[.val (.ref a), .val (.ref r), .val (.int (2 : Int32))] [(.int (1 : Int32))])) (fun _ k => XS.dcmpS X22.here hx rfl (hb hby d4_23) rfl (cmpD_gt I2 DInt_zero hc2 _) k) ?_
        refine Goes.by (T' := T22) (g' := (mkF m 27 #[.val (.ref a), .val (.ref r), .val (.int (2 : Int32))] [])) (fun _ k => XS.ifNo X22.here hx rfl (hb hby d4_24) rfl (by decide) k) ?_
        refine Goes.by (T' := T22) (g' := (mkF m 28 #[.val (.ref a), .val (.ref r), .val (.int (2 : Int32))] [(.ref r)])) (fun _ k => XS.aloadN X22.here hx rfl (hb hby d4_27) rfl rfl k) ?_
        refine Goes.by (T' := T22) (g' := (mkF m 29 #[.val (.ref a), .val (.ref r), .val (.int (2 : Int32))] [(.int (2 : Int32)), (.ref r)])) (fun _ k => XS.iloadN X22.here hx rfl (hb hby d4_28) rfl k) ?_
        refine Goes.by (T' := T22) (g' := (mkF m 30 #[.val (.ref a), .val (.ref r), .val (.int (2 : Int32))] [(.ref a), (.int (2 : Int32)), (.ref r)])) (fun _ k => XS.aloadN X22.here hx rfl (hb hby d4_29) rfl rfl k) ?_
        obtain ⟨T23, X23, e23, st23⟩ := getF X22 hx hZ hown (host := "") (Or.inl (hw _ (List.mem_of_getElem? (i := 15) rfl))) Via.refl e22 F1 (g := (mkF m 30 #[.val (.ref a), .val (.ref r), .val (.int (2 : Int32))] [(.ref a), (.int (2 : Int32)), (.ref r)])) rfl rfl (hb hby d4_30)
        refine Goes.by (T' := T23) (g' := (mkF m 33 #[.val (.ref a), .val (.ref r), .val (.int (2 : Int32))] [(.double dn), (.int (2 : Int32)), (.ref r)])) st23 ?_
        refine Goes.by (T' := T23) (g' := (mkF m 34 #[.val (.ref a), .val (.ref r), .val (.int (2 : Int32))] [(.double (4607182418800017408 : UInt64)), (.double dn), (.int (2 : Int32)), (.ref r)])) (fun _ k => XS.dconst1 X23.here hx rfl (hb hby d4_33) rfl k) ?_
        obtain ⟨sn2, q_sn2⟩ : ∃ zz, FP.dadd dn (4607182418800017408 : UInt64) = zz := ⟨_, rfl⟩
        have DS2 := DInt_add q_sn2 NN DInt_one (by omega)
        refine Goes.by (T' := T23) (g' := (mkF m 35 #[.val (.ref a), .val (.ref r), .val (.int (2 : Int32))] [(.double sn2), (.int (2 : Int32)), (.ref r)])) (fun _ k => XS.daddS X23.here hx rfl (hb hby d4_34) rfl (by rw [q_sn2]; exact DInt_nn DS2) q_sn2 k) ?_
        refine Goes.by (T' := T23) (g' := (mkF m 36 #[.val (.ref a), .val (.ref r), .val (.int (2 : Int32))] [(.ref a), (.double sn2), (.int (2 : Int32)), (.ref r)])) (fun _ k => XS.aloadN X23.here hx rfl (hb hby d4_35) rfl rfl k) ?_
        obtain ⟨T24, X24, e24, st24⟩ := getF X23 hx hZ hown (host := "") (Or.inl (hw _ (List.mem_of_getElem? (i := 17) rfl))) Via.refl e23 F2 (g := (mkF m 36 #[.val (.ref a), .val (.ref r), .val (.int (2 : Int32))] [(.ref a), (.double sn2), (.int (2 : Int32)), (.ref r)])) rfl rfl (hb hby d4_36)
        refine Goes.by (T' := T24) (g' := (mkF m 39 #[.val (.ref a), .val (.ref r), .val (.int (2 : Int32))] [(.ref b), (.double sn2), (.int (2 : Int32)), (.ref r)])) st24 ?_
        refine Goes.by (T' := T24) (g' := (mkF m 40 #[.val (.ref a), .val (.ref r), .val (.int (2 : Int32))] [(.int (2 : Int32)), (.ref b), (.double sn2), (.int (2 : Int32)), (.ref r)])) (fun _ k => XS.iloadN X24.here hx rfl (hb hby d4_39) rfl k) ?_
        refine Goes.by (T' := T24) (g' := (mkF m 41 #[.val (.ref a), .val (.ref r), .val (.int (2 : Int32))] [(.double d2), (.double sn2), (.int (2 : Int32)), (.ref r)])) (ldDS X24 hx hZ e24 VB (v := (.double d2)) (j := (2 : Int32)) 2 (by decide) rfl (g := (mkF m 40 #[.val (.ref a), .val (.ref r), .val (.int (2 : Int32))] [(.int (2 : Int32)), (.ref b), (.double sn2), (.int (2 : Int32)), (.ref r)])) rfl rfl (hb hby d4_40)) ?_
        obtain ⟨dq2, q_dq2⟩ : ∃ zz, FP.ddiv sn2 d2 = zz := ⟨_, rfl⟩
        refine Goes.by (T' := T24) (g' := (mkF m 42 #[.val (.ref a), .val (.ref r), .val (.int (2 : Int32))] [(.double dq2), (.int (2 : Int32)), (.ref r)])) (fun _ k => XS.ddivS X24.here hx rfl (hb hby d4_41) rfl (by rw [q_dq2]; exact (q_dq2 ▸ ddiv_out (DInt_nn DS2) (DInt_fin I2) (DInt_nz I2 (by omega)))) q_dq2 k) ?_
        have EI2 : own_idf dn d2 j2 = dq2 := by rw [own_idf_p hc2, q_sn2, q_dq2]
        obtain ⟨T25, h25, X25, e25, W25, V25, st25⟩ := stDS X24 hx hZ e24 V_r (j := (2 : Int32)) 2 (by decide) (by show 2 < 3; decide) (g := (mkF m 42 #[.val (.ref a), .val (.ref r), .val (.int (2 : Int32))] [(.double dq2), (.int (2 : Int32)), (.ref r)])) rfl rfl (hb hby d4_42)
        have N0 := Fr.snoc X25 N0 ge_r
        have F1 := F1.other W25 (Or.inl ne_a_r)
        have F2 := F2.other W25 (Or.inl ne_a_r)
        have VB := VB.other W25 ne_b_r
        have Z0 := Nat.le_trans Z0 (Nat.le_of_eq W25.size.symm)
        have K0 := K0.wr W25 (Or.inr sz_r)
        have V_r : Sar Z h25 r .double [(.double dq0), (.double (0 : UInt64)), (.double dq2)] := V25
        refine Goes.by (T' := T25) (g' := (mkF m 43 #[.val (.ref a), .val (.ref r), .val (.int (2 : Int32))] [])) st25 ?_
        refine Goes.by (T' := T25) (g' := (mkF m 46 #[.val (.ref a), .val (.ref r), .val (.int (3 : Int32))] [])) (fun _ k => XS.iinc X25.here hx rfl (hb hby d4_43) rfl (l' := #[.val (.ref a), .val (.ref r), .val (.int (3 : Int32))]) rfl k) ?_
        refine Goes.by (T' := T25) (g' := (mkF m 10 #[.val (.ref a), .val (.ref r), .val (.int (3 : Int32))] [])) (fun _ k => XS.goto X25.here hx rfl (pc0 := 46) (pc' := 10) rfl (hb hby d4_46) (by decide) (by decide) k) ?_
        refine Goes.by (T' := T25) (g' := (mkF m 11 #[.val (.ref a), .val (.ref r), .val (.int (3 : Int32))] [(.int (3 : Int32))])) (fun _ k => XS.iloadN X25.here hx rfl (hb hby d4_10) rfl k) ?_
        refine Goes.by (T' := T25) (g' := (mkF m 12 #[.val (.ref a), .val (.ref r), .val (.int (3 : Int32))] [(.ref r), (.int (3 : Int32))])) (fun _ k => XS.aloadN X25.here hx rfl (hb hby d4_11) rfl rfl k) ?_
        refine Goes.by (T' := T25) (g' := (mkF m 13 #[.val (.ref a), .val (.ref r), .val (.int (3 : Int32))] [(.int (3 : Int32)), (.int (3 : Int32))])) (lenS X25 hx hZ e25 V_r (n := (3 : Int32)) rfl (g := (mkF m 12 #[.val (.ref a), .val (.ref r), .val (.int (3 : Int32))] [(.ref r), (.int (3 : Int32))])) rfl rfl (hb hby d4_12)) ?_
        refine Goes.by (T' := T25) (g' := (mkF m 49 #[.val (.ref a), .val (.ref r), .val (.int (3 : Int32))] [])) (fun _ k => XS.icmpYes X25.here hx rfl (pc0 := 13) (pc' := 49) rfl (hb hby d4_13) rfl (by decide) (by decide) (by decide) k) ?_
        refine Goes.by (T' := T25) (g' := (mkF m 50 #[.val (.ref a), .val (.ref r), .val (.int (3 : Int32))] [(.ref r)])) (fun _ k => XS.aloadN X25.here hx rfl (hb hby d4_49) rfl rfl k) ?_
        exact outA X25 hx hlk hret rfl rfl rfl (hb hby d4_50) (by rw [e25]; exact ⟨r, rfl, sz_r, by rw [EI0, EI1, EI2]; exact V_r, K0, N0⟩) (by decide) (by decide)
      · obtain ⟨cv2, hv2, hn2⟩ := cmpD_le I2 DInt_zero (by omega) .l
        refine Goes.by (T' := T22) (g' := (mkF m 24 #[.val (.ref a), .val (.ref r), .val (.int (2 : Int32))] [(.int cv2)])) (fun _ k => XS.dcmpS X22.here hx rfl (hb hby d4_23) rfl hv2 k) ?_
        refine Goes.by (T' := T22) (g' := (mkF m 43 #[.val (.ref a), .val (.ref r), .val (.int (2 : Int32))] [])) (fun _ k => XS.ifYes X22.here hx rfl (pc0 := 24) (pc' := 43) rfl (hb hby d4_24) rfl ((if0 _ _).trans (flt hn2).2.2.2) (by decide) (by decide) k) ?_
        have EI2 : own_idf dn d2 j2 = 0 := own_idf_n hc2
        refine Goes.by (T' := T22) (g' := (mkF m 46 #[.val (.ref a), .val (.ref r), .val (.int (3 : Int32))] [])) (fun _ k => XS.iinc X22.here hx rfl (hb hby d4_43) rfl (l' := #[.val (.ref a), .val (.ref r), .val (.int (3 : Int32))]) rfl k) ?_
        refine Goes.by (T' := T22) (g' := (mkF m 10 #[.val (.ref a), .val (.ref r), .val (.int (3 : Int32))] [])) (fun _ k => XS.goto X22.here hx rfl (pc0 := 46) (pc' := 10) rfl (hb hby d4_46) (by decide) (by decide) k) ?_
        refine Goes.by (T' := T22) (g' := (mkF m 11 #[.val (.ref a), .val (.ref r), .val (.int (3 : Int32))] [(.int (3 : Int32))])) (fun _ k => XS.iloadN X22.here hx rfl (hb hby d4_10) rfl k) ?_
        refine Goes.by (T' := T22) (g' := (mkF m 12 #[.val (.ref a), .val (.ref r), .val (.int (3 : Int32))] [(.ref r), (.int (3 : Int32))])) (fun _ k => XS.aloadN X22.here hx rfl (hb hby d4_11) rfl rfl k) ?_
        refine Goes.by (T' := T22) (g' := (mkF m 13 #[.val (.ref a), .val (.ref r), .val (.int (3 : Int32))] [(.int (3 : Int32)), (.int (3 : Int32))])) (lenS X22 hx hZ e22 V_r (n := (3 : Int32)) rfl (g := (mkF m 12 #[.val (.ref a), .val (.ref r), .val (.int (3 : Int32))] [(.ref r), (.int (3 : Int32))])) rfl rfl (hb hby d4_12)) ?_
        refine Goes.by (T' := T22) (g' := (mkF m 49 #[.val (.ref a), .val (.ref r), .val (.int (3 : Int32))] [])) (fun _ k => XS.icmpYes X22.here hx rfl (pc0 := 13) (pc' := 49) rfl (hb hby d4_13) rfl (by decide) (by decide) (by decide) k) ?_
        refine Goes.by (T' := T22) (g' := (mkF m 50 #[.val (.ref a), .val (.ref r), .val (.int (3 : Int32))] [(.ref r)])) (fun _ k => XS.aloadN X22.here hx rfl (hb hby d4_49) rfl rfl k) ?_
        exact outA X22 hx hlk hret rfl rfl rfl (hb hby d4_50) (by rw [e22]; exact ⟨r, rfl, sz_r, by rw [EI0, EI1, EI2]; exact V_r, K0, N0⟩) (by decide) (by decide)
  · obtain ⟨cv0, hv0, hn0⟩ := cmpD_le I0 DInt_zero (by omega) .l
    refine Goes.by (T' := T10) (g' := (mkF m 24 #[.val (.ref a), .val (.ref r), .val (.int (0 : Int32))] [(.int cv0)])) (fun _ k => XS.dcmpS X10.here hx rfl (hb hby d4_23) rfl hv0 k) ?_
    refine Goes.by (T' := T10) (g' := (mkF m 43 #[.val (.ref a), .val (.ref r), .val (.int (0 : Int32))] [])) (fun _ k => XS.ifYes X10.here hx rfl (pc0 := 24) (pc' := 43) rfl (hb hby d4_24) rfl ((if0 _ _).trans (flt hn0).2.2.2) (by decide) (by decide) k) ?_
    have EI0 : own_idf dn d0 j0 = 0 := own_idf_n hc0
    refine Goes.by (T' := T10) (g' := (mkF m 46 #[.val (.ref a), .val (.ref r), .val (.int (1 : Int32))] [])) (fun _ k => XS.iinc X10.here hx rfl (hb hby d4_43) rfl (l' := #[.val (.ref a), .val (.ref r), .val (.int (1 : Int32))]) rfl k) ?_
    refine Goes.by (T' := T10) (g' := (mkF m 10 #[.val (.ref a), .val (.ref r), .val (.int (1 : Int32))] [])) (fun _ k => XS.goto X10.here hx rfl (pc0 := 46) (pc' := 10) rfl (hb hby d4_46) (by decide) (by decide) k) ?_
    refine Goes.by (T' := T10) (g' := (mkF m 11 #[.val (.ref a), .val (.ref r), .val (.int (1 : Int32))] [(.int (1 : Int32))])) (fun _ k => XS.iloadN X10.here hx rfl (hb hby d4_10) rfl k) ?_
    refine Goes.by (T' := T10) (g' := (mkF m 12 #[.val (.ref a), .val (.ref r), .val (.int (1 : Int32))] [(.ref r), (.int (1 : Int32))])) (fun _ k => XS.aloadN X10.here hx rfl (hb hby d4_11) rfl rfl k) ?_
    refine Goes.by (T' := T10) (g' := (mkF m 13 #[.val (.ref a), .val (.ref r), .val (.int (1 : Int32))] [(.int (3 : Int32)), (.int (1 : Int32))])) (lenS X10 hx hZ e10 V_r (n := (3 : Int32)) rfl (g := (mkF m 12 #[.val (.ref a), .val (.ref r), .val (.int (1 : Int32))] [(.ref r), (.int (1 : Int32))])) rfl rfl (hb hby d4_12)) ?_
    refine Goes.by (T' := T10) (g' := (mkF m 16 #[.val (.ref a), .val (.ref r), .val (.int (1 : Int32))] [])) (fun _ k => XS.icmpNo X10.here hx rfl (hb hby d4_13) rfl (by decide) k) ?_
    refine Goes.by (T' := T10) (g' := (mkF m 17 #[.val (.ref a), .val (.ref r), .val (.int (1 : Int32))] [(.ref a)])) (fun _ k => XS.aloadN X10.here hx rfl (hb hby d4_16) rfl rfl k) ?_
    obtain ⟨T26, X26, e26, st26⟩ := getF X10 hx hZ hown (host := "") (Or.inl (hw _ (List.mem_of_getElem? (i := 17) rfl))) Via.refl e10 F2 (g := (mkF m 17 #[.val (.ref a), .val (.ref r), .val (.int (1 : Int32))] [(.ref a)])) rfl rfl (hb hby d4_17)
    refine Goes.by (T' := T26) (g' := (mkF m 20 #[.val (.ref a), .val (.ref r), .val (.int (1 : Int32))] [(.ref b)])) st26 ?_
    refine Goes.by (T' := T26) (g' := (mkF m 21 #[.val (.ref a), .val (.ref r), .val (.int (1 : Int32))] [(.int (1 : Int32)), (.ref b)])) (fun _ k => XS.iloadN X26.here hx rfl (hb hby d4_20) rfl k) ?_
    refine Goes.by (T' := T26) (g' := (mkF m 22 #[.val (.ref a), .val (.ref r), .val (.int (1 : Int32))] [(.double d1)])) (ldDS X26 hx hZ e26 VB (v := (.double d1)) (j := (1 : Int32)) 1 (by decide) rfl (g := (mkF m 21 #[.val (.ref a), .val (.ref r), .val (.int (1 : Int32))] [(.int (1 : Int32)), (.ref b)])) rfl rfl (hb hby d4_21)) ?_
    refine Goes.by (T' := T26) (g' := (mkF m 23 #[.val (.ref a), .val (.ref r), .val (.int (1 : Int32))] [(.double (0 : UInt64)), (.double d1)])) (fun _ k => XS.dconst0 X26.here hx rfl (hb hby d4_22) rfl k) ?_
    by_cases hc1 : 0 < j1
    · refine Goes.by (T' := T26) (g' := (mkF m 24 #[.val (.ref a), .val (.ref r), .val (.int (1 : Int32))] [(.int (1 : Int32))])) (fun _ k => XS.dcmpS X26.here hx rfl (hb hby d4_23) rfl (cmpD_gt I1 DInt_zero hc1 _) k) ?_
      refine Goes.by (T' := T26) (g' := (mkF m 27 #[.val (.ref a), .val (.ref r), .val (.int (1 : Int32))] [])) (fun _ k => XS.ifNo X26.here hx rfl (hb hby d4_24) rfl (by decide) k) ?_
      refine Goes.by (T' := T26) (g' := (mkF m 28 #[.val (.ref a), .val (.ref r), .val (.int (1 : Int32))] [(.ref r)])) (fun _ k => XS.aloadN X26.here hx rfl (hb hby d4_27) rfl rfl k) ?_
      refine Goes.by (T' := T26) (g' := (mkF m 29 #[.val (.ref a), .val (.ref r), .val (.int (1 : Int32))] [(.int (1 : Int32)), (.ref r)])) (fun _ k => XS.iloadN X26.here hx rfl (hb hby d4_28) rfl k) ?_
      refine Goes.by (T' := T26) (g' := (mkF m 30 #[.val (.ref a), .val (.ref r), .val (.int (1 : Int32))] [(.ref a), (.int (1 : Int32)), (.ref r)])) (fun _ k => XS.aloadN X26.here hx rfl (hb hby d4_29) rfl rfl k) ?_
      obtain ⟨T27, X27, e27, st27⟩ := getF X26 hx hZ hown (host := "") (Or.inl (hw _ (List.mem_of_getElem? (i := 15) rfl))) Via.refl e26 F1 (g := (mkF m 30 #[.val (.ref a), .val (.ref r), .val (.int (1 : Int32))] [(.ref a), (.int (1 : Int32)), (.ref r)])) rfl rfl (hb hby d4_30)
      refine Goes.by (T' := T27) (g' := (mkF m 33 #[.val (.ref a), .val (.ref r), .val (.int (1 : Int32))] [(.double dn), (.int (1 : Int32)), (.ref r)])) st27 ?_
      refine Goes.by (T' := T27) (g' := (mkF m 34 #[.val (.ref a), .val (.ref r), .val (.int (1 : Int32))] [(.double (4607182418800017408 : UInt64)), (.double dn), (.int (1 : Int32)), (.ref r)])) (fun _ k => XS.dconst1 X27.here hx rfl (hb hby d4_33) rfl k) ?_
      obtain ⟨sn1, q_sn1⟩ : ∃ zz, FP.dadd dn (4607182418800017408 : UInt64) = zz := ⟨_, rfl⟩
      have DS1 := DInt_add q_sn1 NN DInt_one (by omega)
      refine Goes.by (T' := T27) (g' := (mkF m 35 #[.val (.ref a), .val (.ref r), .val (.int (1 : Int32))] [(.double sn1), (.int (1 : Int32)), (.ref r)])) (fun _ k => XS.daddS X27.here hx rfl (hb hby d4_34) rfl (by rw [q_sn1]; exact DInt_nn DS1) q_sn1 k) ?_
      refine Goes.by (T' := T27) (g' := (mkF m 36 #[.val (.ref a), .val (.ref r), .val (.int (1 : Int32))] [(.ref a), (.double sn1), (.int (1 : Int32)), (.ref r)])) (fun _ k => XS.aloadN X27.here hx rfl (hb hby d4_35) rfl rfl k) ?_
      obtain ⟨T28, X28, e28, st28⟩ := getF X27 hx hZ hown (host := "") (Or.inl (hw _ (List.mem_of_getElem? (i := 17) rfl))) Via.refl e27 F2 (g := (mkF m 36 #[.val (.ref a), .val (.ref r), .val (.int (1 : Int32))] [(.ref a), (.double sn1), (.int (1 : Int32)), (.ref r)])) rfl rfl (hb hby d4_36)
      refine Goes.by (T' := T28) (g' := (mkF m 39 #[.val (.ref a), .val (.ref r), .val (.int (1 : Int32))] [(.ref b), (.double sn1), (.int (1 : Int32)), (.ref r)])) st28 ?_
      refine Goes.by (T' := T28) (g' := (mkF m 40 #[.val (.ref a), .val (.ref r), .val (.int (1 : Int32))] [(.int (1 : Int32)), (.ref b), (.double sn1), (.int (1 : Int32)), (.ref r)])) (fun _ k => XS.iloadN X28.here hx rfl (hb hby d4_39) rfl k) ?_
      refine Goes.by (T' := T28) (g' := (mkF m 41 #[.val (.ref a), .val (.ref r), .val (.int (1 : Int32))] [(.double d1), (.double sn1), (.int (1 : Int32)), (.ref r)])) (ldDS X28 hx hZ e28 VB (v := (.double d1)) (j := (1 : Int32)) 1 (by decide) rfl (g := (mkF m 40 #[.val (.ref a), .val (.ref r), .val (.int (1 : Int32))] [(.int (1 : Int32)), (.ref b), (.double sn1), (.int (1 : Int32)), (.ref r)])) rfl rfl (hb hby d4_40)) ?_
      obtain ⟨dq1, q_dq1⟩ : ∃ zz, FP.ddiv sn1 d1 = zz := ⟨_, rfl⟩
      refine Goes.by (T' := T28) (g' := (mkF m 42 #[.val (.ref a), .val (.ref r), .val (.int (1 : Int32))] [(.double dq1), (.int (1 : Int32)), (.ref r)])) (fun _ k => XS.ddivS X28.here hx rfl (hb hby d4_41) rfl (by rw [q_dq1]; exact (q_dq1 ▸ ddiv_out (DInt_nn DS1) (DInt_fin I1) (DInt_nz I1 (by omega)))) q_dq1 k) ?_
      have EI1 : own_idf dn d1 j1 = dq1 := by rw [own_idf_p hc1, q_sn1, q_dq1]
      obtain ⟨T29, h29, X29, e29, W29, V29, st29⟩ := stDS X28 hx hZ e28 V_r (j := (1 : Int32)) 1 (by decide) (by show 1 < 3; decide) (g := (mkF m 42 #[.val (.ref a), .val (.ref r), .val (.int (1 : Int32))] [(.double dq1), (.int (1 : Int32)), (.ref r)])) rfl rfl (hb hby d4_42)
      have N0 := Fr.snoc X29 N0 ge_r
      have F1 := F1.other W29 (Or.inl ne_a_r)
      have F2 := F2.other W29 (Or.inl ne_a_r)
      have VB := VB.other W29 ne_b_r
      have Z0 := Nat.le_trans Z0 (Nat.le_of_eq W29.size.symm)
      have K0 := K0.wr W29 (Or.inr sz_r)
      have V_r : Sar Z h29 r .double [(.double (0 : UInt64)), (.double dq1), (.double (0 : UInt64))] := V29
      refine Goes.by (T' := T29) (g' := (mkF m 43 #[.val (.ref a), .val (.ref r), .val (.int (1 : Int32))] [])) st29 ?_
      refine Goes.by (T' := T29) (g' := (mkF m 46 #[.val (.ref a), .val (.ref r), .val (.int (2 : Int32))] [])) (fun _ k => XS.iinc X29.here hx rfl (hb hby d4_43) rfl (l' := #[.val (.ref a), .val (.ref r), .val (.int (2 : Int32))]) rfl k) ?_
      refine Goes.by (T' := T29) (g' := (mkF m 10 #[.val (.ref a), .val (.ref r), .val (.int (2 : Int32))] [])) (fun _ k => XS.goto X29.here hx rfl (pc0 := 46) (pc' := 10) rfl (hb hby d4_46) (by decide) (by decide) k) ?_
      refine Goes.by (T' := T29) (g' := (mkF m 11 #[.val (.ref a), .val (.ref r), .val (.int (2 : Int32))] [(.int (2 : Int32))])) (fun _ k => XS.iloadN X29.here hx rfl (hb hby d4_10) rfl k) ?_
      refine Goes.by (T' := T29) (g' := (mkF m 12 #[.val (.ref a), .val (.ref r), .val (.int (2 : Int32))] [(.ref r), (.int (2 : Int32))])) (fun _ k => XS.aloadN X29.here hx rfl (hb hby d4_11) rfl rfl k) ?_
      refine Goes.by (T' := T29) (g' := (mkF m 13 #[.val (.ref a), .val (.ref r), .val (.int (2 : Int32))] [(.int (3 : Int32)), (.int (2 : Int32))])) (lenS X29 hx hZ e29 V_r (n := (3 : Int32)) rfl (g := (mkF m 12 #[.val (.ref a), .val (.ref r), .val (.int (2 : Int32))] [(.ref r), (.int (2 : Int32))])) rfl rfl (hb hby d4_12)) ?_
      refine Goes.by (T' := T29) (g' := (mkF m 16 #[.val (.ref a), .val (.ref r), .val (.int (2 : Int32))] [])) (fun _ k => XS.icmpNo X29.here hx rfl (hb hby d4_13) rfl (by decide) k) ?_
      refine Goes.by (T' := T29) (g' := (mkF m 17 #[.val (.ref a), .val (.ref r), .val (.int (2 : Int32))] [(.ref a)])) (fun _ k => XS.aloadN X29.here hx rfl (hb hby d4_16) rfl rfl k) ?_
      obtain ⟨T30, X30, e30, st30⟩ := getF X29 hx hZ hown (host := "") (Or.inl (hw _ (List.mem_of_getElem? (i := 17) rfl))) Via.refl e29 F2 (g := (mkF m 17 #[.val (.ref a), .val (.ref r), .val (.int (2 : Int32))] [(.ref a)])) rfl rfl (hb hby d4_17)
      refine Goes.by (T' := T30) (g' := (mkF m 20 #[.val (.ref a), .val (.ref r), .val (.int (2 : Int32))] [(.ref b)])) st30 ?_
      refine Goes.by (T' := T30) (g' := (mkF m 21 #[.val (.ref a), .val (.ref r), .val (.int (2 : Int32))] [(.int (2 : Int32)), (.ref b)])) (fun _ k => XS.iloadN X30.here hx rfl (hb hby d4_20) rfl k) ?_
      refine Goes.by (T' := T30) (g' := (mkF m 22 #[.val (.ref a), .val (.ref r), .val (.int (2 : Int32))] [(.double d2)])) (ldDS X30 hx hZ e30 VB (v := (.double d2)) (j := (2 : Int32)) 2 (by decide) rfl (g := (mkF m 21 #[.val (.ref a), .val (.ref r), .val (.int (2 : Int32))] [(.int (2 : Int32)), (.ref b)])) rfl rfl (hb hby d4_21)) ?_
      refine Goes.by (T' := T30) (g' := (mkF m 23 #[.val (.ref a), .val (.ref r), .val (.int (2 : Int32))] [(.double (0 : UInt64)), (.double d2)])) (fun _ k => XS.dconst0 X30.here hx rfl (hb hby d4_22) rfl k) ?_
      by_cases hc2 : 0 < j2
      · refine Goes.by (T' := T30) (g' := (mkF m 24 #[.val (.ref a), .val (.ref r), .val (.int (2 : Int32))] [(.int (1 : Int32))])) (fun _ k => XS.dcmpS X30.here hx rfl (hb hby d4_23) rfl (cmpD_gt I2 DInt_zero hc2 _) k) ?_
        refine Goes.by (T' := T30) (g' := (mkF m 27 #[.val (.ref a), .val (.ref r), .val (.int (2 : Int32))] [])) (fun _ k => XS.ifNo X30.here hx rfl (hb hby d4_24) rfl (by decide) k) ?_
        refine Goes.by (T' := T30) (g' := (mkF m 28 #[.val (.ref a), .val (.ref r), .val (.int (2 : Int32))] [(.ref r)])) (fun _ k => XS.aloadN X30.here hx rfl (hb hby d4_27) rfl rfl k) ?_
        refine Goes.by (T' := T30) (g' := (mkF m 29 #[.val (.ref a), .val (.ref r), .val (.int (2 : Int32))] [(.int (2 : Int32)), (.ref r)])) (fun _ k => XS.iloadN X30.here hx rfl (hb hby d4_28) rfl k) ?_
        refine Goes.by (T' := T30) (g' := (mkF m 30 #[.val (.ref a), .val (.ref r), .val (.int (2 : Int32))] [(.ref a), (.int (2 : Int32)), (.ref r)])) (fun _ k => XS.aloadN X30.here hx rfl (hb hby d4_29) rfl rfl k) ?_
        obtain ⟨T31, X31, e31, st31⟩ := getF X30 hx hZ hown (host := "") (Or.inl (hw _ (List.mem_of_getElem? (i := 15) rfl))) Via.refl e30 F1 (g := (mkF m 30 #[.val (.ref a), .val (.ref r), .val (.int (2 : Int32))] [(.ref a), (.int (2 : Int32)), (.ref r)])) rfl rfl (hb hby d4_30)
        refine Goes.by (T' := T31) (g' := (mkF m 33 #[.val (.ref a), .val (.ref r), .val (.int (2 : Int32))] [(.double dn), (.int (2 : Int32)), (.ref r)])) st31 ?_
        refine Goes.by (T' := T31) (g' := (mkF m 34 #[.val (.ref a), .val (.ref r), .val (.int (2 : Int32))] [(.double (4607182418800017408 : UInt64)), (.double dn), (.int (2 : Int32)), (.ref r)])) (fun _ k => XS.dconst1 X31.here hx rfl (hb hby d4_33) rfl k) ?_
        obtain ⟨sn2, q_sn2⟩ : ∃ zz, FP.dadd dn (4607182418800017408 : UInt64) = zz := ⟨_, rfl⟩
        have DS2 := DInt_add q_sn2 NN DInt_one (by omega)
        refine Goes.by (T' := T31) (g' := (mkF m 35 #[.val (.ref a), .val (.ref r), .val (.int (2 : Int32))] [(.double sn2), (.int (2 : Int32)), (.ref r)])) (fun _ k => XS.daddS X31.here hx rfl (hb hby d4_34) rfl (by rw [q_sn2]; exact DInt_nn DS2) q_sn2 k) ?_
        refine Goes.by (T' := T31) (g' := (mkF m 36 #[.val (.ref a), .val (.ref r), .val (.int (2 : Int32))] [(.ref a), (.double sn2), (.int (2 : Int32)), (.ref r)])) (fun _ k => XS.aloadN X31.here hx rfl (hb hby d4_35) rfl rfl k) ?_
        obtain ⟨T32, X32, e32, st32⟩ := getF X31 hx hZ hown (host := "") (Or.inl (hw _ (List.mem_of_getElem? (i := 17) rfl))) Via.refl e31 F2 (g := (mkF m 36 #[.val (.ref a), .val (.ref r), .val (.int (2 : Int32))] [(.ref a), (.double sn2), (.int (2 : Int32)), (.ref r)])) rfl rfl (hb hby d4_36)
        refine Goes.by (T' := T32) (g' := (mkF m 39 #[.val (.ref a), .val (.ref r), .val (.int (2 : Int32))] [(.ref b), (.double sn2), (.int (2 : Int32)), (.ref r)])) st32 ?_
        refine Goes.by (T' := T32) (g' := (mkF m 40 #[.val (.ref a), .val (.ref r), .val (.int (2 : Int32))] [(.int (2 : Int32)), (.ref b), (.double sn2), (.int (2 : Int32)), (.ref r)])) (fun _ k => XS.iloadN X32.here hx rfl (hb hby d4_39) rfl k) ?_
        refine Goes.by (T' := T32) (g' := (mkF m 41 #[.val (.ref a), .val (.ref r), .val (.int (2 : Int32))] [(.double d2), (.double sn2), (.int (2 : Int32)), (.ref r)])) (ldDS X32 hx hZ e32 VB (v := (.double d2)) (j := (2 : Int32)) 2 (by decide) rfl (g := (mkF m 40 #[.val (.ref a), .val (.ref r), .val (.int (2 : Int32))] [(.int (2 : Int32)), (.ref b), (.double sn2), (.int (2 : Int32)), (.ref r)])) rfl rfl (hb hby d4_40)) ?_
        obtain ⟨dq2, q_dq2⟩ : ∃ zz, FP.ddiv sn2 d2 = zz := ⟨_, rfl⟩
        refine Goes.by (T' := T32) (g' := (mkF m 42 #[.val (.ref a), .val (.ref r), .val (.int (2 : Int32))] [(.double dq2), (.int (2 : Int32)), (.ref r)])) (fun _ k => XS.ddivS X32.here hx rfl (hb hby d4_41) rfl (by rw [q_dq2]; exact (q_dq2 ▸ ddiv_out (DInt_nn DS2) (DInt_fin I2) (DInt_nz I2 (by omega)))) q_dq2 k) ?_
        have EI2 : own_idf dn d2 j2 = dq2 := by rw [own_idf_p hc2, q_sn2, q_dq2]
        obtain ⟨T33, h33, X33, e33, W33, V33, st33⟩ := stDS X32 hx hZ e32 V_r (j := (2 : Int32)) 2 (by decide) (by show 2 < 3; decide) (g := (mkF m 42 #[.val (.ref a), .val (.ref r), .val (.int (2 : Int32))] [(.double dq2), (.int (2 : Int32)), (.ref r)])) rfl rfl (hb hby d4_42)
        have N0 := Fr.snoc X33 N0 ge_r
        have F1 := F1.other W33 (Or.inl ne_a_r)
        have F2 := F2.other W33 (Or.inl ne_a_r)
        have VB := VB.other W33 ne_b_r
        have Z0 := Nat.le_trans Z0 (Nat.le_of_eq W33.size.symm)
        have K0 := K0.wr W33 (Or.inr sz_r)
        have V_r : Sar Z h33 r .double [(.double (0 : UInt64)), (.double dq1), (.double dq2)] := V33
        refine Goes.by (T' := T33) (g' := (mkF m 43 #[.val (.ref a), .val (.ref r), .val (.int (2 : Int32))] [])) st33 ?_
        refine Goes.by (T' := T33) (g' := (mkF m 46 #[.val (.ref a), .val (.ref r), .val (.int (3 : Int32))] [])) (fun _ k => XS.iinc X33.here hx rfl (hb hby d4_43) rfl (l' := #[.val (.ref a), .val (.ref r), .val (.int (3 : Int32))]) rfl k) ?_
        refine Goes.by (T' := T33) (g' := (mkF m 10 #[.val (.ref a), .val (.ref r), .val (.int (3 : Int32))] [])) (fun _ k => XS.goto X33.here hx rfl (pc0 := 46) (pc' := 10) rfl (hb hby d4_46) (by decide) (by decide) k) ?_
        refine Goes.by (T' := T33) (g' := (mkF m 11 #[.val (.ref a), .val (.ref r), .val (.int (3 : Int32))] [(.int (3 : Int32))])) (fun _ k => XS.iloadN X33.here hx rfl (hb hby d4_10) rfl k) ?_
        refine Goes.by (T' := T33) (g' := (mkF m 12 #[.val (.ref a), .val (.ref r), .val (.int (3 : Int32))] [(.ref r), (.int (3 : Int32))])) (fun _ k => XS.aloadN X33.here hx rfl (hb hby d4_11) rfl rfl k) ?_
        refine Goes.by (T' := T33) (g' := (mkF m 13 #[.val (.ref a), .val (.ref r), .val (.int (3 : Int32))] [(.int (3 : Int32)), (.int (3 : Int32))])) (lenS X33 hx hZ e33 V_r (n := (3 : Int32)) rfl (g := (mkF m 12 #[.val (.ref a), .val (.ref r), .val (.int (3 : Int32))] [(.ref r), (.int (3 : Int32))])) rfl rfl (hb hby d4_12)) ?_
        refine Goes.by (T' := T33) (g' := (mkF m 49 #[.val (.ref a), .val (.ref r), .val (.int (3 : Int32))] [])) (fun _ k => XS.icmpYes X33.here hx rfl (pc0 := 13) (pc' := 49) rfl (hb hby d4_13) rfl (by decide) (by decide) (by decide) k) ?_
        refine Goes.by (T' := T33) (g' := (mkF m 50 #[.val (.ref a), .val (.ref r), .val (.int (3 : Int32))] [(.ref r)])) (fun _ k => XS.aloadN X33.here hx rfl (hb hby d4_49) rfl rfl k) ?_
        exact outA X33 hx hlk hret rfl rfl rfl (hb hby d4_50) (by rw [e33]; exact ⟨r, rfl, sz_r, by rw [EI0, EI1, EI2]; exact V_r, K0, N0⟩) (by decide) (by decide)
      · obtain ⟨cv2, hv2, hn2⟩ := cmpD_le I2 DInt_zero (by omega) .l
        refine Goes.by (T' := T30) (g' := (mkF m 24 #[.val (.ref a), .val (.ref r), .val (.int (2 : Int32))] [(.int cv2)])) (fun _ k => XS.dcmpS X30.here hx rfl (hb hby d4_23) rfl hv2 k) ?_
        refine Goes.by (T' := T30) (g' := (mkF m 43 #[.val (.ref a), .val (.ref r), .val (.int (2 : Int32))] [])) (fun _ k => XS.ifYes X30.here hx rfl (pc0 := 24) (pc' := 43) rfl (hb hby d4_24) rfl ((if0 _ _).trans (flt hn2).2.2.2) (by decide) (by decide) k) ?_
        have EI2 : own_idf dn d2 j2 = 0 := own_idf_n hc2
        refine Goes.by (T' := T30) (g' := (mkF m 46 #[.val (.ref a), .val (.ref r), .val (.int (3 : Int32))] [])) (fun _ k => XS.iinc X30.here hx rfl (hb hby d4_43) rfl (l' := #[.val (.ref a), .val (.ref r), .val (.int (3 : Int32))]) rfl k) ?_
        refine Goes.by (T' := T30) (g' := (mkF m 10 #[.val (.ref a), .val (.ref r), .val (.int (3 : Int32))] [])) (fun _ k => XS.goto X30.here hx rfl (pc0 := 46) (pc' := 10) rfl (hb hby d4_46) (by decide) (by decide) k) ?_
        refine Goes.by (T' := T30) (g' := (mkF m 11 #[.val (.ref a), .val (.ref r), .val (.int (3 : Int32))] [(.int (3 : Int32))])) (fun _ k => XS.iloadN X30.here hx rfl (hb hby d4_10) rfl k) ?_
        refine Goes.by (T' := T30) (g' := (mkF m 12 #[.val (.ref a), .val (.ref r), .val (.int (3 : Int32))] [(.ref r), (.int (3 : Int32))])) (fun _ k => XS.aloadN X30.here hx rfl (hb hby d4_11) rfl rfl k) ?_
        refine Goes.by (T' := T30) (g' := (mkF m 13 #[.val (.ref a), .val (.ref r), .val (.int (3 : Int32))] [(.int (3 : Int32)), (.int (3 : Int32))])) (lenS X30 hx hZ e30 V_r (n := (3 : Int32)) rfl (g := (mkF m 12 #[.val (.ref a), .val (.ref r), .val (.int (3 : Int32))] [(.ref r), (.int (3 : Int32))])) rfl rfl (hb hby d4_12)) ?_
        refine Goes.by (T' := T30) (g' := (mkF m 49 #[.val (.ref a), .val (.ref r), .val (.int (3 : Int32))] [])) (fun _ k => XS.icmpYes X30.here hx rfl (pc0 := 13) (pc' := 49) rfl (hb hby d4_13) rfl (by decide) (by decide) (by decide) k) ?_
        refine Goes.by (T' := T30) (g' := (mkF m 50 #[.val (.ref a), .val (.ref r), .val (.int (3 : Int32))] [(.ref r)])) (fun _ k => XS.aloadN X30.here hx rfl (hb hby d4_49) rfl rfl k) ?_
        exact outA X30 hx hlk hret rfl rfl rfl (hb hby d4_50) (by rw [e30]; exact ⟨r, rfl, sz_r, by rw [EI0, EI1, EI2]; exact V_r, K0, N0⟩) (by decide) (by decide)
    · obtain ⟨cv1, hv1, hn1⟩ := cmpD_le I1 DInt_zero (by omega) .l
      refine Goes.by (T' := T26) (g' := (mkF m 24 #[.val (.ref a), .val (.ref r), .val (.int (1 : Int32))] [(.int cv1)])) (fun _ k => XS.dcmpS X26.here hx rfl (hb hby d4_23) rfl hv1 k) ?_
      refine Goes.by (T' := T26) (g' := (mkF m 43 #[.val (.ref a), .val (.ref r), .val (.int (1 : Int32))] [])) (fun _ k => XS.ifYes X26.here hx rfl (pc0 := 24) (pc' := 43) rfl (hb hby d4_24) rfl ((if0 _ _).trans (flt hn1).2.2.2) (by decide) (by decide) k) ?_
      have EI1 : own_idf dn d1 j1 = 0 := own_idf_n hc1
      refine Goes.by (T' := T26) (g' := (mkF m 46 #[.val (.ref a), .val (.ref r), .val (.int (2 : Int32))] [])) (fun _ k => XS.iinc X26.here hx rfl (hb hby d4_43) rfl (l' := #[.val (.ref a), .val (.ref r), .val (.int (2 : Int32))]) rfl k) ?_
      refine Goes.by (T' := T26) (g' := (mkF m 10 #[.val (.ref a), .val (.ref r), .val (.int (2 : Int32))] [])) (fun _ k => XS.goto X26.here hx rfl (pc0 := 46) (pc' := 10) rfl (hb hby d4_46) (by decide) (by decide) k) ?_
      refine Goes.by (T' := T26) (g' := (mkF m 11 #[.val (.ref a), .val (.ref r), .val (.int (2 : Int32))] [(.int (2 : Int32))])) (fun _ k => XS.iloadN X26.here hx rfl (hb hby d4_10) rfl k) ?_
      refine Goes.by (T' := T26) (g' := (mkF m 12 #[.val (.ref a), .val (.ref r), .val (.int (2 : Int32))] [(.ref r), (.int (2 : Int32))])) (fun _ k => XS.aloadN X26.here hx rfl (hb hby d4_11) rfl rfl k) ?_
      refine Goes.by (T' := T26) (g' := (mkF m 13 #[.val (.ref a), .val (.ref r), .val (.int (2 : Int32))] [(.int (3 : Int32)), (.int (2 : Int32))])) (lenS X26 hx hZ e26 V_r (n := (3 : Int32)) rfl (g := (mkF m 12 #[.val (.ref a), .val (.ref r), .val (.int (2 : Int32))] [(.ref r), (.int (2 : Int32))])) rfl rfl (hb hby d4_12)) ?_
      refine Goes.by (T' := T26) (g' := (mkF m 16 #[.val (.ref a), .val (.ref r), .val (.int (2 : Int32))] [])) (fun _ k => XS.icmpNo X26.here hx rfl (hb hby d4_13) rfl (by decide) k) ?_
      refine Goes.by (T' := T26) (g' := (mkF m 17 #[.val (.ref a), .val (.ref r), .val (.int (2 : Int32))] [(.ref a)])) (fun _ k => XS.aloadN X26.here hx rfl (hb hby d4_16) rfl rfl k) ?_
      obtain ⟨T34, X34, e34, st34⟩ := getF X26 hx hZ hown (host := "") (Or.inl (hw _ (List.mem_of_getElem? (i := 17) rfl))) Via.refl e26 F2 (g := (mkF m 17 #[.val (.ref a), .val (.ref r), .val (.int (2 : Int32))] [(.ref a)])) rfl rfl (hb hby d4_17)
      refine Goes.by (T' := T34) (g' := (mkF m 20 #[.val (.ref a), .val (.ref r), .val (.int (2 : Int32))] [(.ref b)])) st34 ?_
      refine Goes.by (T' := T34) (g' := (mkF m 21 #[.val (.ref a), .val (.ref r), .val (.int (2 : Int32))] [(.int (2 : Int32)), (.ref b)])) (fun _ k => XS.iloadN X34.here hx rfl (hb hby d4_20) rfl k) ?_
      refine Goes.by (T' := T34) (g' := (mkF m 22 #[.val (.ref a), .val (.ref r), .val (.int (2 : Int32))] [(.double d2)])) (ldDS X34 hx hZ e34 VB (v := (.double d2)) (j := (2 : Int32)) 2 (by decide) rfl (g := (mkF m 21 #[.val (.ref a), .val (.ref r), .val (.int (2 : Int32))] [(.int (2 : Int32)), (.ref b)])) rfl rfl (hb hby d4_21)) ?_
      refine Goes.by (T' := T34) (g' := (mkF m 23 #[.val (.ref a), .val (.ref r), .val (.int (2 : Int32))] [(.double (0 : UInt64)), (.double d2)])) (fun _ k => XS.dconst0 X34.here hx rfl (hb hby d4_22) rfl k) ?_
      by_cases hc2 : 0 < j2
      · refine Goes.by (T' := T34) (g' := (mkF m 24 #[.val (.ref a), .val (.ref r), .val (.int (2 : Int32))] [(.int (1 : Int32))])) (fun _ k => XS.dcmpS X34.here hx rfl (hb hby d4_23) rfl (cmpD_gt I2 DInt_zero hc2 _) k) ?_
        refine Goes.by (T' := T34) (g' := (mkF m 27 #[.val (.ref a), .val (.ref r), .val (.int (2 : Int32))] [])) (fun _ k => XS.ifNo X34.here hx rfl (hb hby d4_24) rfl (by decide) k) ?_
        refine Goes.by (T' := T34) (g' := (mkF m 28 #[.val (.ref a), .val (.ref r), .val (.int (2 : Int32))] [(.ref r)])) (fun _ k => XS.aloadN X34.here hx rfl (hb hby d4_27) rfl rfl k) ?_
        refine Goes.by (T' := T34) (g' := (mkF m 29 #[.val (.ref a), .val (.ref r), .val (.int (2 : Int32))] [(.int (2 : Int32)), (.ref r)])) (fun _ k => XS.iloadN X34.here hx rfl (hb hby d4_28) rfl k) ?_
        refine Goes.by (T' := T34) (g' := (mkF m 30 #[.val (.ref a), .val (.ref r), .val (.int (2 : Int32))] [(.ref a), (.int (2 : Int32)), (.ref r)])) (fun _ k => XS.aloadN X34.here hx rfl (hb hby d4_29) rfl rfl k) ?_
        obtain ⟨T35, X35, e35, st35⟩ := getF X34 hx hZ hown (host := "") (Or.inl (hw _ (List.mem_of_getElem? (i := 15) rfl))) Via.refl e34 F1 (g := (mkF m 30 #[.val (.ref a), .val (.ref r), .val (.int (2 : Int32))] [(.ref a), (.int (2 : Int32)), (.ref r)])) rfl rfl (hb hby d4_30)
        refine Goes.by (T' := T35) (g' := (mkF m 33 #[.val (.ref a), .val (.ref r), .val (.int (2 : Int32))] [(.double dn), (.int (2 : Int32)), (.ref r)])) st35 ?_
        refine Goes.by (T' := T35) (g' := (mkF m 34 #[.val (.ref a), .val (.ref r), .val (.int (2 : Int32))] [(.double (4607182418800017408 : UInt64)), (.double dn), (.int (2 : Int32)), (.ref r)])) (fun _ k => XS.dconst1 X35.here hx rfl (hb hby d4_33) rfl k) ?_
        obtain ⟨sn2, q_sn2⟩ : ∃ zz, FP.dadd dn (4607182418800017408 : UInt64) = zz := ⟨_, rfl⟩
        have DS2 := DInt_add q_sn2 NN DInt_one (by omega)
        refine Goes.by (T' := T35) (g' := (mkF m 35 #[.val (.ref a), .val (.ref r), .val (.int (2 : Int32))] [(.double sn2), (.int (2 : Int32)), (.ref r)])) (fun _ k => XS.daddS X35.here hx rfl (hb hby d4_34) rfl (by rw [q_sn2]; exact DInt_nn DS2) q_sn2 k) ?_
        refine Goes.by (T' := T35) (g' := (mkF m 36 #[.val (.ref a), .val (.ref r), .val (.int (2 : Int32))] [(.ref a), (.double sn2), (.int (2 : Int32)), (.ref r)])) (fun _ k => XS.aloadN X35.here hx rfl (hb hby d4_35) rfl rfl k) ?_
        obtain ⟨T36, X36, e36, st36⟩ := getF X35 hx hZ hown (host := "") (Or.inl (hw _ (List.mem_of_getElem? (i := 17) rfl))) Via.refl e35 F2 (g := (mkF m 36 #[.val (.ref a), .val (.ref r), .val (.int (2 : Int32))] [(.ref a), (.double sn2), (.int (2 : Int32)), (.ref r)])) rfl rfl (hb hby d4_36)
        refine Goes.by (T' := T36) (g' := (mkF m 39 #[.val (.ref a), .val (.ref r), .val (.int (2 : Int32))] [(.ref b), (.double sn2), (.int (2 : Int32)), (.ref r)])) st36 ?_
        refine Goes.by (T' := T36) (g' := (mkF m 40 #[.val (.ref a), .val (.ref r), .val (.int (2 : Int32))] [(.int (2 : Int32)), (.ref b), (.double sn2), (.int (2 : Int32)), (.ref r)])) (fun _ k => XS.iloadN X36.here hx rfl (hb hby d4_39) rfl k) ?_
        refine Goes.by (T' := T36) (g' := (mkF m 41 #[.val (.ref a), .val (.ref r), .val (.int (2 : Int32))] [(.double d2), (.double sn2), (.int (2 : Int32)), (.ref r)])) (ldDS X36 hx hZ e36 VB (v := (.double d2)) (j := (2 : Int32)) 2 (by decide) rfl (g := (mkF m 40 #[.val (.ref a), .val (.ref r), .val (.int (2 : Int32))] [(.int (2 : Int32)), (.ref b), (.double sn2), (.int (2 : Int32)), (.ref r)])) rfl rfl (hb hby d4_40)) ?_
        obtain ⟨dq2, q_dq2⟩ : ∃ zz, FP.ddiv sn2 d2 = zz := ⟨_, rfl⟩
        refine Goes.by (T' := T36) (g' := (mkF m 42 #[.val (.ref a), .val (.ref r), .val (.int (2 : Int32))] [(.double dq2), (.int (2 : Int32)), (.ref r)])) (fun _ k => XS.ddivS X36.here hx rfl (hb hby d4_41) rfl (by rw [q_dq2]; exact (q_dq2 ▸ ddiv_out (DInt_nn DS2) (DInt_fin I2) (DInt_nz I2 (by omega)))) q_dq2 k) ?_
        have EI2 : own_idf dn d2 j2 = dq2 := by rw [own_idf_p hc2, q_sn2, q_dq2]
        obtain ⟨T37, h37, X37, e37, W37, V37, st37⟩ := stDS X36 hx hZ e36 V_r (j := (2 : Int32)) 2 (by decide) (by show 2 < 3; decide) (g := (mkF m 42 #[.val (.ref a), .val (.ref r), .val (.int (2 : Int32))] [(.double dq2), (.int (2 : Int32)), (.ref r)])) rfl rfl (hb hby d4_42)
        have N0 := Fr.snoc X37 N0 ge_r
        have F1 := F1.other W37 (Or.inl ne_a_r)
        have F2 := F2.other W37 (Or.inl ne_a_r)
        have VB := VB.other W37 ne_b_r
        have Z0 := Nat.le_trans Z0 (Nat.le_of_eq W37.size.symm)
        have K0 := K0.wr W37 (Or.inr sz_r)
        have V_r : Sar Z h37 r .double [(.double (0 : UInt64)), (.double (0 : UInt64)), (.double dq2)] := V37
        refine Goes.by (T' := T37) (g' := (mkF m 43 #[.val (.ref a), .val (.ref r), .val (.int (2 : Int32))] [])) st37 ?_
        refine Goes.by (T' := T37) (g' := (mkF m 46 #[.val (.ref a), .val (.ref r), .val (.int (3 : Int32))] [])) (fun _ k => XS.iinc X37.here hx rfl (hb hby d4_43) rfl (l' := #[.val (.ref a), .val (.ref r), .val (.int (3 : Int32))]) rfl k) ?_
        refine Goes.by (T' := T37) (g' := (mkF m 10 #[.val (.ref a), .val (.ref r), .val (.int (3 : Int32))] [])) (fun _ k => XS.goto X37.here hx rfl (pc0 := 46) (pc' := 10) rfl (hb hby d4_46) (by decide) (by decide) k) ?_
        refine Goes.by (T' := T37) (g' := (mkF m 11 #[.val (.ref a), .val (.ref r), .val (.int (3 : Int32))] [(.int (3 : Int32))])) (fun _ k => XS.iloadN X37.here hx rfl (hb hby d4_10) rfl k) ?_
        refine Goes.by (T' := T37) (g' := (mkF m 12 #[.val (.ref a), .val (.ref r), .val (.int (3 : Int32))] [(.ref r), (.int (3 : Int32))])) (fun _ k => XS.aloadN X37.here hx rfl (hb hby d4_11) rfl rfl k) ?_
        refine Goes.by (T' := T37) (g' := (mkF m 13 #[.val (.ref a), .val (.ref r), .val (.int (3 : Int32))] [(.int (3 : Int32)), (.int (3 : Int32))])) (lenS X37 hx hZ e37 V_r (n := (3 : Int32)) rfl (g := (mkF m 12 #[.val (.ref a), .val (.ref r), .val (.int (3 : Int32))] [(.ref r), (.int (3 : Int32))])) rfl rfl (hb hby d4_12)) ?_
        refine Goes.by (T' := T37) (g' := (mkF m 49 #[.val (.ref a), .val (.ref r), .val (.int (3 : Int32))] [])) (fun _ k => XS.icmpYes X37.here hx rfl (pc0 := 13) (pc' := 49) rfl (hb hby d4_13) rfl (by decide) (by decide) (by decide) k) ?_
        refine Goes.by (T' := T37) (g' := (mkF m 50 #[.val (.ref a), .val (.ref r), .val (.int (3 : Int32))] [(.ref r)])) (fun _ k => XS.aloadN X37.here hx rfl (hb hby d4_49) rfl rfl k) ?_
        exact outA X37 hx hlk hret rfl rfl rfl (hb hby d4_50) (by rw [e37]; exact ⟨r, rfl, sz_r, by rw [EI0, EI1, EI2]; exact V_r, K0, N0⟩) (by decide) (by decide)
      · obtain ⟨cv2, hv2, hn2⟩ := cmpD_le I2 DInt_zero (by omega) .l
        refine Goes.by (T' := T34) (g' := (mkF m 24 #[.val (.ref a), .val (.ref r), .val (.int (2 : Int32))] [(.int cv2)])) (fun _ k => XS.dcmpS X34.here hx rfl (hb hby d4_23) rfl hv2 k) ?_
        refine Goes.by (T' := T34) (g' := (mkF m 43 #[.val (.ref a), .val (.ref r), .val (.int (2 : Int32))] [])) (fun _ k => XS.ifYes X34.here hx rfl (pc0 := 24) (pc' := 43) rfl (hb hby d4_24) rfl ((if0 _ _).trans (flt hn2).2.2.2) (by decide) (by decide) k) ?_
        have EI2 : own_idf dn d2 j2 = 0 := own_idf_n hc2
        refine Goes.by (T' := T34) (g' := (mkF m 46 #[.val (.ref a), .val (.ref r), .val (.int (3 : Int32))] [])) (fun _ k => XS.iinc X34.here hx rfl (hb hby d4_43) rfl (l' := #[.val (.ref a), .val (.ref r), .val (.int (3 : Int32))]) rfl k) ?_
        refine Goes.by (T' := T34) (g' := (mkF m 10 #[.val (.ref a), .val (.ref r), .val (.int (3 : Int32))] [])) (fun _ k => XS.goto X34.here hx rfl (pc0 := 46) (pc' := 10) rfl (hb hby d4_46) (by decide) (by decide) k) ?_
        refine Goes.by (T' := T34) (g' := (mkF m 11 #[.val (.ref a), .val (.ref r), .val (.int (3 : Int32))] [(.int (3 : Int32))])) (fun _ k => XS.iloadN X34.here hx rfl (hb hby d4_10) rfl k) ?_
        refine Goes.by (T' := T34) (g' := (mkF m 12 #[.val (.ref a), .val (.ref r), .val (.int (3 : Int32))] [(.ref r), (.int (3 : Int32))])) (fun _ k => XS.aloadN X34.here hx rfl (hb hby d4_11) rfl rfl k) ?_
        refine Goes.by (T' := T34) (g' := (mkF m 13 #[.val (.ref a), .val (.ref r), .val (.int (3 : Int32))] [(.int (3 : Int32)), (.int (3 : Int32))])) (lenS X34 hx hZ e34 V_r (n := (3 : Int32)) rfl (g := (mkF m 12 #[.val (.ref a), .val (.ref r), .val (.int (3 : Int32))] [(.ref r), (.int (3 : Int32))])) rfl rfl (hb hby d4_12)) ?_
        refine Goes.by (T' := T34) (g' := (mkF m 49 #[.val (.ref a), .val (.ref r), .val (.int (3 : Int32))] [])) (fun _ k => XS.icmpYes X34.here hx rfl (pc0 := 13) (pc' := 49) rfl (hb hby d4_13) rfl (by decide) (by decide) (by decide) k) ?_
        refine Goes.by (T' := T34) (g' := (mkF m 50 #[.val (.ref a), .val (.ref r), .val (.int (3 : Int32))] [(.ref r)])) (fun _ k => XS.aloadN X34.here hx rfl (hb hby d4_49) rfl rfl k) ?_
        exact outA X34 hx hlk hret rfl rfl rfl (hb hby d4_50) (by rw [e34]; exact ⟨r, rfl, sz_r, by rw [EI0, EI1, EI2]; exact V_r, K0, N0⟩) (by decide) (by decide)
theorem d5_0 : decode method_3_code 0 = .ok (.dload_n 2, 1) := by decide +kernel
theorem d5_1 : decode method_3_code 1 = .ok (.dconst 0, 1) := by decide +kernel
theorem d5_2 : decode method_3_code 2 = .ok (.dcmp .l, 1) := by decide +kernel
theorem d5_3 : decode method_3_code 3 = .ok (.ifCond .le 20, 3) := by decide +kernel
theorem d5_6 : decode method_3_code 6 = .ok (.dload 4, 2) := by decide +kernel
theorem d5_8 : decode method_3_code 8 = .ok (.dload_n 0, 1) := by decide +kernel
theorem d5_9 : decode method_3_code 9 = .ok (.dconst 1, 1) := by decide +kernel
theorem d5_10 : decode method_3_code 10 = .ok (.dadd, 1) := by decide +kernel
theorem d5_11 : decode method_3_code 11 = .ok (.dload_n 2, 1) := by decide +kernel
theorem d5_12 : decode method_3_code 12 = .ok (.ddiv, 1) := by decide +kernel
theorem d5_13 : decode method_3_code 13 = .ok (.dcmp .l, 1) := by decide +kernel
theorem d5_14 : decode method_3_code 14 = .ok (.ifCond .ne 7, 3) := by decide +kernel
theorem d5_17 : decode method_3_code 17 = .ok (.iconst 1, 1) := by decide +kernel
theorem d5_18 : decode method_3_code 18 = .ok (.goto 4, 3) := by decide +kernel
theorem d5_21 : decode method_3_code 21 = .ok (.iconst 0, 1) := by decide +kernel
theorem d5_22 : decode method_3_code 22 = .ok (.ireturn, 1) := by decide +kernel
theorem d5_23 : decode method_3_code 23 = .ok (.dload 4, 2) := by decide +kernel
theorem d5_25 : decode method_3_code 25 = .ok (.dconst 0, 1) := by decide +kernel
theorem d5_26 : decode method_3_code 26 = .ok (.dcmp .l, 1) := by decide +kernel
theorem d5_27 : decode method_3_code 27 = .ok (.ifCond .ne 7, 3) := by decide +kernel
theorem d5_30 : decode method_3_code 30 = .ok (.iconst 1, 1) := by decide +kernel
theorem d5_31 : decode method_3_code 31 = .ok (.goto 4, 3) := by decide +kernel
theorem d5_34 : decode method_3_code 34 = .ok (.iconst 0, 1) := by decide +kernel
theorem d5_35 : decode method_3_code 35 = .ok (.ireturn, 1) := by decide +kernel
theorem pn2 : plainName "com/example/rummage/rummage/CollectionIdfPinLaw" = true := by first | (simp [plainName, overriddenIn]; done) | decide +kernel
theorem pd3 : parseMethodDescriptor "(DDD)Z" = some ⟨[.double, .double, .double], some .boolean⟩ := by decide +kernel
theorem ef_rm_exp (m : MethodId) (x0 : UInt64) (x1 : UInt64) (x2 : UInt64) : entryFrame m #[(.double x0), (.double x1), (.double x2)] 6 = mkF m 0 #[.val (.double x0), .second, .val (.double x1), .second, .val (.double x2), .second] [] := by first | (simp [entryFrame, mkF, argsToLocals, Value.category, maxLocals]; done) | rfl
set_option maxRecDepth 65536 in
set_option maxHeartbeats 40000000 in
theorem rm_exp (l : Launch) (Z : State) (a0 : Array Value) (hw : ∀ d ∈ tables_1, d.before a0 Z = true) (dn d : UInt64) (nn j : Int) (h0 : Heap) (n0 : Nat) (Z0 : n0 ≤ h0.size) (NN : Core.DInt nn dn) (bn : nn.natAbs ≤ 2147483648) (I : Core.DInt j d) :
    Does l (⟨"com/example/rummage/rummage/CollectionIdfPinLaw", "expect", "(DDD)Z"⟩ : MethodName) method_3_code 6 (some .boolean) [] ({ frames := 0, cells := 0, slots := 0, locals := 0 } : Room) Z #[(.double dn), (.double d), (.double (own_idf dn d j))] h0 (fun v h L => v = some (.int 1) ∧ Fr n0 L ∧ h = h0) := by
  refine Does.of (plainFor_of_name pn2) ?_
  intro p e s m below meth c s₁ hx hby hml hret hlk hZ hown hnm X0 e0
  have N0 := Fr.nil n0
  refine Goes.cast (g' := mkF m 0 #[.val (.double dn), .second, .val (.double d), .second, .val (.double (own_idf dn d j)), .second] []) (ef_rm_exp m dn d (own_idf dn d j)) ?_
  refine Goes.by (T' := s₁) (g' := (mkF m 1 #[.val (.double dn), .second, .val (.double d), .second, .val (.double (own_idf dn d j)), .second] [(.double d)])) (fun _ k => XS.dloadN X0.here hx rfl (hb hby d5_0) rfl k) ?_
  refine Goes.by (T' := s₁) (g' := (mkF m 2 #[.val (.double dn), .second, .val (.double d), .second, .val (.double (own_idf dn d j)), .second] [(.double (0 : UInt64)), (.double d)])) (fun _ k => XS.dconst0 X0.here hx rfl (hb hby d5_1) rfl k) ?_
  by_cases hc : 0 < j
  · refine Goes.by (T' := s₁) (g' := (mkF m 3 #[.val (.double dn), .second, .val (.double d), .second, .val (.double (own_idf dn d j)), .second] [(.int (1 : Int32))])) (fun _ k => XS.dcmpS X0.here hx rfl (hb hby d5_2) rfl (cmpD_gt I DInt_zero hc _) k) ?_
    refine Goes.by (T' := s₁) (g' := (mkF m 6 #[.val (.double dn), .second, .val (.double d), .second, .val (.double (own_idf dn d j)), .second] [])) (fun _ k => XS.ifNo X0.here hx rfl (hb hby d5_3) rfl (by decide) k) ?_
    refine Goes.by (T' := s₁) (g' := (mkF m 8 #[.val (.double dn), .second, .val (.double d), .second, .val (.double (own_idf dn d j)), .second] [(.double (own_idf dn d j))])) (fun _ k => XS.dload X0.here hx rfl (hb hby d5_6) rfl k) ?_
    refine Goes.by (T' := s₁) (g' := (mkF m 9 #[.val (.double dn), .second, .val (.double d), .second, .val (.double (own_idf dn d j)), .second] [(.double dn), (.double (own_idf dn d j))])) (fun _ k => XS.dloadN X0.here hx rfl (hb hby d5_8) rfl k) ?_
    refine Goes.by (T' := s₁) (g' := (mkF m 10 #[.val (.double dn), .second, .val (.double d), .second, .val (.double (own_idf dn d j)), .second] [(.double (4607182418800017408 : UInt64)), (.double dn), (.double (own_idf dn d j))])) (fun _ k => XS.dconst1 X0.here hx rfl (hb hby d5_9) rfl k) ?_
    obtain ⟨sn, q_sn⟩ : ∃ zz, FP.dadd dn (4607182418800017408 : UInt64) = zz := ⟨_, rfl⟩
    have DS := DInt_add q_sn NN DInt_one (by omega)
    refine Goes.by (T' := s₁) (g' := (mkF m 11 #[.val (.double dn), .second, .val (.double d), .second, .val (.double (own_idf dn d j)), .second] [(.double sn), (.double (own_idf dn d j))])) (fun _ k => XS.daddS X0.here hx rfl (hb hby d5_10) rfl (by rw [q_sn]; exact DInt_nn DS) q_sn k) ?_
    refine Goes.by (T' := s₁) (g' := (mkF m 12 #[.val (.double dn), .second, .val (.double d), .second, .val (.double (own_idf dn d j)), .second] [(.double d), (.double sn), (.double (own_idf dn d j))])) (fun _ k => XS.dloadN X0.here hx rfl (hb hby d5_11) rfl k) ?_
    have nq := ddiv_out (DInt_nn DS) (DInt_fin I) (DInt_nz I (by omega))
    obtain ⟨dq, q_dq⟩ : ∃ zz, FP.ddiv sn d = zz := ⟨_, rfl⟩
    refine Goes.by (T' := s₁) (g' := (mkF m 13 #[.val (.double dn), .second, .val (.double d), .second, .val (.double (own_idf dn d j)), .second] [(.double dq), (.double (own_idf dn d j))])) (fun _ k => XS.ddivS X0.here hx rfl (hb hby d5_12) rfl (by rw [q_dq]; exact (q_dq ▸ nq)) q_dq k) ?_
    have EI : own_idf dn d j = dq := by rw [own_idf_p hc, q_sn, q_dq]
    refine Goes.by (T' := s₁) (g' := (mkF m 14 #[.val (.double dn), .second, .val (.double d), .second, .val (.double (own_idf dn d j)), .second] [(.int (0 : Int32))])) (fun _ k => XS.dcmpS X0.here hx rfl (hb hby d5_13) rfl (dcmpV_eq (EI) (by rw [EI, ← q_dq]; exact nq) _) k) ?_
    refine Goes.by (T' := s₁) (g' := (mkF m 17 #[.val (.double dn), .second, .val (.double d), .second, .val (.double (own_idf dn d j)), .second] [])) (fun _ k => XS.ifNo X0.here hx rfl (hb hby d5_14) rfl (by decide) k) ?_
    refine Goes.by (T' := s₁) (g' := (mkF m 18 #[.val (.double dn), .second, .val (.double d), .second, .val (.double (own_idf dn d j)), .second] [(.int (1 : Int32))])) (fun _ k => XS.iconst X0.here hx rfl (hb hby d5_17)  k) ?_
    refine Goes.by (T' := s₁) (g' := (mkF m 22 #[.val (.double dn), .second, .val (.double d), .second, .val (.double (own_idf dn d j)), .second] [(.int (1 : Int32))])) (fun _ k => XS.goto X0.here hx rfl (pc0 := 18) (pc' := 22) rfl (hb hby d5_18) (by decide) (by decide) k) ?_
    exact outZ X0 hx hlk hret (hb hby d5_22) (by rw [e0]; exact ⟨rfl, N0, rfl⟩) (by decide) (by decide)
  · obtain ⟨cv, hv, hn⟩ := cmpD_le I DInt_zero (by omega) .l
    refine Goes.by (T' := s₁) (g' := (mkF m 3 #[.val (.double dn), .second, .val (.double d), .second, .val (.double (own_idf dn d j)), .second] [(.int cv)])) (fun _ k => XS.dcmpS X0.here hx rfl (hb hby d5_2) rfl hv k) ?_
    refine Goes.by (T' := s₁) (g' := (mkF m 23 #[.val (.double dn), .second, .val (.double d), .second, .val (.double (own_idf dn d j)), .second] [])) (fun _ k => XS.ifYes X0.here hx rfl (pc0 := 3) (pc' := 23) rfl (hb hby d5_3) rfl ((if0 _ _).trans (flt hn).2.2.2) (by decide) (by decide) k) ?_
    refine Goes.by (T' := s₁) (g' := (mkF m 25 #[.val (.double dn), .second, .val (.double d), .second, .val (.double (own_idf dn d j)), .second] [(.double (own_idf dn d j))])) (fun _ k => XS.dload X0.here hx rfl (hb hby d5_23) rfl k) ?_
    refine Goes.by (T' := s₁) (g' := (mkF m 26 #[.val (.double dn), .second, .val (.double d), .second, .val (.double (own_idf dn d j)), .second] [(.double (0 : UInt64)), (.double (own_idf dn d j))])) (fun _ k => XS.dconst0 X0.here hx rfl (hb hby d5_25) rfl k) ?_
    refine Goes.by (T' := s₁) (g' := (mkF m 27 #[.val (.double dn), .second, .val (.double d), .second, .val (.double (own_idf dn d j)), .second] [(.int (0 : Int32))])) (fun _ k => XS.dcmpS X0.here hx rfl (hb hby d5_26) rfl (dcmpV_eq (own_idf_n hc) (by rw [own_idf_n hc]; exact DInt_nn DInt_zero) _) k) ?_
    refine Goes.by (T' := s₁) (g' := (mkF m 30 #[.val (.double dn), .second, .val (.double d), .second, .val (.double (own_idf dn d j)), .second] [])) (fun _ k => XS.ifNo X0.here hx rfl (hb hby d5_27) rfl (by decide) k) ?_
    refine Goes.by (T' := s₁) (g' := (mkF m 31 #[.val (.double dn), .second, .val (.double d), .second, .val (.double (own_idf dn d j)), .second] [(.int (1 : Int32))])) (fun _ k => XS.iconst X0.here hx rfl (hb hby d5_30)  k) ?_
    refine Goes.by (T' := s₁) (g' := (mkF m 35 #[.val (.double dn), .second, .val (.double d), .second, .val (.double (own_idf dn d j)), .second] [(.int (1 : Int32))])) (fun _ k => XS.goto X0.here hx rfl (pc0 := 31) (pc' := 35) rfl (hb hby d5_31) (by decide) (by decide) k) ?_
    exact outZ X0 hx hlk hret (hb hby d5_35) (by rw [e0]; exact ⟨rfl, N0, rfl⟩) (by decide) (by decide)
theorem ef_rm_law (m : MethodId) (x0 : Int32) (x1 : Int32) (x2 : Int32) (x3 : Int32) (x4 : Int32) : entryFrame m #[(.int x0), (.int x1), (.int x2), (.int x3), (.int x4)] maxLocals = mkF m 0 #[.val (.int x0), .val (.int x1), .val (.int x2), .val (.int x3), .val (.int x4), .unset, .unset, .unset, .unset, .unset, .unset, .unset, .unset, .unset, .unset, .unset] [] := by first | (simp [entryFrame, mkF, argsToLocals, Value.category, maxLocals]; done) | rfl
set_option maxRecDepth 65536 in
set_option maxHeartbeats 40000000 in
theorem rm_law (l : Launch) (Z : State) (a0 : Array Value) (hw : ∀ d ∈ tables_1, d.before a0 Z = true) (x0 x1 x2 x3 x4 : Int32) (h0 : Heap) (n0 : Nat) (Z0 : n0 ≤ h0.size)  :
    Does l x code maxLocals ret tables_1 room_1 Z #[(.int x0), (.int x1), (.int x2), (.int x3), (.int x4)] h0 (fun v h L => v = some (.int 1) ∧ Fr n0 L) := by
  refine Does.of (plainFor_of_name pn2) ?_
  intro p e s m below meth c s₁ hx hby hml hret hlk hZ hown hnm X0 e0
  have N0 := Fr.nil n0
  refine Goes.cast (g' := mkF m 0 #[.val (.int x0), .val (.int x1), .val (.int x2), .val (.int x3), .val (.int x4), .unset, .unset, .unset, .unset, .unset, .unset, .unset, .unset, .unset, .unset, .unset] []) (ef_rm_law m x0 x1 x2 x3 x4) ?_
  have rest : ∀ (d0 d1 d2 : UInt64) (j0 j1 j2 : Int), Core.DInt j0 d0 → Core.DInt j1 d1 → Core.DInt j2 d2 → Goes p e below (Fin1 below s room_1 (fun v h L => v = some (.int 1) ∧ Fr n0 L)) s₁ (mkF m 45 #[.val (.int x0), .val (.int x1), .val (.int x2), .val (.int x3), .val (.int x4), .val (.double d0), .second, .val (.double d1), .second, .val (.double d2), .second, .unset, .unset, .unset, .unset, .unset] []) := by
    intro d0 d1 d2 j0 j1 j2 I0 I1 I2
    refine Goes.by (T' := s₁) (g' := (mkF m 46 #[.val (.int x0), .val (.int x1), .val (.int x2), .val (.int x3), .val (.int x4), .val (.double d0), .second, .val (.double d1), .second, .val (.double d2), .second, .unset, .unset, .unset, .unset, .unset] [(.int (3 : Int32))])) (fun _ k => XS.iconst X0.here hx rfl (hb hby at_45)  k) ?_
    obtain ⟨T38, h38, k38, X38, e38, E38, A38, st38⟩ := newP X0 hx hZ (hw _ (List.mem_of_getElem? (i := 0) rfl)) e0 (g := (mkF m 46 #[.val (.int x0), .val (.int x1), .val (.int x2), .val (.int x3), .val (.int x4), .val (.double d0), .second, .val (.double d1), .second, .val (.double d2), .second, .unset, .unset, .unset, .unset, .unset] [(.int (3 : Int32))])) rfl (hb hby at_46) rfl (by decide) (cap := 3) (by decide) (by decide) (by decide) (by decide)
    obtain ⟨b, g38⟩ : ∃ z, z = h0.size := ⟨_, rfl⟩
    rw [← g38] at A38 st38
    have ge_b : n0 ≤ b := Nat.le_trans Z0 (Nat.le_of_eq g38.symm)
    have Z0 := Nat.le_trans Z0 E38.1
    have V_b : Sar Z h38 b .double [(.double (0 : UInt64)), (.double (0 : UInt64)), (.double (0 : UInt64))] := Sar.new (n := 3) A38 (by decide)
    refine Goes.by (T' := T38) (g' := (mkF m 48 #[.val (.int x0), .val (.int x1), .val (.int x2), .val (.int x3), .val (.int x4), .val (.double d0), .second, .val (.double d1), .second, .val (.double d2), .second, .unset, .unset, .unset, .unset, .unset] [(.ref b)])) st38 ?_
    refine Goes.by (T' := T38) (g' := (mkF m 49 #[.val (.int x0), .val (.int x1), .val (.int x2), .val (.int x3), .val (.int x4), .val (.double d0), .second, .val (.double d1), .second, .val (.double d2), .second, .unset, .unset, .unset, .unset, .unset] [(.ref b), (.ref b)])) (fun _ k => XS.dup X38.here hx rfl (hb hby at_48) rfl rfl k) ?_
    refine Goes.by (T' := T38) (g' := (mkF m 50 #[.val (.int x0), .val (.int x1), .val (.int x2), .val (.int x3), .val (.int x4), .val (.double d0), .second, .val (.double d1), .second, .val (.double d2), .second, .unset, .unset, .unset, .unset, .unset] [(.int (0 : Int32)), (.ref b), (.ref b)])) (fun _ k => XS.iconst X38.here hx rfl (hb hby at_49)  k) ?_
    refine Goes.by (T' := T38) (g' := (mkF m 52 #[.val (.int x0), .val (.int x1), .val (.int x2), .val (.int x3), .val (.int x4), .val (.double d0), .second, .val (.double d1), .second, .val (.double d2), .second, .unset, .unset, .unset, .unset, .unset] [(.double d0), (.int (0 : Int32)), (.ref b), (.ref b)])) (fun _ k => XS.dload X38.here hx rfl (hb hby at_50) rfl k) ?_
    obtain ⟨T39, h39, X39, e39, W39, V39, st39⟩ := stDS X38 hx hZ e38 V_b (j := (0 : Int32)) 0 (by decide) (by show 0 < 3; decide) (g := (mkF m 52 #[.val (.int x0), .val (.int x1), .val (.int x2), .val (.int x3), .val (.int x4), .val (.double d0), .second, .val (.double d1), .second, .val (.double d2), .second, .unset, .unset, .unset, .unset, .unset] [(.double d0), (.int (0 : Int32)), (.ref b), (.ref b)])) rfl rfl (hb hby at_52)
    have N0 := Fr.snoc X39 N0 ge_b
    have Z0 := Nat.le_trans Z0 (Nat.le_of_eq W39.size.symm)
    have V_b : Sar Z h39 b .double [(.double d0), (.double (0 : UInt64)), (.double (0 : UInt64))] := V39
    refine Goes.by (T' := T39) (g' := (mkF m 53 #[.val (.int x0), .val (.int x1), .val (.int x2), .val (.int x3), .val (.int x4), .val (.double d0), .second, .val (.double d1), .second, .val (.double d2), .second, .unset, .unset, .unset, .unset, .unset] [(.ref b)])) st39 ?_
    refine Goes.by (T' := T39) (g' := (mkF m 54 #[.val (.int x0), .val (.int x1), .val (.int x2), .val (.int x3), .val (.int x4), .val (.double d0), .second, .val (.double d1), .second, .val (.double d2), .second, .unset, .unset, .unset, .unset, .unset] [(.ref b), (.ref b)])) (fun _ k => XS.dup X39.here hx rfl (hb hby at_53) rfl rfl k) ?_
    refine Goes.by (T' := T39) (g' := (mkF m 55 #[.val (.int x0), .val (.int x1), .val (.int x2), .val (.int x3), .val (.int x4), .val (.double d0), .second, .val (.double d1), .second, .val (.double d2), .second, .unset, .unset, .unset, .unset, .unset] [(.int (1 : Int32)), (.ref b), (.ref b)])) (fun _ k => XS.iconst X39.here hx rfl (hb hby at_54)  k) ?_
    refine Goes.by (T' := T39) (g' := (mkF m 57 #[.val (.int x0), .val (.int x1), .val (.int x2), .val (.int x3), .val (.int x4), .val (.double d0), .second, .val (.double d1), .second, .val (.double d2), .second, .unset, .unset, .unset, .unset, .unset] [(.double d1), (.int (1 : Int32)), (.ref b), (.ref b)])) (fun _ k => XS.dload X39.here hx rfl (hb hby at_55) rfl k) ?_
    obtain ⟨T40, h40, X40, e40, W40, V40, st40⟩ := stDS X39 hx hZ e39 V_b (j := (1 : Int32)) 1 (by decide) (by show 1 < 3; decide) (g := (mkF m 57 #[.val (.int x0), .val (.int x1), .val (.int x2), .val (.int x3), .val (.int x4), .val (.double d0), .second, .val (.double d1), .second, .val (.double d2), .second, .unset, .unset, .unset, .unset, .unset] [(.double d1), (.int (1 : Int32)), (.ref b), (.ref b)])) rfl rfl (hb hby at_57)
    have N0 := Fr.snoc X40 N0 ge_b
    have Z0 := Nat.le_trans Z0 (Nat.le_of_eq W40.size.symm)
    have V_b : Sar Z h40 b .double [(.double d0), (.double d1), (.double (0 : UInt64))] := V40
    refine Goes.by (T' := T40) (g' := (mkF m 58 #[.val (.int x0), .val (.int x1), .val (.int x2), .val (.int x3), .val (.int x4), .val (.double d0), .second, .val (.double d1), .second, .val (.double d2), .second, .unset, .unset, .unset, .unset, .unset] [(.ref b)])) st40 ?_
    refine Goes.by (T' := T40) (g' := (mkF m 59 #[.val (.int x0), .val (.int x1), .val (.int x2), .val (.int x3), .val (.int x4), .val (.double d0), .second, .val (.double d1), .second, .val (.double d2), .second, .unset, .unset, .unset, .unset, .unset] [(.ref b), (.ref b)])) (fun _ k => XS.dup X40.here hx rfl (hb hby at_58) rfl rfl k) ?_
    refine Goes.by (T' := T40) (g' := (mkF m 60 #[.val (.int x0), .val (.int x1), .val (.int x2), .val (.int x3), .val (.int x4), .val (.double d0), .second, .val (.double d1), .second, .val (.double d2), .second, .unset, .unset, .unset, .unset, .unset] [(.int (2 : Int32)), (.ref b), (.ref b)])) (fun _ k => XS.iconst X40.here hx rfl (hb hby at_59)  k) ?_
    refine Goes.by (T' := T40) (g' := (mkF m 62 #[.val (.int x0), .val (.int x1), .val (.int x2), .val (.int x3), .val (.int x4), .val (.double d0), .second, .val (.double d1), .second, .val (.double d2), .second, .unset, .unset, .unset, .unset, .unset] [(.double d2), (.int (2 : Int32)), (.ref b), (.ref b)])) (fun _ k => XS.dload X40.here hx rfl (hb hby at_60) rfl k) ?_
    obtain ⟨T41, h41, X41, e41, W41, V41, st41⟩ := stDS X40 hx hZ e40 V_b (j := (2 : Int32)) 2 (by decide) (by show 2 < 3; decide) (g := (mkF m 62 #[.val (.int x0), .val (.int x1), .val (.int x2), .val (.int x3), .val (.int x4), .val (.double d0), .second, .val (.double d1), .second, .val (.double d2), .second, .unset, .unset, .unset, .unset, .unset] [(.double d2), (.int (2 : Int32)), (.ref b), (.ref b)])) rfl rfl (hb hby at_62)
    have N0 := Fr.snoc X41 N0 ge_b
    have Z0 := Nat.le_trans Z0 (Nat.le_of_eq W41.size.symm)
    have V_b : Sar Z h41 b .double [(.double d0), (.double d1), (.double d2)] := V41
    refine Goes.by (T' := T41) (g' := (mkF m 63 #[.val (.int x0), .val (.int x1), .val (.int x2), .val (.int x3), .val (.int x4), .val (.double d0), .second, .val (.double d1), .second, .val (.double d2), .second, .unset, .unset, .unset, .unset, .unset] [(.ref b)])) st41 ?_
    refine Goes.by (T' := T41) (g' := (mkF m 65 #[.val (.int x0), .val (.int x1), .val (.int x2), .val (.int x3), .val (.int x4), .val (.double d0), .second, .val (.double d1), .second, .val (.double d2), .second, .val (.ref b), .unset, .unset, .unset, .unset] [])) (fun _ k => XS.astore X41.here hx rfl (hb hby at_63) rfl rfl (l' := #[.val (.int x0), .val (.int x1), .val (.int x2), .val (.int x3), .val (.int x4), .val (.double d0), .second, .val (.double d1), .second, .val (.double d2), .second, .val (.ref b), .unset, .unset, .unset, .unset]) rfl k) ?_
    refine Goes.by (T' := T41) (g' := (mkF m 66 #[.val (.int x0), .val (.int x1), .val (.int x2), .val (.int x3), .val (.int x4), .val (.double d0), .second, .val (.double d1), .second, .val (.double d2), .second, .val (.ref b), .unset, .unset, .unset, .unset] [(.int x0)])) (fun _ k => XS.iloadN X41.here hx rfl (hb hby at_65) rfl k) ?_
    obtain ⟨dn, q_dn⟩ : ∃ zz, FP.i2d x0 = zz := ⟨_, rfl⟩
    refine Goes.by (T' := T41) (g' := (mkF m 67 #[.val (.int x0), .val (.int x1), .val (.int x2), .val (.int x3), .val (.int x4), .val (.double d0), .second, .val (.double d1), .second, .val (.double d2), .second, .val (.ref b), .unset, .unset, .unset, .unset] [(.double dn)])) (fun _ k => XS.i2dS X41.here hx rfl (hb hby at_66) rfl q_dn k) ?_
    have NN := DInt_i2d q_dn
    have bn : x0.toInt.natAbs ≤ 2147483648 := by have := rng32 x0; omega
    refine Goes.by (T' := T41) (g' := (mkF m 69 #[.val (.int x0), .val (.int x1), .val (.int x2), .val (.int x3), .val (.int x4), .val (.double d0), .second, .val (.double d1), .second, .val (.double d2), .second, .val (.ref b), .val (.double dn), .second, .unset, .unset] [])) (fun _ k => XS.dstore X41.here hx rfl (hb hby at_67) rfl (l' := #[.val (.int x0), .val (.int x1), .val (.int x2), .val (.int x3), .val (.int x4), .val (.double d0), .second, .val (.double d1), .second, .val (.double d2), .second, .val (.ref b), .val (.double dn), .second, .unset, .unset]) rfl k) ?_
    obtain ⟨T42, h42, X42, e42, E42, A42, D42, -, st42⟩ := newO X41 hx hZ hown (hw _ (List.mem_of_getElem? (i := 1) rfl)) (hw _ (List.mem_of_getElem? (i := 2) rfl)) (hw _ (List.mem_of_getElem? (i := 3) rfl)) e41 (g := (mkF m 69 #[.val (.int x0), .val (.int x1), .val (.int x2), .val (.int x3), .val (.int x4), .val (.double d0), .second, .val (.double d1), .second, .val (.double d2), .second, .val (.ref b), .val (.double dn), .second, .unset, .unset] [])) rfl (hb hby at_69) (by decide) (by decide)
    obtain ⟨a, g42⟩ : ∃ z, z = h41.size := ⟨_, rfl⟩
    rw [← g42] at A42 D42 st42
    have ne_b_a : b ≠ a := fun q => Nat.lt_irrefl _ (Nat.lt_of_lt_of_eq V_b.lt (g42.symm.trans q.symm))
    have ge_a : n0 ≤ a := Nat.le_trans Z0 (Nat.le_of_eq g42.symm)
    have V_b := V_b.ext E42
    have Z0 := Nat.le_trans Z0 E42.1
    have E_a := A42
    have F_documents_a : Fld Z h42 a "com/example/rummage/rummage/Ranking$Collection" "documents" "D" (.double (0 : UInt64)) := D42 (Or.inr (hw _ (List.mem_of_getElem? (i := 16) rfl))) (ty := .double) (by decide)
    have F_documentFrequencies_a : Fld Z h42 a "com/example/rummage/rummage/Ranking$Collection" "documentFrequencies" "[D" .null := D42 (Or.inr (hw _ (List.mem_of_getElem? (i := 18) rfl))) (ty := (.array .double)) (by decide)
    have F_averageLength_a : Fld Z h42 a "com/example/rummage/rummage/Ranking$Collection" "averageLength" "D" (.double (0 : UInt64)) := D42 (Or.inr (hw _ (List.mem_of_getElem? (i := 20) rfl))) (ty := .double) (by decide)
    have F_affinity_a : Fld Z h42 a "com/example/rummage/rummage/Ranking$Collection" "affinity" "D" (.double (0 : UInt64)) := D42 (Or.inr (hw _ (List.mem_of_getElem? (i := 22) rfl))) (ty := .double) (by decide)
    have F_fanIn_a : Fld Z h42 a "com/example/rummage/rummage/Ranking$Collection" "fanIn" "D" (.double (0 : UInt64)) := D42 (Or.inr (hw _ (List.mem_of_getElem? (i := 24) rfl))) (ty := .double) (by decide)
    refine Goes.by (T' := T42) (g' := (mkF m 72 #[.val (.int x0), .val (.int x1), .val (.int x2), .val (.int x3), .val (.int x4), .val (.double d0), .second, .val (.double d1), .second, .val (.double d2), .second, .val (.ref b), .val (.double dn), .second, .unset, .unset] [(.ref a)])) st42 ?_
    refine Goes.by (T' := T42) (g' := (mkF m 73 #[.val (.int x0), .val (.int x1), .val (.int x2), .val (.int x3), .val (.int x4), .val (.double d0), .second, .val (.double d1), .second, .val (.double d2), .second, .val (.ref b), .val (.double dn), .second, .unset, .unset] [(.ref a), (.ref a)])) (fun _ k => XS.dup X42.here hx rfl (hb hby at_72) rfl rfl k) ?_
    refine Goes.by (T' := T42) (g' := (mkF m 75 #[.val (.int x0), .val (.int x1), .val (.int x2), .val (.int x3), .val (.int x4), .val (.double d0), .second, .val (.double d1), .second, .val (.double d2), .second, .val (.ref b), .val (.double dn), .second, .unset, .unset] [(.double dn), (.ref a), (.ref a)])) (fun _ k => XS.dload X42.here hx rfl (hb hby at_73) rfl k) ?_
    refine Goes.by (T' := T42) (g' := (mkF m 77 #[.val (.int x0), .val (.int x1), .val (.int x2), .val (.int x3), .val (.int x4), .val (.double d0), .second, .val (.double d1), .second, .val (.double d2), .second, .val (.ref b), .val (.double dn), .second, .unset, .unset] [(.ref b), (.double dn), (.ref a), (.ref a)])) (fun _ k => XS.aload X42.here hx rfl (hb hby at_75) rfl rfl k) ?_
    refine Goes.by (T' := T42) (g' := (mkF m 78 #[.val (.int x0), .val (.int x1), .val (.int x2), .val (.int x3), .val (.int x4), .val (.double d0), .second, .val (.double d1), .second, .val (.double d2), .second, .val (.ref b), .val (.double dn), .second, .unset, .unset] [(.double (4607182418800017408 : UInt64)), (.ref b), (.double dn), (.ref a), (.ref a)])) (fun _ k => XS.dconst1 X42.here hx rfl (hb hby at_77) rfl k) ?_
    refine Goes.by (T' := T42) (g' := (mkF m 79 #[.val (.int x0), .val (.int x1), .val (.int x2), .val (.int x3), .val (.int x4), .val (.double d0), .second, .val (.double d1), .second, .val (.double d2), .second, .val (.ref b), .val (.double dn), .second, .unset, .unset] [(.double (4607182418800017408 : UInt64)), (.double (4607182418800017408 : UInt64)), (.ref b), (.double dn), (.ref a), (.ref a)])) (fun _ k => XS.dconst1 X42.here hx rfl (hb hby at_78) rfl k) ?_
    refine Goes.by (T' := T42) (g' := (mkF m 80 #[.val (.int x0), .val (.int x1), .val (.int x2), .val (.int x3), .val (.int x4), .val (.double d0), .second, .val (.double d1), .second, .val (.double d2), .second, .val (.ref b), .val (.double dn), .second, .unset, .unset] [(.double (4607182418800017408 : UInt64)), (.double (4607182418800017408 : UInt64)), (.double (4607182418800017408 : UInt64)), (.ref b), (.double dn), (.ref a), (.ref a)])) (fun _ k => XS.dconst1 X42.here hx rfl (hb hby at_79) rfl k) ?_
    obtain ⟨v43, T43, L43, X43, hQ43, st43⟩ := callI X42 hx hZ (y := (⟨"com/example/rummage/rummage/Ranking$Collection", "<init>", "(D[DDDD)V"⟩ : MethodName)) rfl hown (hw _ (List.mem_of_getElem? (i := 4) rfl)) (hw _ (List.mem_of_getElem? (i := 5) rfl)) (hw _ (List.mem_of_getElem? (i := 6) rfl)) (hw _ (List.mem_of_getElem? (i := 3) rfl)) (by decide) e42 (a := a) (argsL := [(.double dn), (.ref b), (.double (4607182418800017408 : UInt64)), (.double (4607182418800017408 : UInt64)), (.double (4607182418800017408 : UInt64))]) (rest := [(.ref a)]) (W := 1) (rm_init l Z a0 hw a dn b (4607182418800017408 : UInt64) (4607182418800017408 : UInt64) (4607182418800017408 : UInt64) h42 n0 Z0 E_a F_documents_a F_documentFrequencies_a F_averageLength_a F_affinity_a F_fanIn_a ge_a) rfl (by decide) (by decide) (by decide) (by decide) (g := (mkF m 80 #[.val (.int x0), .val (.int x1), .val (.int x2), .val (.int x3), .val (.int x4), .val (.double d0), .second, .val (.double d1), .second, .val (.double d2), .second, .val (.ref b), .val (.double dn), .second, .unset, .unset] [(.double (4607182418800017408 : UInt64)), (.double (4607182418800017408 : UInt64)), (.double (4607182418800017408 : UInt64)), (.ref b), (.double dn), (.ref a), (.ref a)])) rfl (by rw [hml]; rfl) (lenOf pd1 rfl) rfl (by show 2 * 0 + _ ≤ _; exact Nat.le_of_eq rfl) (hb hby at_80)
    obtain ⟨rfl, F_documents_a, F_documentFrequencies_a, F_averageLength_a, F_affinity_a, F_fanIn_a, K43, NL43⟩ := hQ43
    have N0 := Fr.app N0 NL43
    have e43 : T43.heap = T43.heap := rfl
    have V_b := V_b.keep K43 (ninS ne_b_a nin0)
    have E_a := E_a.keep K43
    have Z0 := Nat.le_trans Z0 K43.1
    refine Goes.by (T' := T43) (g' := (mkF m 83 #[.val (.int x0), .val (.int x1), .val (.int x2), .val (.int x3), .val (.int x4), .val (.double d0), .second, .val (.double d1), .second, .val (.double d2), .second, .val (.ref b), .val (.double dn), .second, .unset, .unset] [(.ref a)])) st43 ?_
    refine Goes.by (T' := T43) (g' := (mkF m 85 #[.val (.int x0), .val (.int x1), .val (.int x2), .val (.int x3), .val (.int x4), .val (.double d0), .second, .val (.double d1), .second, .val (.double d2), .second, .val (.ref b), .val (.double dn), .second, .val (.ref a), .unset] [])) (fun _ k => XS.astore X43.here hx rfl (hb hby at_83) rfl rfl (l' := #[.val (.int x0), .val (.int x1), .val (.int x2), .val (.int x3), .val (.int x4), .val (.double d0), .second, .val (.double d1), .second, .val (.double d2), .second, .val (.ref b), .val (.double dn), .second, .val (.ref a), .unset]) rfl k) ?_
    refine Goes.by (T' := T43) (g' := (mkF m 87 #[.val (.int x0), .val (.int x1), .val (.int x2), .val (.int x3), .val (.int x4), .val (.double d0), .second, .val (.double d1), .second, .val (.double d2), .second, .val (.ref b), .val (.double dn), .second, .val (.ref a), .unset] [(.ref a)])) (fun _ k => XS.aload X43.here hx rfl (hb hby at_85) rfl rfl k) ?_
    obtain ⟨v44, T44, L44, X44, hQ44, st44⟩ := callV X43 hx hZ (y := (⟨"com/example/rummage/rummage/Ranking$Collection", "idf", "()[D"⟩ : MethodName)) hown (hw _ (List.mem_of_getElem? (i := 25) rfl)) (hw _ (List.mem_of_getElem? (i := 26) rfl)) (hw _ (List.mem_of_getElem? (i := 28) rfl)) (hw _ (List.mem_of_getElem? (i := 27) rfl)) (hw _ (List.mem_of_getElem? (i := 29) rfl)) (hw _ (List.mem_of_getElem? (i := 3) rfl)) (by decide) e43 E_a (argsL := []) (rest := []) (W := 0) (rm_idf l Z a0 hw a b dn d0 d1 d2 x0.toInt j0 j1 j2 T43.heap n0 Z0 F_documents_a F_documentFrequencies_a V_b NN bn I0 I1 I2) rfl (by decide) (by decide) (by decide) (by decide) (g := (mkF m 87 #[.val (.int x0), .val (.int x1), .val (.int x2), .val (.int x3), .val (.int x4), .val (.double d0), .second, .val (.double d1), .second, .val (.double d2), .second, .val (.ref b), .val (.double dn), .second, .val (.ref a), .unset] [(.ref a)])) rfl (by rw [hml]; rfl) (lenOf pd2 rfl) rfl (by show 2 * 0 + _ ≤ _; exact Nat.le_of_eq rfl) (hb hby at_87)
    obtain ⟨r, rfl, szr, V_r, K44, NL44⟩ := hQ44
    have N0 := Fr.app N0 NL44
    have ne_b_r : b ≠ r := fun q => Nat.lt_irrefl _ (Nat.lt_of_lt_of_le V_b.lt (Nat.le_trans szr (Nat.le_of_eq q.symm)))
    have ne_a_r : a ≠ r := fun q => Nat.lt_irrefl _ (Nat.lt_of_lt_of_le E_a.lt (Nat.le_trans szr (Nat.le_of_eq q.symm)))
    have ge_r : n0 ≤ r := Nat.le_trans Z0 szr
    have e44 : T44.heap = T44.heap := rfl
    have V_b := V_b.keep K44 nin0
    have E_a := E_a.keep K44
    have F_documents_a := F_documents_a.keep K44 nin0
    have F_documentFrequencies_a := F_documentFrequencies_a.keep K44 nin0
    have F_averageLength_a := F_averageLength_a.keep K44 nin0
    have F_affinity_a := F_affinity_a.keep K44 nin0
    have F_fanIn_a := F_fanIn_a.keep K44 nin0
    have Z0 := Nat.le_trans Z0 K44.1
    refine Goes.by (T' := T44) (g' := (mkF m 90 #[.val (.int x0), .val (.int x1), .val (.int x2), .val (.int x3), .val (.int x4), .val (.double d0), .second, .val (.double d1), .second, .val (.double d2), .second, .val (.ref b), .val (.double dn), .second, .val (.ref a), .unset] [(.ref r)])) st44 ?_
    refine Goes.by (T' := T44) (g' := (mkF m 92 #[.val (.int x0), .val (.int x1), .val (.int x2), .val (.int x3), .val (.int x4), .val (.double d0), .second, .val (.double d1), .second, .val (.double d2), .second, .val (.ref b), .val (.double dn), .second, .val (.ref a), .val (.ref r)] [])) (fun _ k => XS.astore X44.here hx rfl (hb hby at_90) rfl rfl (l' := #[.val (.int x0), .val (.int x1), .val (.int x2), .val (.int x3), .val (.int x4), .val (.double d0), .second, .val (.double d1), .second, .val (.double d2), .second, .val (.ref b), .val (.double dn), .second, .val (.ref a), .val (.ref r)]) rfl k) ?_
    refine Goes.by (T' := T44) (g' := (mkF m 94 #[.val (.int x0), .val (.int x1), .val (.int x2), .val (.int x3), .val (.int x4), .val (.double d0), .second, .val (.double d1), .second, .val (.double d2), .second, .val (.ref b), .val (.double dn), .second, .val (.ref a), .val (.ref r)] [(.ref r)])) (fun _ k => XS.aload X44.here hx rfl (hb hby at_92) rfl rfl k) ?_
    refine Goes.by (T' := T44) (g' := (mkF m 97 #[.val (.int x0), .val (.int x1), .val (.int x2), .val (.int x3), .val (.int x4), .val (.double d0), .second, .val (.double d1), .second, .val (.double d2), .second, .val (.ref b), .val (.double dn), .second, .val (.ref a), .val (.ref r)] [])) (fun _ k => XS.ifnullNo X44.here hx rfl (hb hby at_94) rfl k) ?_
    refine Goes.by (T' := T44) (g' := (mkF m 99 #[.val (.int x0), .val (.int x1), .val (.int x2), .val (.int x3), .val (.int x4), .val (.double d0), .second, .val (.double d1), .second, .val (.double d2), .second, .val (.ref b), .val (.double dn), .second, .val (.ref a), .val (.ref r)] [(.ref r)])) (fun _ k => XS.aload X44.here hx rfl (hb hby at_97) rfl rfl k) ?_
    refine Goes.by (T' := T44) (g' := (mkF m 100 #[.val (.int x0), .val (.int x1), .val (.int x2), .val (.int x3), .val (.int x4), .val (.double d0), .second, .val (.double d1), .second, .val (.double d2), .second, .val (.ref b), .val (.double dn), .second, .val (.ref a), .val (.ref r)] [(.int (3 : Int32))])) (lenS X44 hx hZ e44 V_r (n := (3 : Int32)) rfl (g := (mkF m 99 #[.val (.int x0), .val (.int x1), .val (.int x2), .val (.int x3), .val (.int x4), .val (.double d0), .second, .val (.double d1), .second, .val (.double d2), .second, .val (.ref b), .val (.double dn), .second, .val (.ref a), .val (.ref r)] [(.ref r)])) rfl rfl (hb hby at_99)) ?_
    refine Goes.by (T' := T44) (g' := (mkF m 101 #[.val (.int x0), .val (.int x1), .val (.int x2), .val (.int x3), .val (.int x4), .val (.double d0), .second, .val (.double d1), .second, .val (.double d2), .second, .val (.ref b), .val (.double dn), .second, .val (.ref a), .val (.ref r)] [(.int (3 : Int32)), (.int (3 : Int32))])) (fun _ k => XS.iconst X44.here hx rfl (hb hby at_100)  k) ?_
    refine Goes.by (T' := T44) (g' := (mkF m 106 #[.val (.int x0), .val (.int x1), .val (.int x2), .val (.int x3), .val (.int x4), .val (.double d0), .second, .val (.double d1), .second, .val (.double d2), .second, .val (.ref b), .val (.double dn), .second, .val (.ref a), .val (.ref r)] [])) (fun _ k => XS.icmpYes X44.here hx rfl (pc0 := 101) (pc' := 106) rfl (hb hby at_101) rfl (by decide) (by decide) (by decide) k) ?_
    refine Goes.by (T' := T44) (g' := (mkF m 108 #[.val (.int x0), .val (.int x1), .val (.int x2), .val (.int x3), .val (.int x4), .val (.double d0), .second, .val (.double d1), .second, .val (.double d2), .second, .val (.ref b), .val (.double dn), .second, .val (.ref a), .val (.ref r)] [(.double dn)])) (fun _ k => XS.dload X44.here hx rfl (hb hby at_106) rfl k) ?_
    refine Goes.by (T' := T44) (g' := (mkF m 110 #[.val (.int x0), .val (.int x1), .val (.int x2), .val (.int x3), .val (.int x4), .val (.double d0), .second, .val (.double d1), .second, .val (.double d2), .second, .val (.ref b), .val (.double dn), .second, .val (.ref a), .val (.ref r)] [(.double d0), (.double dn)])) (fun _ k => XS.dload X44.here hx rfl (hb hby at_108) rfl k) ?_
    refine Goes.by (T' := T44) (g' := (mkF m 112 #[.val (.int x0), .val (.int x1), .val (.int x2), .val (.int x3), .val (.int x4), .val (.double d0), .second, .val (.double d1), .second, .val (.double d2), .second, .val (.ref b), .val (.double dn), .second, .val (.ref a), .val (.ref r)] [(.ref r), (.double d0), (.double dn)])) (fun _ k => XS.aload X44.here hx rfl (hb hby at_110) rfl rfl k) ?_
    refine Goes.by (T' := T44) (g' := (mkF m 113 #[.val (.int x0), .val (.int x1), .val (.int x2), .val (.int x3), .val (.int x4), .val (.double d0), .second, .val (.double d1), .second, .val (.double d2), .second, .val (.ref b), .val (.double dn), .second, .val (.ref a), .val (.ref r)] [(.int (0 : Int32)), (.ref r), (.double d0), (.double dn)])) (fun _ k => XS.iconst X44.here hx rfl (hb hby at_112)  k) ?_
    refine Goes.by (T' := T44) (g' := (mkF m 114 #[.val (.int x0), .val (.int x1), .val (.int x2), .val (.int x3), .val (.int x4), .val (.double d0), .second, .val (.double d1), .second, .val (.double d2), .second, .val (.ref b), .val (.double dn), .second, .val (.ref a), .val (.ref r)] [(.double (own_idf dn d0 j0)), (.double d0), (.double dn)])) (ldDS X44 hx hZ e44 V_r (v := (.double (own_idf dn d0 j0))) (j := (0 : Int32)) 0 (by decide) rfl (g := (mkF m 113 #[.val (.int x0), .val (.int x1), .val (.int x2), .val (.int x3), .val (.int x4), .val (.double d0), .second, .val (.double d1), .second, .val (.double d2), .second, .val (.ref b), .val (.double dn), .second, .val (.ref a), .val (.ref r)] [(.int (0 : Int32)), (.ref r), (.double d0), (.double dn)])) rfl rfl (hb hby at_113)) ?_
    obtain ⟨v45, T45, L45, X45, hQ45, st45⟩ := callC X44 hx hZ (y := (⟨"com/example/rummage/rummage/CollectionIdfPinLaw", "expect", "(DDD)Z"⟩ : MethodName)) hown (hw _ (List.mem_of_getElem? (i := 30) rfl)) (hw _ (List.mem_of_getElem? (i := 31) rfl)) (hw _ (List.mem_of_getElem? (i := 33) rfl)) (hw _ (List.mem_of_getElem? (i := 32) rfl)) (by decide) e44 (argsL := [(.double dn), (.double d0), (.double (own_idf dn d0 j0))]) (rest := []) (W := 0) (rm_exp l Z a0 hw dn d0 x0.toInt j0 T44.heap n0 Z0 NN bn I0) rfl (by decide) (by decide) (by decide) (by decide) (g := (mkF m 114 #[.val (.int x0), .val (.int x1), .val (.int x2), .val (.int x3), .val (.int x4), .val (.double d0), .second, .val (.double d1), .second, .val (.double d2), .second, .val (.ref b), .val (.double dn), .second, .val (.ref a), .val (.ref r)] [(.double (own_idf dn d0 j0)), (.double d0), (.double dn)])) rfl (by rw [hml]; rfl) (lenOf pd3 rfl) rfl (by show 2 * 0 + _ ≤ _; exact Nat.le_of_eq rfl) (hb hby at_114)
    obtain ⟨rfl, NL45, hk45⟩ := hQ45
    have N0 := Fr.app N0 NL45
    refine Goes.by (T' := T45) (g' := (mkF m 117 #[.val (.int x0), .val (.int x1), .val (.int x2), .val (.int x3), .val (.int x4), .val (.double d0), .second, .val (.double d1), .second, .val (.double d2), .second, .val (.ref b), .val (.double dn), .second, .val (.ref a), .val (.ref r)] [(.int (1 : Int32))])) st45 ?_
    refine Goes.by (T' := T45) (g' := (mkF m 120 #[.val (.int x0), .val (.int x1), .val (.int x2), .val (.int x3), .val (.int x4), .val (.double d0), .second, .val (.double d1), .second, .val (.double d2), .second, .val (.ref b), .val (.double dn), .second, .val (.ref a), .val (.ref r)] [])) (fun _ k => XS.ifNo X45.here hx rfl (hb hby at_117) rfl (by decide) k) ?_
    refine Goes.by (T' := T45) (g' := (mkF m 122 #[.val (.int x0), .val (.int x1), .val (.int x2), .val (.int x3), .val (.int x4), .val (.double d0), .second, .val (.double d1), .second, .val (.double d2), .second, .val (.ref b), .val (.double dn), .second, .val (.ref a), .val (.ref r)] [(.double dn)])) (fun _ k => XS.dload X45.here hx rfl (hb hby at_120) rfl k) ?_
    refine Goes.by (T' := T45) (g' := (mkF m 124 #[.val (.int x0), .val (.int x1), .val (.int x2), .val (.int x3), .val (.int x4), .val (.double d0), .second, .val (.double d1), .second, .val (.double d2), .second, .val (.ref b), .val (.double dn), .second, .val (.ref a), .val (.ref r)] [(.double d1), (.double dn)])) (fun _ k => XS.dload X45.here hx rfl (hb hby at_122) rfl k) ?_
    refine Goes.by (T' := T45) (g' := (mkF m 126 #[.val (.int x0), .val (.int x1), .val (.int x2), .val (.int x3), .val (.int x4), .val (.double d0), .second, .val (.double d1), .second, .val (.double d2), .second, .val (.ref b), .val (.double dn), .second, .val (.ref a), .val (.ref r)] [(.ref r), (.double d1), (.double dn)])) (fun _ k => XS.aload X45.here hx rfl (hb hby at_124) rfl rfl k) ?_
    refine Goes.by (T' := T45) (g' := (mkF m 127 #[.val (.int x0), .val (.int x1), .val (.int x2), .val (.int x3), .val (.int x4), .val (.double d0), .second, .val (.double d1), .second, .val (.double d2), .second, .val (.ref b), .val (.double dn), .second, .val (.ref a), .val (.ref r)] [(.int (1 : Int32)), (.ref r), (.double d1), (.double dn)])) (fun _ k => XS.iconst X45.here hx rfl (hb hby at_126)  k) ?_
    refine Goes.by (T' := T45) (g' := (mkF m 128 #[.val (.int x0), .val (.int x1), .val (.int x2), .val (.int x3), .val (.int x4), .val (.double d0), .second, .val (.double d1), .second, .val (.double d2), .second, .val (.ref b), .val (.double dn), .second, .val (.ref a), .val (.ref r)] [(.double (own_idf dn d1 j1)), (.double d1), (.double dn)])) (ldDS X45 hx hZ hk45 V_r (v := (.double (own_idf dn d1 j1))) (j := (1 : Int32)) 1 (by decide) rfl (g := (mkF m 127 #[.val (.int x0), .val (.int x1), .val (.int x2), .val (.int x3), .val (.int x4), .val (.double d0), .second, .val (.double d1), .second, .val (.double d2), .second, .val (.ref b), .val (.double dn), .second, .val (.ref a), .val (.ref r)] [(.int (1 : Int32)), (.ref r), (.double d1), (.double dn)])) rfl rfl (hb hby at_127)) ?_
    obtain ⟨v46, T46, L46, X46, hQ46, st46⟩ := callC X45 hx hZ (y := (⟨"com/example/rummage/rummage/CollectionIdfPinLaw", "expect", "(DDD)Z"⟩ : MethodName)) hown (hw _ (List.mem_of_getElem? (i := 30) rfl)) (hw _ (List.mem_of_getElem? (i := 31) rfl)) (hw _ (List.mem_of_getElem? (i := 33) rfl)) (hw _ (List.mem_of_getElem? (i := 32) rfl)) (by decide) hk45 (argsL := [(.double dn), (.double d1), (.double (own_idf dn d1 j1))]) (rest := []) (W := 0) (rm_exp l Z a0 hw dn d1 x0.toInt j1 T44.heap n0 Z0 NN bn I1) rfl (by decide) (by decide) (by decide) (by decide) (g := (mkF m 128 #[.val (.int x0), .val (.int x1), .val (.int x2), .val (.int x3), .val (.int x4), .val (.double d0), .second, .val (.double d1), .second, .val (.double d2), .second, .val (.ref b), .val (.double dn), .second, .val (.ref a), .val (.ref r)] [(.double (own_idf dn d1 j1)), (.double d1), (.double dn)])) rfl (by rw [hml]; rfl) (lenOf pd3 rfl) rfl (by show 2 * 0 + _ ≤ _; exact Nat.le_of_eq rfl) (hb hby at_128)
    obtain ⟨rfl, NL46, hk46⟩ := hQ46
    have N0 := Fr.app N0 NL46
    refine Goes.by (T' := T46) (g' := (mkF m 131 #[.val (.int x0), .val (.int x1), .val (.int x2), .val (.int x3), .val (.int x4), .val (.double d0), .second, .val (.double d1), .second, .val (.double d2), .second, .val (.ref b), .val (.double dn), .second, .val (.ref a), .val (.ref r)] [(.int (1 : Int32))])) st46 ?_
    refine Goes.by (T' := T46) (g' := (mkF m 134 #[.val (.int x0), .val (.int x1), .val (.int x2), .val (.int x3), .val (.int x4), .val (.double d0), .second, .val (.double d1), .second, .val (.double d2), .second, .val (.ref b), .val (.double dn), .second, .val (.ref a), .val (.ref r)] [])) (fun _ k => XS.ifNo X46.here hx rfl (hb hby at_131) rfl (by decide) k) ?_
    refine Goes.by (T' := T46) (g' := (mkF m 136 #[.val (.int x0), .val (.int x1), .val (.int x2), .val (.int x3), .val (.int x4), .val (.double d0), .second, .val (.double d1), .second, .val (.double d2), .second, .val (.ref b), .val (.double dn), .second, .val (.ref a), .val (.ref r)] [(.double dn)])) (fun _ k => XS.dload X46.here hx rfl (hb hby at_134) rfl k) ?_
    refine Goes.by (T' := T46) (g' := (mkF m 138 #[.val (.int x0), .val (.int x1), .val (.int x2), .val (.int x3), .val (.int x4), .val (.double d0), .second, .val (.double d1), .second, .val (.double d2), .second, .val (.ref b), .val (.double dn), .second, .val (.ref a), .val (.ref r)] [(.double d2), (.double dn)])) (fun _ k => XS.dload X46.here hx rfl (hb hby at_136) rfl k) ?_
    refine Goes.by (T' := T46) (g' := (mkF m 140 #[.val (.int x0), .val (.int x1), .val (.int x2), .val (.int x3), .val (.int x4), .val (.double d0), .second, .val (.double d1), .second, .val (.double d2), .second, .val (.ref b), .val (.double dn), .second, .val (.ref a), .val (.ref r)] [(.ref r), (.double d2), (.double dn)])) (fun _ k => XS.aload X46.here hx rfl (hb hby at_138) rfl rfl k) ?_
    refine Goes.by (T' := T46) (g' := (mkF m 141 #[.val (.int x0), .val (.int x1), .val (.int x2), .val (.int x3), .val (.int x4), .val (.double d0), .second, .val (.double d1), .second, .val (.double d2), .second, .val (.ref b), .val (.double dn), .second, .val (.ref a), .val (.ref r)] [(.int (2 : Int32)), (.ref r), (.double d2), (.double dn)])) (fun _ k => XS.iconst X46.here hx rfl (hb hby at_140)  k) ?_
    refine Goes.by (T' := T46) (g' := (mkF m 142 #[.val (.int x0), .val (.int x1), .val (.int x2), .val (.int x3), .val (.int x4), .val (.double d0), .second, .val (.double d1), .second, .val (.double d2), .second, .val (.ref b), .val (.double dn), .second, .val (.ref a), .val (.ref r)] [(.double (own_idf dn d2 j2)), (.double d2), (.double dn)])) (ldDS X46 hx hZ hk46 V_r (v := (.double (own_idf dn d2 j2))) (j := (2 : Int32)) 2 (by decide) rfl (g := (mkF m 141 #[.val (.int x0), .val (.int x1), .val (.int x2), .val (.int x3), .val (.int x4), .val (.double d0), .second, .val (.double d1), .second, .val (.double d2), .second, .val (.ref b), .val (.double dn), .second, .val (.ref a), .val (.ref r)] [(.int (2 : Int32)), (.ref r), (.double d2), (.double dn)])) rfl rfl (hb hby at_141)) ?_
    obtain ⟨v47, T47, L47, X47, hQ47, st47⟩ := callC X46 hx hZ (y := (⟨"com/example/rummage/rummage/CollectionIdfPinLaw", "expect", "(DDD)Z"⟩ : MethodName)) hown (hw _ (List.mem_of_getElem? (i := 30) rfl)) (hw _ (List.mem_of_getElem? (i := 31) rfl)) (hw _ (List.mem_of_getElem? (i := 33) rfl)) (hw _ (List.mem_of_getElem? (i := 32) rfl)) (by decide) hk46 (argsL := [(.double dn), (.double d2), (.double (own_idf dn d2 j2))]) (rest := []) (W := 0) (rm_exp l Z a0 hw dn d2 x0.toInt j2 T44.heap n0 Z0 NN bn I2) rfl (by decide) (by decide) (by decide) (by decide) (g := (mkF m 142 #[.val (.int x0), .val (.int x1), .val (.int x2), .val (.int x3), .val (.int x4), .val (.double d0), .second, .val (.double d1), .second, .val (.double d2), .second, .val (.ref b), .val (.double dn), .second, .val (.ref a), .val (.ref r)] [(.double (own_idf dn d2 j2)), (.double d2), (.double dn)])) rfl (by rw [hml]; rfl) (lenOf pd3 rfl) rfl (by show 2 * 0 + _ ≤ _; exact Nat.le_of_eq rfl) (hb hby at_142)
    obtain ⟨rfl, NL47, hk47⟩ := hQ47
    have N0 := Fr.app N0 NL47
    refine Goes.by (T' := T47) (g' := (mkF m 145 #[.val (.int x0), .val (.int x1), .val (.int x2), .val (.int x3), .val (.int x4), .val (.double d0), .second, .val (.double d1), .second, .val (.double d2), .second, .val (.ref b), .val (.double dn), .second, .val (.ref a), .val (.ref r)] [(.int (1 : Int32))])) st47 ?_
    refine Goes.by (T' := T47) (g' := (mkF m 148 #[.val (.int x0), .val (.int x1), .val (.int x2), .val (.int x3), .val (.int x4), .val (.double d0), .second, .val (.double d1), .second, .val (.double d2), .second, .val (.ref b), .val (.double dn), .second, .val (.ref a), .val (.ref r)] [])) (fun _ k => XS.ifNo X47.here hx rfl (hb hby at_145) rfl (by decide) k) ?_
    refine Goes.by (T' := T47) (g' := (mkF m 150 #[.val (.int x0), .val (.int x1), .val (.int x2), .val (.int x3), .val (.int x4), .val (.double d0), .second, .val (.double d1), .second, .val (.double d2), .second, .val (.ref b), .val (.double dn), .second, .val (.ref a), .val (.ref r)] [(.ref b)])) (fun _ k => XS.aload X47.here hx rfl (hb hby at_148) rfl rfl k) ?_
    refine Goes.by (T' := T47) (g' := (mkF m 151 #[.val (.int x0), .val (.int x1), .val (.int x2), .val (.int x3), .val (.int x4), .val (.double d0), .second, .val (.double d1), .second, .val (.double d2), .second, .val (.ref b), .val (.double dn), .second, .val (.ref a), .val (.ref r)] [(.int (0 : Int32)), (.ref b)])) (fun _ k => XS.iconst X47.here hx rfl (hb hby at_150)  k) ?_
    refine Goes.by (T' := T47) (g' := (mkF m 152 #[.val (.int x0), .val (.int x1), .val (.int x2), .val (.int x3), .val (.int x4), .val (.double d0), .second, .val (.double d1), .second, .val (.double d2), .second, .val (.ref b), .val (.double dn), .second, .val (.ref a), .val (.ref r)] [(.double d0)])) (ldDS X47 hx hZ hk47 V_b (v := (.double d0)) (j := (0 : Int32)) 0 (by decide) rfl (g := (mkF m 151 #[.val (.int x0), .val (.int x1), .val (.int x2), .val (.int x3), .val (.int x4), .val (.double d0), .second, .val (.double d1), .second, .val (.double d2), .second, .val (.ref b), .val (.double dn), .second, .val (.ref a), .val (.ref r)] [(.int (0 : Int32)), (.ref b)])) rfl rfl (hb hby at_151)) ?_
    refine Goes.by (T' := T47) (g' := (mkF m 154 #[.val (.int x0), .val (.int x1), .val (.int x2), .val (.int x3), .val (.int x4), .val (.double d0), .second, .val (.double d1), .second, .val (.double d2), .second, .val (.ref b), .val (.double dn), .second, .val (.ref a), .val (.ref r)] [(.double d0), (.double d0)])) (fun _ k => XS.dload X47.here hx rfl (hb hby at_152) rfl k) ?_
    refine Goes.by (T' := T47) (g' := (mkF m 155 #[.val (.int x0), .val (.int x1), .val (.int x2), .val (.int x3), .val (.int x4), .val (.double d0), .second, .val (.double d1), .second, .val (.double d2), .second, .val (.ref b), .val (.double dn), .second, .val (.ref a), .val (.ref r)] [(.int (0 : Int32))])) (fun _ k => XS.dcmpS X47.here hx rfl (hb hby at_154) rfl (dcmpV_self (DInt_nn I0) _) k) ?_
    refine Goes.by (T' := T47) (g' := (mkF m 158 #[.val (.int x0), .val (.int x1), .val (.int x2), .val (.int x3), .val (.int x4), .val (.double d0), .second, .val (.double d1), .second, .val (.double d2), .second, .val (.ref b), .val (.double dn), .second, .val (.ref a), .val (.ref r)] [])) (fun _ k => XS.ifNo X47.here hx rfl (hb hby at_155) rfl (by decide) k) ?_
    refine Goes.by (T' := T47) (g' := (mkF m 160 #[.val (.int x0), .val (.int x1), .val (.int x2), .val (.int x3), .val (.int x4), .val (.double d0), .second, .val (.double d1), .second, .val (.double d2), .second, .val (.ref b), .val (.double dn), .second, .val (.ref a), .val (.ref r)] [(.ref b)])) (fun _ k => XS.aload X47.here hx rfl (hb hby at_158) rfl rfl k) ?_
    refine Goes.by (T' := T47) (g' := (mkF m 161 #[.val (.int x0), .val (.int x1), .val (.int x2), .val (.int x3), .val (.int x4), .val (.double d0), .second, .val (.double d1), .second, .val (.double d2), .second, .val (.ref b), .val (.double dn), .second, .val (.ref a), .val (.ref r)] [(.int (1 : Int32)), (.ref b)])) (fun _ k => XS.iconst X47.here hx rfl (hb hby at_160)  k) ?_
    refine Goes.by (T' := T47) (g' := (mkF m 162 #[.val (.int x0), .val (.int x1), .val (.int x2), .val (.int x3), .val (.int x4), .val (.double d0), .second, .val (.double d1), .second, .val (.double d2), .second, .val (.ref b), .val (.double dn), .second, .val (.ref a), .val (.ref r)] [(.double d1)])) (ldDS X47 hx hZ hk47 V_b (v := (.double d1)) (j := (1 : Int32)) 1 (by decide) rfl (g := (mkF m 161 #[.val (.int x0), .val (.int x1), .val (.int x2), .val (.int x3), .val (.int x4), .val (.double d0), .second, .val (.double d1), .second, .val (.double d2), .second, .val (.ref b), .val (.double dn), .second, .val (.ref a), .val (.ref r)] [(.int (1 : Int32)), (.ref b)])) rfl rfl (hb hby at_161)) ?_
    refine Goes.by (T' := T47) (g' := (mkF m 164 #[.val (.int x0), .val (.int x1), .val (.int x2), .val (.int x3), .val (.int x4), .val (.double d0), .second, .val (.double d1), .second, .val (.double d2), .second, .val (.ref b), .val (.double dn), .second, .val (.ref a), .val (.ref r)] [(.double d1), (.double d1)])) (fun _ k => XS.dload X47.here hx rfl (hb hby at_162) rfl k) ?_
    refine Goes.by (T' := T47) (g' := (mkF m 165 #[.val (.int x0), .val (.int x1), .val (.int x2), .val (.int x3), .val (.int x4), .val (.double d0), .second, .val (.double d1), .second, .val (.double d2), .second, .val (.ref b), .val (.double dn), .second, .val (.ref a), .val (.ref r)] [(.int (0 : Int32))])) (fun _ k => XS.dcmpS X47.here hx rfl (hb hby at_164) rfl (dcmpV_self (DInt_nn I1) _) k) ?_
    refine Goes.by (T' := T47) (g' := (mkF m 168 #[.val (.int x0), .val (.int x1), .val (.int x2), .val (.int x3), .val (.int x4), .val (.double d0), .second, .val (.double d1), .second, .val (.double d2), .second, .val (.ref b), .val (.double dn), .second, .val (.ref a), .val (.ref r)] [])) (fun _ k => XS.ifNo X47.here hx rfl (hb hby at_165) rfl (by decide) k) ?_
    refine Goes.by (T' := T47) (g' := (mkF m 170 #[.val (.int x0), .val (.int x1), .val (.int x2), .val (.int x3), .val (.int x4), .val (.double d0), .second, .val (.double d1), .second, .val (.double d2), .second, .val (.ref b), .val (.double dn), .second, .val (.ref a), .val (.ref r)] [(.ref b)])) (fun _ k => XS.aload X47.here hx rfl (hb hby at_168) rfl rfl k) ?_
    refine Goes.by (T' := T47) (g' := (mkF m 171 #[.val (.int x0), .val (.int x1), .val (.int x2), .val (.int x3), .val (.int x4), .val (.double d0), .second, .val (.double d1), .second, .val (.double d2), .second, .val (.ref b), .val (.double dn), .second, .val (.ref a), .val (.ref r)] [(.int (2 : Int32)), (.ref b)])) (fun _ k => XS.iconst X47.here hx rfl (hb hby at_170)  k) ?_
    refine Goes.by (T' := T47) (g' := (mkF m 172 #[.val (.int x0), .val (.int x1), .val (.int x2), .val (.int x3), .val (.int x4), .val (.double d0), .second, .val (.double d1), .second, .val (.double d2), .second, .val (.ref b), .val (.double dn), .second, .val (.ref a), .val (.ref r)] [(.double d2)])) (ldDS X47 hx hZ hk47 V_b (v := (.double d2)) (j := (2 : Int32)) 2 (by decide) rfl (g := (mkF m 171 #[.val (.int x0), .val (.int x1), .val (.int x2), .val (.int x3), .val (.int x4), .val (.double d0), .second, .val (.double d1), .second, .val (.double d2), .second, .val (.ref b), .val (.double dn), .second, .val (.ref a), .val (.ref r)] [(.int (2 : Int32)), (.ref b)])) rfl rfl (hb hby at_171)) ?_
    refine Goes.by (T' := T47) (g' := (mkF m 174 #[.val (.int x0), .val (.int x1), .val (.int x2), .val (.int x3), .val (.int x4), .val (.double d0), .second, .val (.double d1), .second, .val (.double d2), .second, .val (.ref b), .val (.double dn), .second, .val (.ref a), .val (.ref r)] [(.double d2), (.double d2)])) (fun _ k => XS.dload X47.here hx rfl (hb hby at_172) rfl k) ?_
    refine Goes.by (T' := T47) (g' := (mkF m 175 #[.val (.int x0), .val (.int x1), .val (.int x2), .val (.int x3), .val (.int x4), .val (.double d0), .second, .val (.double d1), .second, .val (.double d2), .second, .val (.ref b), .val (.double dn), .second, .val (.ref a), .val (.ref r)] [(.int (0 : Int32))])) (fun _ k => XS.dcmpS X47.here hx rfl (hb hby at_174) rfl (dcmpV_self (DInt_nn I2) _) k) ?_
    refine Goes.by (T' := T47) (g' := (mkF m 178 #[.val (.int x0), .val (.int x1), .val (.int x2), .val (.int x3), .val (.int x4), .val (.double d0), .second, .val (.double d1), .second, .val (.double d2), .second, .val (.ref b), .val (.double dn), .second, .val (.ref a), .val (.ref r)] [])) (fun _ k => XS.ifNo X47.here hx rfl (hb hby at_175) rfl (by decide) k) ?_
    refine Goes.by (T' := T47) (g' := (mkF m 179 #[.val (.int x0), .val (.int x1), .val (.int x2), .val (.int x3), .val (.int x4), .val (.double d0), .second, .val (.double d1), .second, .val (.double d2), .second, .val (.ref b), .val (.double dn), .second, .val (.ref a), .val (.ref r)] [(.int (1 : Int32))])) (fun _ k => XS.iconst X47.here hx rfl (hb hby at_178)  k) ?_
    refine Goes.by (T' := T47) (g' := (mkF m 183 #[.val (.int x0), .val (.int x1), .val (.int x2), .val (.int x3), .val (.int x4), .val (.double d0), .second, .val (.double d1), .second, .val (.double d2), .second, .val (.ref b), .val (.double dn), .second, .val (.ref a), .val (.ref r)] [(.int (1 : Int32))])) (fun _ k => XS.goto X47.here hx rfl (pc0 := 179) (pc' := 183) rfl (hb hby at_179) (by decide) (by decide) k) ?_
    exact outZ X47 hx hlk hret (hb hby at_183) (by exact ⟨rfl, N0⟩) (by decide) (by decide)
  refine Goes.by (T' := s₁) (g' := (mkF m 2 #[.val (.int x0), .val (.int x1), .val (.int x2), .val (.int x3), .val (.int x4), .unset, .unset, .unset, .unset, .unset, .unset, .unset, .unset, .unset, .unset, .unset] [(.int x4)])) (fun _ k => XS.iload X0.here hx rfl (hb hby at_0) rfl k) ?_
  refine Goes.by (T' := s₁) (g' := (mkF m 3 #[.val (.int x0), .val (.int x1), .val (.int x2), .val (.int x3), .val (.int x4), .unset, .unset, .unset, .unset, .unset, .unset, .unset, .unset, .unset, .unset, .unset] [(.int (1 : Int32)), (.int x4)])) (fun _ k => XS.iconst X0.here hx rfl (hb hby at_2)  k) ?_
  refine Goes.by (T' := s₁) (g' := (mkF m 4 #[.val (.int x0), .val (.int x1), .val (.int x2), .val (.int x3), .val (.int x4), .unset, .unset, .unset, .unset, .unset, .unset, .unset, .unset, .unset, .unset, .unset] [(.int (x4 &&& (1 : Int32)))])) (fun _ k => XS.iand X0.here hx rfl (hb hby at_3) rfl k) ?_
  by_cases hf0 : (x4 &&& (1 : Int32)) = (0 : Int32)
  · refine Goes.by (T' := s₁) (g' := (mkF m 11 #[.val (.int x0), .val (.int x1), .val (.int x2), .val (.int x3), .val (.int x4), .unset, .unset, .unset, .unset, .unset, .unset, .unset, .unset, .unset, .unset, .unset] [])) (fun _ k => XS.ifYes X0.here hx rfl (pc0 := 4) (pc' := 11) rfl (hb hby at_4) rfl ((if0 _ _).trans (teq hf0).1) (by decide) (by decide) k) ?_
    refine Goes.by (T' := s₁) (g' := (mkF m 12 #[.val (.int x0), .val (.int x1), .val (.int x2), .val (.int x3), .val (.int x4), .unset, .unset, .unset, .unset, .unset, .unset, .unset, .unset, .unset, .unset, .unset] [(.int x1)])) (fun _ k => XS.iloadN X0.here hx rfl (hb hby at_11) rfl k) ?_
    obtain ⟨c0, q_c0⟩ : ∃ zz, FP.i2d x1 = zz := ⟨_, rfl⟩
    refine Goes.by (T' := s₁) (g' := (mkF m 13 #[.val (.int x0), .val (.int x1), .val (.int x2), .val (.int x3), .val (.int x4), .unset, .unset, .unset, .unset, .unset, .unset, .unset, .unset, .unset, .unset, .unset] [(.double c0)])) (fun _ k => XS.i2dS X0.here hx rfl (hb hby at_12) rfl q_c0 k) ?_
    refine Goes.by (T' := s₁) (g' := (mkF m 15 #[.val (.int x0), .val (.int x1), .val (.int x2), .val (.int x3), .val (.int x4), .val (.double c0), .second, .unset, .unset, .unset, .unset, .unset, .unset, .unset, .unset, .unset] [])) (fun _ k => XS.dstore X0.here hx rfl (hb hby at_13) rfl (l' := #[.val (.int x0), .val (.int x1), .val (.int x2), .val (.int x3), .val (.int x4), .val (.double c0), .second, .unset, .unset, .unset, .unset, .unset, .unset, .unset, .unset, .unset]) rfl k) ?_
    refine Goes.by (T' := s₁) (g' := (mkF m 17 #[.val (.int x0), .val (.int x1), .val (.int x2), .val (.int x3), .val (.int x4), .val (.double c0), .second, .unset, .unset, .unset, .unset, .unset, .unset, .unset, .unset, .unset] [(.int x4)])) (fun _ k => XS.iload X0.here hx rfl (hb hby at_15) rfl k) ?_
    refine Goes.by (T' := s₁) (g' := (mkF m 18 #[.val (.int x0), .val (.int x1), .val (.int x2), .val (.int x3), .val (.int x4), .val (.double c0), .second, .unset, .unset, .unset, .unset, .unset, .unset, .unset, .unset, .unset] [(.int (2 : Int32)), (.int x4)])) (fun _ k => XS.iconst X0.here hx rfl (hb hby at_17)  k) ?_
    refine Goes.by (T' := s₁) (g' := (mkF m 19 #[.val (.int x0), .val (.int x1), .val (.int x2), .val (.int x3), .val (.int x4), .val (.double c0), .second, .unset, .unset, .unset, .unset, .unset, .unset, .unset, .unset, .unset] [(.int (x4 &&& (2 : Int32)))])) (fun _ k => XS.iand X0.here hx rfl (hb hby at_18) rfl k) ?_
    by_cases hf1 : (x4 &&& (2 : Int32)) = (0 : Int32)
    · refine Goes.by (T' := s₁) (g' := (mkF m 26 #[.val (.int x0), .val (.int x1), .val (.int x2), .val (.int x3), .val (.int x4), .val (.double c0), .second, .unset, .unset, .unset, .unset, .unset, .unset, .unset, .unset, .unset] [])) (fun _ k => XS.ifYes X0.here hx rfl (pc0 := 19) (pc' := 26) rfl (hb hby at_19) rfl ((if0 _ _).trans (teq hf1).1) (by decide) (by decide) k) ?_
      refine Goes.by (T' := s₁) (g' := (mkF m 27 #[.val (.int x0), .val (.int x1), .val (.int x2), .val (.int x3), .val (.int x4), .val (.double c0), .second, .unset, .unset, .unset, .unset, .unset, .unset, .unset, .unset, .unset] [(.int x2)])) (fun _ k => XS.iloadN X0.here hx rfl (hb hby at_26) rfl k) ?_
      obtain ⟨c1, q_c1⟩ : ∃ zz, FP.i2d x2 = zz := ⟨_, rfl⟩
      refine Goes.by (T' := s₁) (g' := (mkF m 28 #[.val (.int x0), .val (.int x1), .val (.int x2), .val (.int x3), .val (.int x4), .val (.double c0), .second, .unset, .unset, .unset, .unset, .unset, .unset, .unset, .unset, .unset] [(.double c1)])) (fun _ k => XS.i2dS X0.here hx rfl (hb hby at_27) rfl q_c1 k) ?_
      refine Goes.by (T' := s₁) (g' := (mkF m 30 #[.val (.int x0), .val (.int x1), .val (.int x2), .val (.int x3), .val (.int x4), .val (.double c0), .second, .val (.double c1), .second, .unset, .unset, .unset, .unset, .unset, .unset, .unset] [])) (fun _ k => XS.dstore X0.here hx rfl (hb hby at_28) rfl (l' := #[.val (.int x0), .val (.int x1), .val (.int x2), .val (.int x3), .val (.int x4), .val (.double c0), .second, .val (.double c1), .second, .unset, .unset, .unset, .unset, .unset, .unset, .unset]) rfl k) ?_
      refine Goes.by (T' := s₁) (g' := (mkF m 32 #[.val (.int x0), .val (.int x1), .val (.int x2), .val (.int x3), .val (.int x4), .val (.double c0), .second, .val (.double c1), .second, .unset, .unset, .unset, .unset, .unset, .unset, .unset] [(.int x4)])) (fun _ k => XS.iload X0.here hx rfl (hb hby at_30) rfl k) ?_
      refine Goes.by (T' := s₁) (g' := (mkF m 33 #[.val (.int x0), .val (.int x1), .val (.int x2), .val (.int x3), .val (.int x4), .val (.double c0), .second, .val (.double c1), .second, .unset, .unset, .unset, .unset, .unset, .unset, .unset] [(.int (4 : Int32)), (.int x4)])) (fun _ k => XS.iconst X0.here hx rfl (hb hby at_32)  k) ?_
      refine Goes.by (T' := s₁) (g' := (mkF m 34 #[.val (.int x0), .val (.int x1), .val (.int x2), .val (.int x3), .val (.int x4), .val (.double c0), .second, .val (.double c1), .second, .unset, .unset, .unset, .unset, .unset, .unset, .unset] [(.int (x4 &&& (4 : Int32)))])) (fun _ k => XS.iand X0.here hx rfl (hb hby at_33) rfl k) ?_
      by_cases hf2 : (x4 &&& (4 : Int32)) = (0 : Int32)
      · refine Goes.by (T' := s₁) (g' := (mkF m 41 #[.val (.int x0), .val (.int x1), .val (.int x2), .val (.int x3), .val (.int x4), .val (.double c0), .second, .val (.double c1), .second, .unset, .unset, .unset, .unset, .unset, .unset, .unset] [])) (fun _ k => XS.ifYes X0.here hx rfl (pc0 := 34) (pc' := 41) rfl (hb hby at_34) rfl ((if0 _ _).trans (teq hf2).1) (by decide) (by decide) k) ?_
        refine Goes.by (T' := s₁) (g' := (mkF m 42 #[.val (.int x0), .val (.int x1), .val (.int x2), .val (.int x3), .val (.int x4), .val (.double c0), .second, .val (.double c1), .second, .unset, .unset, .unset, .unset, .unset, .unset, .unset] [(.int x3)])) (fun _ k => XS.iloadN X0.here hx rfl (hb hby at_41) rfl k) ?_
        obtain ⟨c2, q_c2⟩ : ∃ zz, FP.i2d x3 = zz := ⟨_, rfl⟩
        refine Goes.by (T' := s₁) (g' := (mkF m 43 #[.val (.int x0), .val (.int x1), .val (.int x2), .val (.int x3), .val (.int x4), .val (.double c0), .second, .val (.double c1), .second, .unset, .unset, .unset, .unset, .unset, .unset, .unset] [(.double c2)])) (fun _ k => XS.i2dS X0.here hx rfl (hb hby at_42) rfl q_c2 k) ?_
        refine Goes.by (T' := s₁) (g' := (mkF m 45 #[.val (.int x0), .val (.int x1), .val (.int x2), .val (.int x3), .val (.int x4), .val (.double c0), .second, .val (.double c1), .second, .val (.double c2), .second, .unset, .unset, .unset, .unset, .unset] [])) (fun _ k => XS.dstore X0.here hx rfl (hb hby at_43) rfl (l' := #[.val (.int x0), .val (.int x1), .val (.int x2), .val (.int x3), .val (.int x4), .val (.double c0), .second, .val (.double c1), .second, .val (.double c2), .second, .unset, .unset, .unset, .unset, .unset]) rfl k) ?_
        exact rest c0 c1 c2 x1.toInt x2.toInt x3.toInt (DInt_i2d q_c0) (DInt_i2d q_c1) (DInt_i2d q_c2)
      · refine Goes.by (T' := s₁) (g' := (mkF m 37 #[.val (.int x0), .val (.int x1), .val (.int x2), .val (.int x3), .val (.int x4), .val (.double c0), .second, .val (.double c1), .second, .unset, .unset, .unset, .unset, .unset, .unset, .unset] [])) (fun _ k => XS.ifNo X0.here hx rfl (hb hby at_34) rfl ((if0 _ _).trans (feq hf2).1) k) ?_
        refine Goes.by (T' := s₁) (g' := (mkF m 38 #[.val (.int x0), .val (.int x1), .val (.int x2), .val (.int x3), .val (.int x4), .val (.double c0), .second, .val (.double c1), .second, .unset, .unset, .unset, .unset, .unset, .unset, .unset] [(.double (0 : UInt64))])) (fun _ k => XS.dconst0 X0.here hx rfl (hb hby at_37) rfl k) ?_
        refine Goes.by (T' := s₁) (g' := (mkF m 43 #[.val (.int x0), .val (.int x1), .val (.int x2), .val (.int x3), .val (.int x4), .val (.double c0), .second, .val (.double c1), .second, .unset, .unset, .unset, .unset, .unset, .unset, .unset] [(.double (0 : UInt64))])) (fun _ k => XS.goto X0.here hx rfl (pc0 := 38) (pc' := 43) rfl (hb hby at_38) (by decide) (by decide) k) ?_
        refine Goes.by (T' := s₁) (g' := (mkF m 45 #[.val (.int x0), .val (.int x1), .val (.int x2), .val (.int x3), .val (.int x4), .val (.double c0), .second, .val (.double c1), .second, .val (.double (0 : UInt64)), .second, .unset, .unset, .unset, .unset, .unset] [])) (fun _ k => XS.dstore X0.here hx rfl (hb hby at_43) rfl (l' := #[.val (.int x0), .val (.int x1), .val (.int x2), .val (.int x3), .val (.int x4), .val (.double c0), .second, .val (.double c1), .second, .val (.double (0 : UInt64)), .second, .unset, .unset, .unset, .unset, .unset]) rfl k) ?_
        exact rest c0 c1 (0 : UInt64) x1.toInt x2.toInt 0 (DInt_i2d q_c0) (DInt_i2d q_c1) DInt_zero
    · refine Goes.by (T' := s₁) (g' := (mkF m 22 #[.val (.int x0), .val (.int x1), .val (.int x2), .val (.int x3), .val (.int x4), .val (.double c0), .second, .unset, .unset, .unset, .unset, .unset, .unset, .unset, .unset, .unset] [])) (fun _ k => XS.ifNo X0.here hx rfl (hb hby at_19) rfl ((if0 _ _).trans (feq hf1).1) k) ?_
      refine Goes.by (T' := s₁) (g' := (mkF m 23 #[.val (.int x0), .val (.int x1), .val (.int x2), .val (.int x3), .val (.int x4), .val (.double c0), .second, .unset, .unset, .unset, .unset, .unset, .unset, .unset, .unset, .unset] [(.double (0 : UInt64))])) (fun _ k => XS.dconst0 X0.here hx rfl (hb hby at_22) rfl k) ?_
      refine Goes.by (T' := s₁) (g' := (mkF m 28 #[.val (.int x0), .val (.int x1), .val (.int x2), .val (.int x3), .val (.int x4), .val (.double c0), .second, .unset, .unset, .unset, .unset, .unset, .unset, .unset, .unset, .unset] [(.double (0 : UInt64))])) (fun _ k => XS.goto X0.here hx rfl (pc0 := 23) (pc' := 28) rfl (hb hby at_23) (by decide) (by decide) k) ?_
      refine Goes.by (T' := s₁) (g' := (mkF m 30 #[.val (.int x0), .val (.int x1), .val (.int x2), .val (.int x3), .val (.int x4), .val (.double c0), .second, .val (.double (0 : UInt64)), .second, .unset, .unset, .unset, .unset, .unset, .unset, .unset] [])) (fun _ k => XS.dstore X0.here hx rfl (hb hby at_28) rfl (l' := #[.val (.int x0), .val (.int x1), .val (.int x2), .val (.int x3), .val (.int x4), .val (.double c0), .second, .val (.double (0 : UInt64)), .second, .unset, .unset, .unset, .unset, .unset, .unset, .unset]) rfl k) ?_
      refine Goes.by (T' := s₁) (g' := (mkF m 32 #[.val (.int x0), .val (.int x1), .val (.int x2), .val (.int x3), .val (.int x4), .val (.double c0), .second, .val (.double (0 : UInt64)), .second, .unset, .unset, .unset, .unset, .unset, .unset, .unset] [(.int x4)])) (fun _ k => XS.iload X0.here hx rfl (hb hby at_30) rfl k) ?_
      refine Goes.by (T' := s₁) (g' := (mkF m 33 #[.val (.int x0), .val (.int x1), .val (.int x2), .val (.int x3), .val (.int x4), .val (.double c0), .second, .val (.double (0 : UInt64)), .second, .unset, .unset, .unset, .unset, .unset, .unset, .unset] [(.int (4 : Int32)), (.int x4)])) (fun _ k => XS.iconst X0.here hx rfl (hb hby at_32)  k) ?_
      refine Goes.by (T' := s₁) (g' := (mkF m 34 #[.val (.int x0), .val (.int x1), .val (.int x2), .val (.int x3), .val (.int x4), .val (.double c0), .second, .val (.double (0 : UInt64)), .second, .unset, .unset, .unset, .unset, .unset, .unset, .unset] [(.int (x4 &&& (4 : Int32)))])) (fun _ k => XS.iand X0.here hx rfl (hb hby at_33) rfl k) ?_
      by_cases hf2 : (x4 &&& (4 : Int32)) = (0 : Int32)
      · refine Goes.by (T' := s₁) (g' := (mkF m 41 #[.val (.int x0), .val (.int x1), .val (.int x2), .val (.int x3), .val (.int x4), .val (.double c0), .second, .val (.double (0 : UInt64)), .second, .unset, .unset, .unset, .unset, .unset, .unset, .unset] [])) (fun _ k => XS.ifYes X0.here hx rfl (pc0 := 34) (pc' := 41) rfl (hb hby at_34) rfl ((if0 _ _).trans (teq hf2).1) (by decide) (by decide) k) ?_
        refine Goes.by (T' := s₁) (g' := (mkF m 42 #[.val (.int x0), .val (.int x1), .val (.int x2), .val (.int x3), .val (.int x4), .val (.double c0), .second, .val (.double (0 : UInt64)), .second, .unset, .unset, .unset, .unset, .unset, .unset, .unset] [(.int x3)])) (fun _ k => XS.iloadN X0.here hx rfl (hb hby at_41) rfl k) ?_
        obtain ⟨c2, q_c2⟩ : ∃ zz, FP.i2d x3 = zz := ⟨_, rfl⟩
        refine Goes.by (T' := s₁) (g' := (mkF m 43 #[.val (.int x0), .val (.int x1), .val (.int x2), .val (.int x3), .val (.int x4), .val (.double c0), .second, .val (.double (0 : UInt64)), .second, .unset, .unset, .unset, .unset, .unset, .unset, .unset] [(.double c2)])) (fun _ k => XS.i2dS X0.here hx rfl (hb hby at_42) rfl q_c2 k) ?_
        refine Goes.by (T' := s₁) (g' := (mkF m 45 #[.val (.int x0), .val (.int x1), .val (.int x2), .val (.int x3), .val (.int x4), .val (.double c0), .second, .val (.double (0 : UInt64)), .second, .val (.double c2), .second, .unset, .unset, .unset, .unset, .unset] [])) (fun _ k => XS.dstore X0.here hx rfl (hb hby at_43) rfl (l' := #[.val (.int x0), .val (.int x1), .val (.int x2), .val (.int x3), .val (.int x4), .val (.double c0), .second, .val (.double (0 : UInt64)), .second, .val (.double c2), .second, .unset, .unset, .unset, .unset, .unset]) rfl k) ?_
        exact rest c0 (0 : UInt64) c2 x1.toInt 0 x3.toInt (DInt_i2d q_c0) DInt_zero (DInt_i2d q_c2)
      · refine Goes.by (T' := s₁) (g' := (mkF m 37 #[.val (.int x0), .val (.int x1), .val (.int x2), .val (.int x3), .val (.int x4), .val (.double c0), .second, .val (.double (0 : UInt64)), .second, .unset, .unset, .unset, .unset, .unset, .unset, .unset] [])) (fun _ k => XS.ifNo X0.here hx rfl (hb hby at_34) rfl ((if0 _ _).trans (feq hf2).1) k) ?_
        refine Goes.by (T' := s₁) (g' := (mkF m 38 #[.val (.int x0), .val (.int x1), .val (.int x2), .val (.int x3), .val (.int x4), .val (.double c0), .second, .val (.double (0 : UInt64)), .second, .unset, .unset, .unset, .unset, .unset, .unset, .unset] [(.double (0 : UInt64))])) (fun _ k => XS.dconst0 X0.here hx rfl (hb hby at_37) rfl k) ?_
        refine Goes.by (T' := s₁) (g' := (mkF m 43 #[.val (.int x0), .val (.int x1), .val (.int x2), .val (.int x3), .val (.int x4), .val (.double c0), .second, .val (.double (0 : UInt64)), .second, .unset, .unset, .unset, .unset, .unset, .unset, .unset] [(.double (0 : UInt64))])) (fun _ k => XS.goto X0.here hx rfl (pc0 := 38) (pc' := 43) rfl (hb hby at_38) (by decide) (by decide) k) ?_
        refine Goes.by (T' := s₁) (g' := (mkF m 45 #[.val (.int x0), .val (.int x1), .val (.int x2), .val (.int x3), .val (.int x4), .val (.double c0), .second, .val (.double (0 : UInt64)), .second, .val (.double (0 : UInt64)), .second, .unset, .unset, .unset, .unset, .unset] [])) (fun _ k => XS.dstore X0.here hx rfl (hb hby at_43) rfl (l' := #[.val (.int x0), .val (.int x1), .val (.int x2), .val (.int x3), .val (.int x4), .val (.double c0), .second, .val (.double (0 : UInt64)), .second, .val (.double (0 : UInt64)), .second, .unset, .unset, .unset, .unset, .unset]) rfl k) ?_
        exact rest c0 (0 : UInt64) (0 : UInt64) x1.toInt 0 0 (DInt_i2d q_c0) DInt_zero DInt_zero
  · refine Goes.by (T' := s₁) (g' := (mkF m 7 #[.val (.int x0), .val (.int x1), .val (.int x2), .val (.int x3), .val (.int x4), .unset, .unset, .unset, .unset, .unset, .unset, .unset, .unset, .unset, .unset, .unset] [])) (fun _ k => XS.ifNo X0.here hx rfl (hb hby at_4) rfl ((if0 _ _).trans (feq hf0).1) k) ?_
    refine Goes.by (T' := s₁) (g' := (mkF m 8 #[.val (.int x0), .val (.int x1), .val (.int x2), .val (.int x3), .val (.int x4), .unset, .unset, .unset, .unset, .unset, .unset, .unset, .unset, .unset, .unset, .unset] [(.double (0 : UInt64))])) (fun _ k => XS.dconst0 X0.here hx rfl (hb hby at_7) rfl k) ?_
    refine Goes.by (T' := s₁) (g' := (mkF m 13 #[.val (.int x0), .val (.int x1), .val (.int x2), .val (.int x3), .val (.int x4), .unset, .unset, .unset, .unset, .unset, .unset, .unset, .unset, .unset, .unset, .unset] [(.double (0 : UInt64))])) (fun _ k => XS.goto X0.here hx rfl (pc0 := 8) (pc' := 13) rfl (hb hby at_8) (by decide) (by decide) k) ?_
    refine Goes.by (T' := s₁) (g' := (mkF m 15 #[.val (.int x0), .val (.int x1), .val (.int x2), .val (.int x3), .val (.int x4), .val (.double (0 : UInt64)), .second, .unset, .unset, .unset, .unset, .unset, .unset, .unset, .unset, .unset] [])) (fun _ k => XS.dstore X0.here hx rfl (hb hby at_13) rfl (l' := #[.val (.int x0), .val (.int x1), .val (.int x2), .val (.int x3), .val (.int x4), .val (.double (0 : UInt64)), .second, .unset, .unset, .unset, .unset, .unset, .unset, .unset, .unset, .unset]) rfl k) ?_
    refine Goes.by (T' := s₁) (g' := (mkF m 17 #[.val (.int x0), .val (.int x1), .val (.int x2), .val (.int x3), .val (.int x4), .val (.double (0 : UInt64)), .second, .unset, .unset, .unset, .unset, .unset, .unset, .unset, .unset, .unset] [(.int x4)])) (fun _ k => XS.iload X0.here hx rfl (hb hby at_15) rfl k) ?_
    refine Goes.by (T' := s₁) (g' := (mkF m 18 #[.val (.int x0), .val (.int x1), .val (.int x2), .val (.int x3), .val (.int x4), .val (.double (0 : UInt64)), .second, .unset, .unset, .unset, .unset, .unset, .unset, .unset, .unset, .unset] [(.int (2 : Int32)), (.int x4)])) (fun _ k => XS.iconst X0.here hx rfl (hb hby at_17)  k) ?_
    refine Goes.by (T' := s₁) (g' := (mkF m 19 #[.val (.int x0), .val (.int x1), .val (.int x2), .val (.int x3), .val (.int x4), .val (.double (0 : UInt64)), .second, .unset, .unset, .unset, .unset, .unset, .unset, .unset, .unset, .unset] [(.int (x4 &&& (2 : Int32)))])) (fun _ k => XS.iand X0.here hx rfl (hb hby at_18) rfl k) ?_
    by_cases hf1 : (x4 &&& (2 : Int32)) = (0 : Int32)
    · refine Goes.by (T' := s₁) (g' := (mkF m 26 #[.val (.int x0), .val (.int x1), .val (.int x2), .val (.int x3), .val (.int x4), .val (.double (0 : UInt64)), .second, .unset, .unset, .unset, .unset, .unset, .unset, .unset, .unset, .unset] [])) (fun _ k => XS.ifYes X0.here hx rfl (pc0 := 19) (pc' := 26) rfl (hb hby at_19) rfl ((if0 _ _).trans (teq hf1).1) (by decide) (by decide) k) ?_
      refine Goes.by (T' := s₁) (g' := (mkF m 27 #[.val (.int x0), .val (.int x1), .val (.int x2), .val (.int x3), .val (.int x4), .val (.double (0 : UInt64)), .second, .unset, .unset, .unset, .unset, .unset, .unset, .unset, .unset, .unset] [(.int x2)])) (fun _ k => XS.iloadN X0.here hx rfl (hb hby at_26) rfl k) ?_
      obtain ⟨c1, q_c1⟩ : ∃ zz, FP.i2d x2 = zz := ⟨_, rfl⟩
      refine Goes.by (T' := s₁) (g' := (mkF m 28 #[.val (.int x0), .val (.int x1), .val (.int x2), .val (.int x3), .val (.int x4), .val (.double (0 : UInt64)), .second, .unset, .unset, .unset, .unset, .unset, .unset, .unset, .unset, .unset] [(.double c1)])) (fun _ k => XS.i2dS X0.here hx rfl (hb hby at_27) rfl q_c1 k) ?_
      refine Goes.by (T' := s₁) (g' := (mkF m 30 #[.val (.int x0), .val (.int x1), .val (.int x2), .val (.int x3), .val (.int x4), .val (.double (0 : UInt64)), .second, .val (.double c1), .second, .unset, .unset, .unset, .unset, .unset, .unset, .unset] [])) (fun _ k => XS.dstore X0.here hx rfl (hb hby at_28) rfl (l' := #[.val (.int x0), .val (.int x1), .val (.int x2), .val (.int x3), .val (.int x4), .val (.double (0 : UInt64)), .second, .val (.double c1), .second, .unset, .unset, .unset, .unset, .unset, .unset, .unset]) rfl k) ?_
      refine Goes.by (T' := s₁) (g' := (mkF m 32 #[.val (.int x0), .val (.int x1), .val (.int x2), .val (.int x3), .val (.int x4), .val (.double (0 : UInt64)), .second, .val (.double c1), .second, .unset, .unset, .unset, .unset, .unset, .unset, .unset] [(.int x4)])) (fun _ k => XS.iload X0.here hx rfl (hb hby at_30) rfl k) ?_
      refine Goes.by (T' := s₁) (g' := (mkF m 33 #[.val (.int x0), .val (.int x1), .val (.int x2), .val (.int x3), .val (.int x4), .val (.double (0 : UInt64)), .second, .val (.double c1), .second, .unset, .unset, .unset, .unset, .unset, .unset, .unset] [(.int (4 : Int32)), (.int x4)])) (fun _ k => XS.iconst X0.here hx rfl (hb hby at_32)  k) ?_
      refine Goes.by (T' := s₁) (g' := (mkF m 34 #[.val (.int x0), .val (.int x1), .val (.int x2), .val (.int x3), .val (.int x4), .val (.double (0 : UInt64)), .second, .val (.double c1), .second, .unset, .unset, .unset, .unset, .unset, .unset, .unset] [(.int (x4 &&& (4 : Int32)))])) (fun _ k => XS.iand X0.here hx rfl (hb hby at_33) rfl k) ?_
      by_cases hf2 : (x4 &&& (4 : Int32)) = (0 : Int32)
      · refine Goes.by (T' := s₁) (g' := (mkF m 41 #[.val (.int x0), .val (.int x1), .val (.int x2), .val (.int x3), .val (.int x4), .val (.double (0 : UInt64)), .second, .val (.double c1), .second, .unset, .unset, .unset, .unset, .unset, .unset, .unset] [])) (fun _ k => XS.ifYes X0.here hx rfl (pc0 := 34) (pc' := 41) rfl (hb hby at_34) rfl ((if0 _ _).trans (teq hf2).1) (by decide) (by decide) k) ?_
        refine Goes.by (T' := s₁) (g' := (mkF m 42 #[.val (.int x0), .val (.int x1), .val (.int x2), .val (.int x3), .val (.int x4), .val (.double (0 : UInt64)), .second, .val (.double c1), .second, .unset, .unset, .unset, .unset, .unset, .unset, .unset] [(.int x3)])) (fun _ k => XS.iloadN X0.here hx rfl (hb hby at_41) rfl k) ?_
        obtain ⟨c2, q_c2⟩ : ∃ zz, FP.i2d x3 = zz := ⟨_, rfl⟩
        refine Goes.by (T' := s₁) (g' := (mkF m 43 #[.val (.int x0), .val (.int x1), .val (.int x2), .val (.int x3), .val (.int x4), .val (.double (0 : UInt64)), .second, .val (.double c1), .second, .unset, .unset, .unset, .unset, .unset, .unset, .unset] [(.double c2)])) (fun _ k => XS.i2dS X0.here hx rfl (hb hby at_42) rfl q_c2 k) ?_
        refine Goes.by (T' := s₁) (g' := (mkF m 45 #[.val (.int x0), .val (.int x1), .val (.int x2), .val (.int x3), .val (.int x4), .val (.double (0 : UInt64)), .second, .val (.double c1), .second, .val (.double c2), .second, .unset, .unset, .unset, .unset, .unset] [])) (fun _ k => XS.dstore X0.here hx rfl (hb hby at_43) rfl (l' := #[.val (.int x0), .val (.int x1), .val (.int x2), .val (.int x3), .val (.int x4), .val (.double (0 : UInt64)), .second, .val (.double c1), .second, .val (.double c2), .second, .unset, .unset, .unset, .unset, .unset]) rfl k) ?_
        exact rest (0 : UInt64) c1 c2 0 x2.toInt x3.toInt DInt_zero (DInt_i2d q_c1) (DInt_i2d q_c2)
      · refine Goes.by (T' := s₁) (g' := (mkF m 37 #[.val (.int x0), .val (.int x1), .val (.int x2), .val (.int x3), .val (.int x4), .val (.double (0 : UInt64)), .second, .val (.double c1), .second, .unset, .unset, .unset, .unset, .unset, .unset, .unset] [])) (fun _ k => XS.ifNo X0.here hx rfl (hb hby at_34) rfl ((if0 _ _).trans (feq hf2).1) k) ?_
        refine Goes.by (T' := s₁) (g' := (mkF m 38 #[.val (.int x0), .val (.int x1), .val (.int x2), .val (.int x3), .val (.int x4), .val (.double (0 : UInt64)), .second, .val (.double c1), .second, .unset, .unset, .unset, .unset, .unset, .unset, .unset] [(.double (0 : UInt64))])) (fun _ k => XS.dconst0 X0.here hx rfl (hb hby at_37) rfl k) ?_
        refine Goes.by (T' := s₁) (g' := (mkF m 43 #[.val (.int x0), .val (.int x1), .val (.int x2), .val (.int x3), .val (.int x4), .val (.double (0 : UInt64)), .second, .val (.double c1), .second, .unset, .unset, .unset, .unset, .unset, .unset, .unset] [(.double (0 : UInt64))])) (fun _ k => XS.goto X0.here hx rfl (pc0 := 38) (pc' := 43) rfl (hb hby at_38) (by decide) (by decide) k) ?_
        refine Goes.by (T' := s₁) (g' := (mkF m 45 #[.val (.int x0), .val (.int x1), .val (.int x2), .val (.int x3), .val (.int x4), .val (.double (0 : UInt64)), .second, .val (.double c1), .second, .val (.double (0 : UInt64)), .second, .unset, .unset, .unset, .unset, .unset] [])) (fun _ k => XS.dstore X0.here hx rfl (hb hby at_43) rfl (l' := #[.val (.int x0), .val (.int x1), .val (.int x2), .val (.int x3), .val (.int x4), .val (.double (0 : UInt64)), .second, .val (.double c1), .second, .val (.double (0 : UInt64)), .second, .unset, .unset, .unset, .unset, .unset]) rfl k) ?_
        exact rest (0 : UInt64) c1 (0 : UInt64) 0 x2.toInt 0 DInt_zero (DInt_i2d q_c1) DInt_zero
    · refine Goes.by (T' := s₁) (g' := (mkF m 22 #[.val (.int x0), .val (.int x1), .val (.int x2), .val (.int x3), .val (.int x4), .val (.double (0 : UInt64)), .second, .unset, .unset, .unset, .unset, .unset, .unset, .unset, .unset, .unset] [])) (fun _ k => XS.ifNo X0.here hx rfl (hb hby at_19) rfl ((if0 _ _).trans (feq hf1).1) k) ?_
      refine Goes.by (T' := s₁) (g' := (mkF m 23 #[.val (.int x0), .val (.int x1), .val (.int x2), .val (.int x3), .val (.int x4), .val (.double (0 : UInt64)), .second, .unset, .unset, .unset, .unset, .unset, .unset, .unset, .unset, .unset] [(.double (0 : UInt64))])) (fun _ k => XS.dconst0 X0.here hx rfl (hb hby at_22) rfl k) ?_
      refine Goes.by (T' := s₁) (g' := (mkF m 28 #[.val (.int x0), .val (.int x1), .val (.int x2), .val (.int x3), .val (.int x4), .val (.double (0 : UInt64)), .second, .unset, .unset, .unset, .unset, .unset, .unset, .unset, .unset, .unset] [(.double (0 : UInt64))])) (fun _ k => XS.goto X0.here hx rfl (pc0 := 23) (pc' := 28) rfl (hb hby at_23) (by decide) (by decide) k) ?_
      refine Goes.by (T' := s₁) (g' := (mkF m 30 #[.val (.int x0), .val (.int x1), .val (.int x2), .val (.int x3), .val (.int x4), .val (.double (0 : UInt64)), .second, .val (.double (0 : UInt64)), .second, .unset, .unset, .unset, .unset, .unset, .unset, .unset] [])) (fun _ k => XS.dstore X0.here hx rfl (hb hby at_28) rfl (l' := #[.val (.int x0), .val (.int x1), .val (.int x2), .val (.int x3), .val (.int x4), .val (.double (0 : UInt64)), .second, .val (.double (0 : UInt64)), .second, .unset, .unset, .unset, .unset, .unset, .unset, .unset]) rfl k) ?_
      refine Goes.by (T' := s₁) (g' := (mkF m 32 #[.val (.int x0), .val (.int x1), .val (.int x2), .val (.int x3), .val (.int x4), .val (.double (0 : UInt64)), .second, .val (.double (0 : UInt64)), .second, .unset, .unset, .unset, .unset, .unset, .unset, .unset] [(.int x4)])) (fun _ k => XS.iload X0.here hx rfl (hb hby at_30) rfl k) ?_
      refine Goes.by (T' := s₁) (g' := (mkF m 33 #[.val (.int x0), .val (.int x1), .val (.int x2), .val (.int x3), .val (.int x4), .val (.double (0 : UInt64)), .second, .val (.double (0 : UInt64)), .second, .unset, .unset, .unset, .unset, .unset, .unset, .unset] [(.int (4 : Int32)), (.int x4)])) (fun _ k => XS.iconst X0.here hx rfl (hb hby at_32)  k) ?_
      refine Goes.by (T' := s₁) (g' := (mkF m 34 #[.val (.int x0), .val (.int x1), .val (.int x2), .val (.int x3), .val (.int x4), .val (.double (0 : UInt64)), .second, .val (.double (0 : UInt64)), .second, .unset, .unset, .unset, .unset, .unset, .unset, .unset] [(.int (x4 &&& (4 : Int32)))])) (fun _ k => XS.iand X0.here hx rfl (hb hby at_33) rfl k) ?_
      by_cases hf2 : (x4 &&& (4 : Int32)) = (0 : Int32)
      · refine Goes.by (T' := s₁) (g' := (mkF m 41 #[.val (.int x0), .val (.int x1), .val (.int x2), .val (.int x3), .val (.int x4), .val (.double (0 : UInt64)), .second, .val (.double (0 : UInt64)), .second, .unset, .unset, .unset, .unset, .unset, .unset, .unset] [])) (fun _ k => XS.ifYes X0.here hx rfl (pc0 := 34) (pc' := 41) rfl (hb hby at_34) rfl ((if0 _ _).trans (teq hf2).1) (by decide) (by decide) k) ?_
        refine Goes.by (T' := s₁) (g' := (mkF m 42 #[.val (.int x0), .val (.int x1), .val (.int x2), .val (.int x3), .val (.int x4), .val (.double (0 : UInt64)), .second, .val (.double (0 : UInt64)), .second, .unset, .unset, .unset, .unset, .unset, .unset, .unset] [(.int x3)])) (fun _ k => XS.iloadN X0.here hx rfl (hb hby at_41) rfl k) ?_
        obtain ⟨c2, q_c2⟩ : ∃ zz, FP.i2d x3 = zz := ⟨_, rfl⟩
        refine Goes.by (T' := s₁) (g' := (mkF m 43 #[.val (.int x0), .val (.int x1), .val (.int x2), .val (.int x3), .val (.int x4), .val (.double (0 : UInt64)), .second, .val (.double (0 : UInt64)), .second, .unset, .unset, .unset, .unset, .unset, .unset, .unset] [(.double c2)])) (fun _ k => XS.i2dS X0.here hx rfl (hb hby at_42) rfl q_c2 k) ?_
        refine Goes.by (T' := s₁) (g' := (mkF m 45 #[.val (.int x0), .val (.int x1), .val (.int x2), .val (.int x3), .val (.int x4), .val (.double (0 : UInt64)), .second, .val (.double (0 : UInt64)), .second, .val (.double c2), .second, .unset, .unset, .unset, .unset, .unset] [])) (fun _ k => XS.dstore X0.here hx rfl (hb hby at_43) rfl (l' := #[.val (.int x0), .val (.int x1), .val (.int x2), .val (.int x3), .val (.int x4), .val (.double (0 : UInt64)), .second, .val (.double (0 : UInt64)), .second, .val (.double c2), .second, .unset, .unset, .unset, .unset, .unset]) rfl k) ?_
        exact rest (0 : UInt64) (0 : UInt64) c2 0 0 x3.toInt DInt_zero DInt_zero (DInt_i2d q_c2)
      · refine Goes.by (T' := s₁) (g' := (mkF m 37 #[.val (.int x0), .val (.int x1), .val (.int x2), .val (.int x3), .val (.int x4), .val (.double (0 : UInt64)), .second, .val (.double (0 : UInt64)), .second, .unset, .unset, .unset, .unset, .unset, .unset, .unset] [])) (fun _ k => XS.ifNo X0.here hx rfl (hb hby at_34) rfl ((if0 _ _).trans (feq hf2).1) k) ?_
        refine Goes.by (T' := s₁) (g' := (mkF m 38 #[.val (.int x0), .val (.int x1), .val (.int x2), .val (.int x3), .val (.int x4), .val (.double (0 : UInt64)), .second, .val (.double (0 : UInt64)), .second, .unset, .unset, .unset, .unset, .unset, .unset, .unset] [(.double (0 : UInt64))])) (fun _ k => XS.dconst0 X0.here hx rfl (hb hby at_37) rfl k) ?_
        refine Goes.by (T' := s₁) (g' := (mkF m 43 #[.val (.int x0), .val (.int x1), .val (.int x2), .val (.int x3), .val (.int x4), .val (.double (0 : UInt64)), .second, .val (.double (0 : UInt64)), .second, .unset, .unset, .unset, .unset, .unset, .unset, .unset] [(.double (0 : UInt64))])) (fun _ k => XS.goto X0.here hx rfl (pc0 := 38) (pc' := 43) rfl (hb hby at_38) (by decide) (by decide) k) ?_
        refine Goes.by (T' := s₁) (g' := (mkF m 45 #[.val (.int x0), .val (.int x1), .val (.int x2), .val (.int x3), .val (.int x4), .val (.double (0 : UInt64)), .second, .val (.double (0 : UInt64)), .second, .val (.double (0 : UInt64)), .second, .unset, .unset, .unset, .unset, .unset] [])) (fun _ k => XS.dstore X0.here hx rfl (hb hby at_43) rfl (l' := #[.val (.int x0), .val (.int x1), .val (.int x2), .val (.int x3), .val (.int x4), .val (.double (0 : UInt64)), .second, .val (.double (0 : UInt64)), .second, .val (.double (0 : UInt64)), .second, .unset, .unset, .unset, .unset, .unset]) rfl k) ?_
        exact rest (0 : UInt64) (0 : UInt64) (0 : UInt64) 0 0 0 DInt_zero DInt_zero DInt_zero
set_option maxRecDepth 65536 in
set_option maxHeartbeats 40000000 in
theorem comes_1 {Post : Tables → Env → Array Value → State → Outcome → State → Prop} (hpost : ∀ tb e args s v u, (limb_1_1.after args s (.returned v) u = true ∧ limb_1_2.after args s (.returned v) u = true ∧ True) → FrameEnd s (.returned v) u (Jvm.fieldLocs frame_1_writes args s ++ Jvm.arrayLocs frame_1_arrays args s ++ Jvm.staticLocs frame_1_statics s) 16 128 → Post tb e args s (.returned v) u) :
    ArmFor flags0 classFile x code maxLocals ret World_1 tables_1 room_1 Calls_1 rest_1 Pre_1 Post := by
  intro l hfl _ _ p e ha hc hk s m args below hf hA hF happ hP
  obtain ⟨hcalls, hrest, hpre⟩ := hP
  obtain ⟨-, -, -, hnamed, -, -, -, hat⟩ := (Spec.applies_iff hf).mp happ
  obtain ⟨hg, hn⟩ := and_e (Cond.before_iff.mp (show (Jvm.Cond.and given_1 narrow_1).before args s = true from hpre))
  obtain ⟨g0, t0⟩ := and_e hg
  obtain ⟨g1, t1⟩ := and_e t0
  obtain ⟨g2, t2⟩ := and_e t1
  obtain ⟨g3, t3⟩ := and_e t2
  obtain ⟨g4, t4⟩ := and_e t3
  obtain ⟨w0, w1, w2, w3, w4, rfl⟩ : ∃ w0 w1 w2 w3 w4 : Value, args = #[w0, w1, w2, w3, w4] := by
    have hs : args.size = 5 := by simpa [Cond.value, given_1] using g0
    obtain ⟨L⟩ := args
    match L, hs with
    | [w0, w1, w2, w3, w4], _ => exact ⟨w0, w1, w2, w3, w4, rfl⟩
  have hw := fun d (hd : d ∈ tables_1) => atoms_spec (ws := Jvm.Cond.code x code maxLocals ret :: tables_1) hat d (List.mem_cons_of_mem _ hd)
  obtain ⟨i0, e0⟩ := is_v g1
  obtain rfl : w0 = (.int i0) := Option.some.inj e0
  obtain ⟨i1, e1⟩ := is_v g2
  obtain rfl : w1 = (.int i1) := Option.some.inj e1
  obtain ⟨i2, e2⟩ := is_v g3
  obtain rfl : w2 = (.int i2) := Option.some.inj e2
  obtain ⟨i3, e3⟩ := is_v g4
  obtain rfl : w3 = (.int i3) := Option.some.inj e3
  obtain ⟨i4, e4⟩ := is_v t4
  obtain rfl : w4 = (.int i4) := Option.some.inj e4
  obtain ⟨n, o, h1, h2, h3, _, L, rfl, ⟨rfl, N⟩, hq⟩ := rm_law l s _ hw i0 i1 i2 i3 i4 s.heap s.heap.size (Nat.le_refl _)  p e ha hc hk s m _ below hf ((Spec.applies_iff_loose hf).mp happ).1 ⟨rfl, State.Warmed39.refl s, rfl⟩ trivial
  refine ⟨n, _, h1, h2, h3, hpost _ _ _ _ _ _ ⟨Cond.after_iff.mpr rfl, Cond.after_iff.mpr (eq_i res_at (Term.int_eval (1)) rfl), trivial⟩ ⟨hq.1, hq.2.1, (hq.2.2.sift fun y hy => Or.inr (N y hy)).mono (by decide) (by decide)⟩⟩
theorem main_1_1 : Claimed_1_1 := comes_1 fun _ _ _ _ _ _ h hF => ⟨h.1, hF⟩
theorem main_1_2 : Claimed_1_2 := comes_1 fun _ _ _ _ _ _ h hF => ⟨h.2.1, hF⟩
end Jvm.Pilot.@@N@@
namespace Jvm.Pilot.@@N@@
open Jvm Jvm.ClassFile Sem Op Lib Jvm.Free Jvm.Stand Jvm.Pilot.@@N@@.Jvm.D
/-! MADE BY PROGRAM (witnessworld.py) out of the Statement's table words and the real class files: 10 classes; the members and pool entries that the words name. The judged class is class 1, her method 1. -/
namespace start1
open Jvm.ClassFile
def u (s : String) : CpInfo := .utf8 (stringToUtf16 s)
/-- a pool by its gaps: so many unusable entries, then the entry; so many at the end -/
def gap : Nat → List CpInfo → List CpInfo
  | 0, r => r
  | n + 1, r => .unusable :: gap n r
def poolList (es : List (Nat × CpInfo)) (last : Nat) : List CpInfo := es.foldr (fun e r => gap e.1 (e.2 :: r)) (gap last [])
def pool (es : List (Nat × CpInfo)) (last : Nat) : Array CpInfo := ⟨poolList es last⟩
def fileOf (pool : Array CpInfo) (this : Nat) (attrs : Array Attribute := #[]) (ms : Array MethodInfo := #[]) (fl : Nat := 33) (sup : Nat := 0) (ifs : Array Nat := #[]) (fds : Array FieldInfo := #[]) : ClassFile where
  minorVersion := 0
  majorVersion := 65
  constantPool := pool
  accessFlags := fl
  thisClass := this
  superClass := sup
  interfaces := ifs
  fields := fds
  methods := ms
  attributes := attrs
def plain (name : String) (sup : Option ClassId) : Class where
  name := name
  kind := .ordinary
  loader := none
  accessFlags := 33
  super := sup
  interfaces := #[]
  cf := none
  fields := #[]
  methods := #[]
  instanceTypes := #[]
  staticTypes := #[]
  resolved := #[]
  callSites := []
  init := .initialized
  statics := none
  mirror := none

def pool0 : Array CpInfo := pool [(5, u "<init>"), (0, u "()V"), (1, .class_ 10), (1, u "java/lang/Object")] 113

def k0c0 : Code := { maxStack := 0, maxLocals := 1, code := object_method_1_code, exceptionTable := #[], attributes := #[] }
def k0m0 : Method := { name := "<init>", desc := "()V", sig := { parameters := [], returnType := none }, accessFlags := 1, code := some k0c0 }
/-- java/lang/Object -/
def k0 : Class := { plain "java/lang/Object" none with
  accessFlags := 33
  interfaces := #[]
  cf := some (fileOf pool0 8 #[] #[{ accessFlags := 1, nameIndex := 5, descriptorIndex := 6, attributes := #[] }] 33 0 #[] #[])
  fields := #[]
  methods := #[k0m0]
  instanceTypes := #[]
  staticTypes := #[]
  resolved := Array.replicate 124 none
  statics := none }

def pool1 : Array CpInfo := pool [(2, .class_ 4), (1, u "java/lang/Object"), (0, u "<init>"), (0, u "()V"), (0, .class_ 8), (0, u "com/example/rummage/rummage/Ranking$Collection"), (0, .methodref 7 10), (0, .nameAndType 5 11), (0, u "(D[DDDD)V"), (0, .methodref 7 13), (0, .nameAndType 14 15), (0, u "idf"), (0, u "()[D"), (0, .methodref 17 18), (0, .class_ 19), (0, .nameAndType 20 21), (0, u "com/example/rummage/rummage/CollectionIdfPinLaw"), (0, u "expect"), (0, u "(DDD)Z"), (2, u "law"), (0, u "(IIIII)Z")] 9

def k1m0 : Method := { name := "<init>", desc := "()V", sig := { parameters := [], returnType := none }, accessFlags := 1, code := none }
def k1c1 : Code := { maxStack := 11, maxLocals := 16, code := code, exceptionTable := #[], attributes := #[] }
def k1m1 : Method := { name := "law", desc := "(IIIII)Z", sig := { parameters := [.int, .int, .int, .int, .int], returnType := some .boolean }, accessFlags := 9, code := some k1c1 }
def k1c2 : Code := { maxStack := 6, maxLocals := 6, code := method_3_code, exceptionTable := #[], attributes := #[] }
def k1m2 : Method := { name := "expect", desc := "(DDD)Z", sig := { parameters := [.double, .double, .double], returnType := some .boolean }, accessFlags := 10, code := some k1c2 }
/-- com/example/rummage/rummage/CollectionIdfPinLaw -/
def k1 : Class := { plain "com/example/rummage/rummage/CollectionIdfPinLaw" (some 0) with
  accessFlags := 49
  interfaces := #[]
  cf := some (fileOf pool1 17 #[] #[{ accessFlags := 1, nameIndex := 5, descriptorIndex := 6, attributes := #[] }, { accessFlags := 9, nameIndex := 24, descriptorIndex := 25, attributes := #[] }, { accessFlags := 10, nameIndex := 20, descriptorIndex := 21, attributes := #[] }] 49 2 #[] #[])
  fields := #[]
  methods := #[k1m0, k1m1, k1m2]
  instanceTypes := #[]
  staticTypes := #[]
  resolved := Array.replicate 35 none
  statics := none }

def pool2 : Array CpInfo := pool [(1, .methodref 2 3), (0, .class_ 4), (0, .nameAndType 5 6), (0, u "java/lang/Object"), (0, u "<init>"), (0, u "()V"), (0, .class_ 8), (0, u "java/lang/Record")] 13

def k2c0 : Code := { maxStack := 1, maxLocals := 1, code := jdk_30_method_1_code, exceptionTable := #[], attributes := #[] }
def k2m0 : Method := { name := "<init>", desc := "()V", sig := { parameters := [], returnType := none }, accessFlags := 4, code := some k2c0 }
/-- java/lang/Record -/
def k2 : Class := { plain "java/lang/Record" (some 0) with
  accessFlags := 1057
  interfaces := #[]
  cf := some (fileOf pool2 7 #[] #[{ accessFlags := 4, nameIndex := 5, descriptorIndex := 6, attributes := #[] }] 1057 2 #[] #[])
  fields := #[]
  methods := #[k2m0]
  instanceTypes := #[]
  staticTypes := #[]
  resolved := Array.replicate 22 none
  statics := none }

def pool3 : Array CpInfo := pool [(1, .methodref 2 3), (0, .class_ 4), (0, .nameAndType 5 6), (0, u "java/lang/Record"), (0, u "<init>"), (0, u "()V"), (0, .fieldref 8 9), (0, .class_ 10), (0, .nameAndType 11 12), (0, u "com/example/rummage/rummage/Ranking$Collection"), (0, u "documents"), (0, u "D"), (0, .fieldref 8 14), (0, .nameAndType 15 16), (0, u "documentFrequencies"), (0, u "[D"), (0, .fieldref 8 18), (0, .nameAndType 19 12), (0, u "averageLength"), (0, .fieldref 8 21), (0, .nameAndType 22 12), (0, u "affinity"), (0, .fieldref 8 24), (0, .nameAndType 25 12), (0, u "fanIn"), (12, u "(D[DDDD)V"), (3, u "idf"), (0, u "()[D"), (9, .class_ 54), (0, u "com/example/rummage/rummage/Ranking")] 23

def k3c0 : Code := { maxStack := 3, maxLocals := 10, code := prog_26_method_1_code, exceptionTable := #[], attributes := #[] }
def k3m0 : Method := { name := "<init>", desc := "(D[DDDD)V", sig := { parameters := [.double, (.array .double), .double, .double, .double], returnType := none }, accessFlags := 0, code := some k3c0 }
def k3c1 : Code := { maxStack := 6, maxLocals := 3, code := prog_26_method_2_code, exceptionTable := #[], attributes := #[] }
def k3m1 : Method := { name := "idf", desc := "()[D", sig := { parameters := [], returnType := some (.array .double) }, accessFlags := 0, code := some k3c1 }
/-- com/example/rummage/rummage/Ranking$Collection -/
def k3 : Class := { plain "com/example/rummage/rummage/Ranking$Collection" (some 2) with
  accessFlags := 48
  interfaces := #[]
  cf := some (fileOf pool3 8 #[.nestHost 53] #[{ accessFlags := 0, nameIndex := 5, descriptorIndex := 38, attributes := #[] }, { accessFlags := 0, nameIndex := 42, descriptorIndex := 43, attributes := #[] }] 48 2 #[] #[{ accessFlags := 18, nameIndex := 11, descriptorIndex := 12, attributes := #[] }, { accessFlags := 18, nameIndex := 15, descriptorIndex := 16, attributes := #[] }, { accessFlags := 18, nameIndex := 19, descriptorIndex := 12, attributes := #[] }, { accessFlags := 18, nameIndex := 22, descriptorIndex := 12, attributes := #[] }, { accessFlags := 18, nameIndex := 25, descriptorIndex := 12, attributes := #[] }])
  fields := #[{ name := "documents", type := .double, accessFlags := 18, slot := 0, constantValue := 0 }, { name := "documentFrequencies", type := (.array .double), accessFlags := 18, slot := 1, constantValue := 0 }, { name := "averageLength", type := .double, accessFlags := 18, slot := 2, constantValue := 0 }, { name := "affinity", type := .double, accessFlags := 18, slot := 3, constantValue := 0 }, { name := "fanIn", type := .double, accessFlags := 18, slot := 4, constantValue := 0 }]
  methods := #[k3m0, k3m1]
  instanceTypes := #[.double, (.array .double), .double, .double, .double]
  staticTypes := #[]
  resolved := Array.replicate 78 none
  statics := none }

def pool4 : Array CpInfo := pool [(1, u "java/lang/Cloneable"), (0, .class_ 1), (0, u "java/lang/Object"), (0, .class_ 3)] 3

/-- java/lang/Cloneable -/
def k4 : Class := { plain "java/lang/Cloneable" (some 0) with
  accessFlags := 1537
  interfaces := #[]
  cf := some (fileOf pool4 2 #[] #[] 1537 4 #[] #[])
  fields := #[]
  methods := #[]
  instanceTypes := #[]
  staticTypes := #[]
  resolved := Array.replicate 8 none
  statics := none }

def pool5 : Array CpInfo := pool [(1, u "java/io/Serializable"), (0, .class_ 1), (0, u "java/lang/Object"), (0, .class_ 3)] 3

/-- java/io/Serializable -/
def k5 : Class := { plain "java/io/Serializable" (some 0) with
  accessFlags := 1537
  interfaces := #[]
  cf := some (fileOf pool5 2 #[] #[] 1537 4 #[] #[])
  fields := #[]
  methods := #[]
  instanceTypes := #[]
  staticTypes := #[]
  resolved := Array.replicate 8 none
  statics := none }

/-- the primitive byte -/
def k6 : Class := { plain "byte" none with kind := .primitive 'B', accessFlags := 0x411 }
/-- [B -/
def k7 : Class := { plain "[B" (some 0) with kind := .array 6 .byte, interfaces := #[4, 5], accessFlags := 1041 }

/-- the primitive int -/
def k8 : Class := { plain "int" none with kind := .primitive 'I', accessFlags := 0x411 }
/-- [I -/
def k9 : Class := { plain "[I" (some 0) with kind := .array 8 .int, interfaces := #[4, 5], accessFlags := 1041 }

/-- the primitive double -/
def k10 : Class := { plain "double" none with kind := .primitive 'D', accessFlags := 0x411 }
/-- [D -/
def k11 : Class := { plain "[D" (some 0) with kind := .array 10 .double, interfaces := #[4, 5], accessFlags := 1041 }
def heap : Heap := #[]
def classes : Array Class := #[k0, k1, k2, k3, k4, k5, k6, k7, k8, k9, k10, k11]
def interned : List (Array UInt16 × Addr) := []
def slotsUsed : Nat := 0
def theMethod : MethodId := ⟨1, 1⟩
def args0 : Array Value := #[.int 5, .int 5, .int 5, .int 5, .int 5]
def aboutOver (below : List Frame) : State where
  vm := { classes := classes, interned := interned.toArray }
  heap := heap
  slotsUsed := slotsUsed
  threads := #[{ frames := .invoking theMethod args0 :: below }]
def below0 : List Frame := [.native { method := ⟨0, 0⟩, args := #[] }]
def about1 : State := aboutOver below0
def p0 : Program := .bare "" "" ""
def e0 : Env := launch0.env 0 0 0
theorem w_frames : about1.frames = Frame.invoking theMethod args0 :: below0 := rfl
set_option maxRecDepth 65536 in
theorem w_args : argsFit about1.vm theMethod args0 = true := by decide +kernel
set_option maxRecDepth 65536 in
theorem w_heap : heapFits about1 = true := by decide +kernel
set_option maxRecDepth 65536 in
theorem w_runnable : about1.curStatus? = some .runnable := by decide +kernel
set_option maxRecDepth 65536 in
theorem w_alone : about1.alone = true := by decide +kernel
set_option maxRecDepth 65536 in
theorem w_named : about1.methodNamed? x = some theMethod := by decide +kernel
set_option maxRecDepth 65536 in
theorem w_hears : about1.hears theMethod below0 = true := by decide +kernel
set_option maxRecDepth 65536 in
theorem w_ripe : about1.ripe theMethod args0 below0 = true := by decide +kernel
theorem w_running : about1.status = .running := rfl
set_option maxRecDepth 65536 in
theorem w_room : about1.hasRoom e0.platform room_1 = true :=
  launch0.hasRoom_least _ room_1 (by decide +kernel) (by decide +kernel) (by decide +kernel) (by decide +kernel) (by decide +kernel) (by decide +kernel)
theorem allAtoms_all (ts : List Jvm.Cond) (a : Array Jvm.Value) (st : Jvm.State) : (allAtoms ts).before a st = ts.all (fun c => c.before a st) := by
  induction ts with
  | nil => rfl
  | cons c t ih =>
    show (Jvm.Cond.and c (allAtoms t)).before a st = _
    rw [Jvm.Cond.before_and, ih, List.all_cons]
def words1 : List Jvm.Cond := Jvm.Cond.code x code maxLocals ret :: tables_1
/-- a 'code' word, met by the world's own term for the bytes: nothing is compared byte by byte -/
theorem code_word {y : MethodName} {bytes : ByteArray} {mx : Nat} {rt : Option FieldType} {a : Array Value} {s : State} {m : MethodId} {meth : Method} {c : Code} (h1 : s.methodNamed? y = some m) (h2 : s.vm.method? m = some meth) (h3 : meth.code = some c) (h4 : c.code = bytes)
    (h5 : (c.maxLocals == mx && c.exceptionTable.isEmpty && decide (c.maxStack ≤ mostOperands) && decide (meth.sig.returnType = rt) && !meth.locks && decide (parseMethodDescriptor y.desc = some meth.sig)) = true) : (Jvm.Cond.code y bytes mx rt).before a s = true := by
  simp only [Bool.and_eq_true, beq_iff_eq, Bool.not_eq_true', decide_eq_true_eq] at h5
  obtain ⟨⟨⟨⟨⟨g1, g2⟩, g3⟩, g4⟩, g5⟩, g6⟩ := h5
  simp [Cond.before, Cond.holds, Cond.value, h1, h2, h3, h4, g1, g2, g3, g4, g5, g6]
def isCode : Jvm.Cond → Bool
  | .code _ _ _ _ => true
  | _ => false
theorem all_split {L : List Jvm.Cond} {P : Jvm.Cond → Bool} (h1 : L.all (fun c => isCode c || P c) = true) (h2 : ∀ c ∈ L.filter isCode, P c = true) : L.all P = true := by
  refine List.all_eq_true.mpr fun c hc => ?_
  have h := List.all_eq_true.mp h1 c hc
  rcases Bool.eq_false_or_eq_true (isCode c) with hi | hi
  · exact h2 c (List.mem_filter.mpr ⟨hc, hi⟩)
  · simpa [hi] using h
set_option maxRecDepth 65536 in
theorem w_c0 : (Jvm.Cond.code x code maxLocals ret).before args0 about1 = true := code_word (m := ⟨1, 1⟩) (meth := k1m1) (c := k1c1) (by decide +kernel) rfl rfl rfl (by decide +kernel)
set_option maxRecDepth 65536 in
theorem w_c1 : (Jvm.Cond.code ({ cls := "com/example/rummage/rummage/Ranking$Collection", name := "<init>", desc := "(D[DDDD)V" } : Jvm.MethodName) prog_26_method_1_code (10 : Nat) (Option.none : Option Jvm.ClassFile.FieldType)).before args0 about1 = true := code_word (m := ⟨3, 0⟩) (meth := k3m0) (c := k3c0) (by decide +kernel) rfl rfl rfl (by decide +kernel)
set_option maxRecDepth 65536 in
theorem w_c2 : (Jvm.Cond.code ({ cls := "java/lang/Record", name := "<init>", desc := "()V" } : Jvm.MethodName) jdk_30_method_1_code (1 : Nat) (Option.none : Option Jvm.ClassFile.FieldType)).before args0 about1 = true := code_word (m := ⟨2, 0⟩) (meth := k2m0) (c := k2c0) (by decide +kernel) rfl rfl rfl (by decide +kernel)
set_option maxRecDepth 65536 in
theorem w_c3 : (Jvm.Cond.code ({ cls := "java/lang/Object", name := "<init>", desc := "()V" } : Jvm.MethodName) object_method_1_code (1 : Nat) (Option.none : Option Jvm.ClassFile.FieldType)).before args0 about1 = true := code_word (m := ⟨0, 0⟩) (meth := k0m0) (c := k0c0) (by decide +kernel) rfl rfl rfl (by decide +kernel)
set_option maxRecDepth 65536 in
theorem w_c4 : (Jvm.Cond.code ({ cls := "com/example/rummage/rummage/Ranking$Collection", name := "idf", desc := "()[D" } : Jvm.MethodName) prog_26_method_2_code (3 : Nat) (Option.some (Jvm.ClassFile.FieldType.array Jvm.ClassFile.FieldType.double))).before args0 about1 = true := code_word (m := ⟨3, 1⟩) (meth := k3m1) (c := k3c1) (by decide +kernel) rfl rfl rfl (by decide +kernel)
set_option maxRecDepth 65536 in
theorem w_c5 : (Jvm.Cond.code ({ cls := "com/example/rummage/rummage/CollectionIdfPinLaw", name := "expect", desc := "(DDD)Z" } : Jvm.MethodName) method_3_code (6 : Nat) (Option.some Jvm.ClassFile.FieldType.boolean)).before args0 about1 = true := code_word (m := ⟨1, 2⟩) (meth := k1m2) (c := k1c2) (by decide +kernel) rfl rfl rfl (by decide +kernel)
def codes1 : List Jvm.Cond := [Jvm.Cond.code x code maxLocals ret, Jvm.Cond.code ({ cls := "com/example/rummage/rummage/Ranking$Collection", name := "<init>", desc := "(D[DDDD)V" } : Jvm.MethodName) prog_26_method_1_code (10 : Nat) (Option.none : Option Jvm.ClassFile.FieldType), Jvm.Cond.code ({ cls := "java/lang/Record", name := "<init>", desc := "()V" } : Jvm.MethodName) jdk_30_method_1_code (1 : Nat) (Option.none : Option Jvm.ClassFile.FieldType), Jvm.Cond.code ({ cls := "java/lang/Object", name := "<init>", desc := "()V" } : Jvm.MethodName) object_method_1_code (1 : Nat) (Option.none : Option Jvm.ClassFile.FieldType), Jvm.Cond.code ({ cls := "com/example/rummage/rummage/Ranking$Collection", name := "idf", desc := "()[D" } : Jvm.MethodName) prog_26_method_2_code (3 : Nat) (Option.some (Jvm.ClassFile.FieldType.array Jvm.ClassFile.FieldType.double)), Jvm.Cond.code ({ cls := "com/example/rummage/rummage/CollectionIdfPinLaw", name := "expect", desc := "(DDD)Z" } : Jvm.MethodName) method_3_code (6 : Nat) (Option.some Jvm.ClassFile.FieldType.boolean)]
set_option maxRecDepth 65536 in
theorem codes_eq : words1.filter isCode = codes1 := rfl
theorem w_codes : ∀ c ∈ words1.filter isCode, c.before args0 about1 = true := by
  rw [codes_eq]
  intro c hc
  simp only [codes1, List.mem_cons, List.not_mem_nil, or_false] at hc
  rcases hc with rfl | rfl | rfl | rfl | rfl | rfl
  · exact w_c0
  · exact w_c1
  · exact w_c2
  · exact w_c3
  · exact w_c4
  · exact w_c5
set_option maxRecDepth 65536 in
theorem w_t1 : (words1.take 24).all (fun c => isCode c || c.before args0 about1) = true := by decide +kernel
set_option maxRecDepth 65536 in
theorem w_t2 : (words1.drop 24).all (fun c => isCode c || c.before args0 about1) = true := by decide +kernel
theorem w_tables : (allAtoms (Jvm.Cond.code x code maxLocals ret :: tables_1)).before args0 about1 = true := by
  rw [allAtoms_all]
  show words1.all (fun c => c.before args0 about1) = true
  refine all_split ?_ w_codes
  rw [← List.take_append_drop 24 words1, List.all_append, w_t1, w_t2]
  rfl
set_option maxRecDepth 65536 in
theorem w_case : (Jvm.Cond.and given_1 narrow_1).before args0 about1 = true := by decide +kernel
theorem w_applies : (headSpec (Jvm.Cond.code x code maxLocals ret :: tables_1) room_1).applies x e0.platform about1 = true :=
  (Spec.applies_iff w_frames).mpr ⟨w_running, w_runnable, w_alone, w_named, w_hears, w_ripe, w_room, w_tables⟩
theorem atStart : AtStart classFile x code maxLocals ret World_1 tables_1 room_1 Calls_1 rest_1 Pre_1 launch0 p0 e0 about1 theMethod args0 below0 :=
  ⟨lists_1, trivial, launch0.admits_env _ _ _, launch0.least_env, fairChoices_fair.cas, fairChoices_fair.clock, w_frames, w_args, w_heap, w_applies, trivial, trivial, w_case⟩
end start1
theorem witness_1 : WitnessClaimed_1 := ⟨start1.p0, start1.e0, start1.about1, start1.theMethod, start1.args0, start1.below0, start1.atStart⟩
end Jvm.Pilot.@@N@@
