import JvmDerived
import JvmDerived.Pilot.@@N@@Statement
import JvmDerived.Pilot.@@N@@Code
set_option linter.unusedVariables false
set_option linter.unusedSimpArgs false
namespace Jvm.RoadKit
open Sem ClassFile Op Lib Jvm.Stand Jvm.Free Jvm.LawKit
/-! own_: walks written forward: 'Goes P T g': from the frame g at T the run comes to a state that P takes. -/
def Goes (p : Program) (e : Env) (below : List Frame) (P : State → Prop) (T : State) (g : JFrame) : Prop := ∃ t, Steps p.tables e below (T.setTop g) t ∧ P t
/-- how a body ends: it returned v, and Q holds of v, the heap and the places written -/
def Fin1 (below : List Frame) (s : State) (rm : Room) (Q : Option Value → Heap → List Loc → Prop) (t : State) : Prop :=
  ∃ o, t.status = .running ∧ Ended t below o ∧ ∃ v L, o = .returned v ∧ Q v t.heap L ∧ FrameEnd s o t L rm.cells rm.slots
/-- a body's contract -/
def Does (l : Launch) (y : MethodName) (bytes : ByteArray) (maxL : Nat) (ret : Option FieldType) (ws : List Cond) (rm : Room) (Z : State) (as' : Array Value) (h : Heap) (Q : Option Value → Heap → List Loc → Prop) : Prop :=
  MetFree l y (head1 (Cond.code y bytes maxL ret :: ws) rm) (fun a U => a = as' ∧ Z.Warmed39 U.vm ∧ U.heap = h) (fun _ _ _ _ _ => True) (fun _ U o U' => ∃ v L, o = .returned v ∧ Q v U'.heap L ∧ FrameEnd U o U' L rm.cells rm.slots)
section Own
variable {p : Program} {l : Launch} {e : Env} {R : Room} {s : State} {m : MethodId} {args : Array Value} {below : List Frame} {meth : Method} {c : Code} {T T' : State} {locs : List Loc} {cells slots : Nat} {Z : State} {a0 : Array Value} {h h' : Heap} {g g' : JFrame} {P : State → Prop}
theorem Goes.by (st : ∀ target, Steps p.tables e below (T'.setTop g') target → Steps p.tables e below (T.setTop g) target) (k : Goes p e below P T' g') : Goes p e below P T g := by
  obtain ⟨t, h1, h2⟩ := k
  exact ⟨t, st _ h1, h2⟩
theorem Goes.cast (q : g = g') (k : Goes p e below P T g') : Goes p e below P T g := q ▸ k
theorem Does.of {y : MethodName} {bytes : ByteArray} {maxL : Nat} {ret : Option FieldType} {ws : List Cond} {rm : Room} {as' : Array Value} {Q : Option Value → Heap → List Loc → Prop} (hp : plainFor y = true)
    (body : ∀ (p : Program) (e : Env) (s : State) (m : MethodId) (below : List Frame) (meth : Method) (c : Code) (s₁ : State), p.tables.exec = Jvm.exec → c.code = bytes → c.maxLocals = maxL → meth.sig.returnType = ret → meth.locks = false → Z.Warmed39 s.vm → s.vm.findClass y.cls = some m.cls → meth.name = y.name → Stand p l e rm s m as' below meth c s₁ [] 0 0 → s₁.heap = h →
      Goes p e below (Fin1 below s rm Q) s₁ (entryFrame m as' maxL)) : Does l y bytes maxL ret ws rm Z as' h Q := by
  refine MetFree.of_bodySF hp hisR ?_
  intro p e s m args below meth c s₁ Bd hml0 hP hK
  obtain ⟨rfl, hZ, hh⟩ := hP
  have e0 : s₁.heap = h := by rw [← hh, Bd.state]; rfl
  obtain ⟨t, h1, o, h2⟩ := body p e s m below meth c s₁ Bd.exec Bd.bytes hml0 Bd.returns Bd.notSynchronized hZ (findClass_of_methodNamed Bd.named) ((name_of_methodNamed Bd.named Bd.method).1) (Stand.of_body Bd) e0
  exact ⟨t, o, h1, h2⟩
theorem fin_of {rm : Room} {Q : Option Value → Heap → List Loc → Prop} {v : Option Value} (X : Stand p l e R s m args below meth c T locs cells slots) (hlk : meth.locks = false) (hv : meth.sig.returnType = none → v = none) (hQ : Q v T.heap locs) (hc : cells ≤ rm.cells) (hs : slots ≤ rm.slots)
    (st : ∀ fs, (∀ (f : JFrame) (acts : List Action), f.method = m → f.locked = none → f.entered = [] → (doReturn e (T.setTop f) acts v).1 = T.setFrames fs) → Steps p.tables e below (T.setTop g) (T.setFrames fs)) : Goes p e below (Fin1 below s rm Q) T g := by
  obtain ⟨fs, hr, hrun, hended, hW, hsame⟩ := X.leave (v := v) hv hlk
  exact ⟨_, st fs hr, _, hrun, hended, _, _, rfl, hQ, ⟨_, rfl⟩, hW, hsame.mono hc hs⟩
theorem outV {rm : Room} {Q : Option Value → Heap → List Loc → Prop} {pc : Nat} {Ls : Array Slot} (X : Stand p l e R s m args below meth c T locs cells slots) (hx : p.tables.exec = Jvm.exec) (hlk : meth.locks = false) (hret : meth.sig.returnType = none) (hd : decode c.code pc = .ok (.return_, 1)) (hQ : Q none T.heap locs) (hc : cells ≤ rm.cells) (hs : slots ≤ rm.slots) : Goes p e below (Fin1 below s rm Q) T (mkF m pc Ls []) :=
  fin_of X hlk (fun _ => rfl) hQ hc hs fun fs hr => X.returnOut hx hret hd hr
theorem outZ {rm : Room} {Q : Option Value → Heap → List Loc → Prop} {pc : Nat} {Ls : Array Slot} {z : Int32} {rest : List Value} (X : Stand p l e R s m args below meth c T locs cells slots) (hx : p.tables.exec = Jvm.exec) (hlk : meth.locks = false) (hret : meth.sig.returnType = some .boolean) (hd : decode c.code pc = .ok (.ireturn, 1)) (hQ : Q (some (.int (nar .boolean z))) T.heap locs) (hc : cells ≤ rm.cells) (hs : slots ≤ rm.slots) : Goes p e below (Fin1 below s rm Q) T (mkF m pc Ls (.int z :: rest)) :=
  fin_of X hlk (fun h => by rw [hret] at h; cases h) hQ hc hs fun fs hr => retN X hx (t := .boolean) hret (by simp) hd hr
theorem outO {rm : Room} {Q : Option Value → Heap → List Loc → Prop} {pc : Nat} {Ls : Array Slot} {w : Value} {t : FieldType} {i : Instr} {rest : List Value} (X : Stand p l e R s m args below meth c T locs cells slots) (hx : p.tables.exec = Jvm.exec) (hlk : meth.locks = false) (hret : meth.sig.returnType = some t) (hn : narrow t w = w)
    (hi : (i = .ireturn ∧ (t = .int ∨ t = .boolean ∨ t = .byte ∨ t = .char ∨ t = .short) ∧ ∃ z, w = .int z) ∨ (i = .lreturn ∧ t = .long ∧ ∃ z, w = .long z) ∨ (i = .dreturn ∧ t = .double ∧ ∃ z, w = .double z) ∨ (i = .freturn ∧ t = .float ∧ ∃ z, w = .float z) ∨ (i = .areturn ∧ t.isReference = true ∧ w.isRef = true))
    (hd : decode c.code pc = .ok (i, 1)) (hQ : Q (some w) T.heap locs) (hc : cells ≤ rm.cells) (hs : slots ≤ rm.slots) : Goes p e below (Fin1 below s rm Q) T (mkF m pc Ls (w :: rest)) :=
  fin_of X hlk (fun h => by rw [hret] at h; cases h) hQ hc hs fun fs hr => retOut X hx hret hn hi hd hr
theorem outI {rm : Room} {Q : Option Value → Heap → List Loc → Prop} {pc : Nat} {Ls : Array Slot} {z : Int32} {rest : List Value} (X : Stand p l e R s m args below meth c T locs cells slots) (hx : p.tables.exec = Jvm.exec) (hlk : meth.locks = false) (hret : meth.sig.returnType = some .int) (hd : decode c.code pc = .ok (.ireturn, 1)) (hQ : Q (some (.int z)) T.heap locs) (hc : cells ≤ rm.cells) (hs : slots ≤ rm.slots) : Goes p e below (Fin1 below s rm Q) T (mkF m pc Ls (.int z :: rest)) :=
  outO X hx hlk hret rfl (Or.inl ⟨rfl, Or.inl rfl, _, rfl⟩) hd hQ hc hs
theorem outJ {rm : Room} {Q : Option Value → Heap → List Loc → Prop} {pc : Nat} {Ls : Array Slot} {z : Int64} {rest : List Value} (X : Stand p l e R s m args below meth c T locs cells slots) (hx : p.tables.exec = Jvm.exec) (hlk : meth.locks = false) (hret : meth.sig.returnType = some .long) (hd : decode c.code pc = .ok (.lreturn, 1)) (hQ : Q (some (.long z)) T.heap locs) (hc : cells ≤ rm.cells) (hs : slots ≤ rm.slots) : Goes p e below (Fin1 below s rm Q) T (mkF m pc Ls (.long z :: rest)) :=
  outO X hx hlk hret rfl (Or.inr (Or.inl ⟨rfl, rfl, _, rfl⟩)) hd hQ hc hs
theorem outD {rm : Room} {Q : Option Value → Heap → List Loc → Prop} {pc : Nat} {Ls : Array Slot} {z : UInt64} {rest : List Value} (X : Stand p l e R s m args below meth c T locs cells slots) (hx : p.tables.exec = Jvm.exec) (hlk : meth.locks = false) (hret : meth.sig.returnType = some .double) (hd : decode c.code pc = .ok (.dreturn, 1)) (hQ : Q (some (.double z)) T.heap locs) (hc : cells ≤ rm.cells) (hs : slots ≤ rm.slots) : Goes p e below (Fin1 below s rm Q) T (mkF m pc Ls (.double z :: rest)) :=
  outO X hx hlk hret rfl (Or.inr (Or.inr (Or.inl ⟨rfl, rfl, _, rfl⟩))) hd hQ hc hs
theorem outA {rm : Room} {Q : Option Value → Heap → List Loc → Prop} {pc : Nat} {Ls : Array Slot} {w : Value} {t : FieldType} {rest : List Value} (X : Stand p l e R s m args below meth c T locs cells slots) (hx : p.tables.exec = Jvm.exec) (hlk : meth.locks = false) (hret : meth.sig.returnType = some t) (ht : t.isReference = true) (hw : w.isRef = true) (hn : narrow t w = w) (hd : decode c.code pc = .ok (.areturn, 1)) (hQ : Q (some w) T.heap locs) (hc : cells ≤ rm.cells) (hs : slots ≤ rm.slots) : Goes p e below (Fin1 below s rm Q) T (mkF m pc Ls (w :: rest)) :=
  outO X hx hlk hret hn (Or.inr (Or.inr (Or.inr (Or.inr ⟨rfl, ht, hw⟩)))) hd hQ hc hs
/-! calls by a contract -/
theorem callI (X : Stand p l e R s m args below meth c T locs cells slots) (hx : p.tables.exec = Jvm.exec) (hZ : Z.Warmed39 s.vm) {own : String} {index : Nat} {y : MethodName} (hy1 : y.name = "<init>") (hown : s.vm.findClass own = some m.cls) {bytes : ByteArray} {maxL : Nat} {rm : Room}
    (w1 : (Cond.methodLink own index y).before a0 Z = true) (w2 : (Cond.instanceMethod y).before a0 Z = true) (w3 : (Cond.code y bytes maxL none).before a0 Z = true) (w4 : (Cond.initialized y.cls).before a0 Z = true) (hy : y.cls ≠ "java/lang/invoke/MethodHandle" ∧ y.cls ≠ "java/lang/invoke/VarHandle")
    (eT : T.heap = h) {a : Addr} {argsL rest : List Value} {as' : Array Value} {Q : Option Value → Heap → List Loc → Prop} {W : Nat} (hM : Does l y bytes maxL none [] rm Z as' h Q) (has : (.ref a :: argsL).toArray = as') (hf : rm.frames + 1 ≤ R.frames) (hl : W + (maxL + 11) + rm.locals ≤ R.locals)
    (hcc : cells + rm.cells ≤ R.cells) (hss : slots + rm.slots ≤ R.slots) {g : JFrame} (hg : g.method = m) (hsize : g.locals.size = c.maxLocals) (hlen : ∀ sig, parseMethodDescriptor y.desc = some sig → argsL.length = sig.parameters.length) (hst : g.stack = argsL.reverse ++ .ref a :: rest) (hW : 2 * g.monitorRoom + (rest.map fun v => v.category).sum ≤ W) (hd : decode c.code g.pc = .ok (.invokespecial index, 3)) :
    ∃ v T' L, Stand p l e R s m args below meth c T' (locs ++ L) (cells + rm.cells) (slots + rm.slots) ∧ Q v T'.heap L ∧ ∀ target, Steps p.tables e below (T'.setTop { g with pc := g.pc + 3, stack := v.toList ++ rest }) target → Steps p.tables e below (T.setTop g) target := by
  obtain ⟨v, vm1, ⟨T', L', k', n'⟩, -, X', ⟨L, hQ, e1, e2, e3⟩, st⟩ := X.specialBack hx (y := y) hy1 hown (mvT hZ w1) (mvT hZ w2) (mvT hZ w3) hy (backOf (W := W) hM hZ w3 w4 hf hl) hg hsize (Steps.refl _) hlen hst hW hd (fun _ _ => ⟨has, eT, hcc, hss⟩)
  dsimp only [Pt.U, Pt.locs, Pt.cells, Pt.slots] at X' e1 e2 e3 st hQ
  subst e1 e2 e3
  exact ⟨v, T', L, X', hQ, fun t k => st.trans k⟩
theorem callV (X : Stand p l e R s m args below meth c T locs cells slots) (hx : p.tables.exec = Jvm.exec) (hZ : Z.Warmed39 s.vm) {own C : String} {index : Nat} {y : MethodName} (hown : s.vm.findClass own = some m.cls) {bytes : ByteArray} {maxL : Nat} {ret : Option FieldType} {rm : Room}
    (w1 : (Cond.methodLink own index y).before a0 Z = true) (w2 : (Cond.declares y).before a0 Z = true) (w3 : (Cond.selects C y y).before a0 Z = true) (w4 : (Cond.instanceMethod y).before a0 Z = true) (w5 : (Cond.code y bytes maxL ret).before a0 Z = true) (w6 : (Cond.initialized y.cls).before a0 Z = true) (hy : y.cls ≠ "java/lang/invoke/MethodHandle" ∧ y.cls ≠ "java/lang/invoke/VarHandle")
    (eT : T.heap = h) {a : Addr} (E : Exa Z h a C) {argsL rest : List Value} {as' : Array Value} {Q : Option Value → Heap → List Loc → Prop} {W : Nat} (hM : Does l y bytes maxL ret [] rm Z as' h Q) (has : (.ref a :: argsL).toArray = as') (hf : rm.frames + 1 ≤ R.frames) (hl : W + (maxL + 11) + rm.locals ≤ R.locals)
    (hcc : cells + rm.cells ≤ R.cells) (hss : slots + rm.slots ≤ R.slots) {g : JFrame} (hg : g.method = m) (hsize : g.locals.size = c.maxLocals) (hlen : ∀ sig, parseMethodDescriptor y.desc = some sig → argsL.length = sig.parameters.length) (hst : g.stack = argsL.reverse ++ .ref a :: rest) (hW : 2 * g.monitorRoom + (rest.map fun v => v.category).sum ≤ W) (hd : decode c.code g.pc = .ok (.invokevirtual index, 3)) :
    ∃ v T' L, Stand p l e R s m args below meth c T' (locs ++ L) (cells + rm.cells) (slots + rm.slots) ∧ Q v T'.heap L ∧ ∀ target, Steps p.tables e below (T'.setTop { g with pc := g.pc + 3, stack := v.toList ++ rest }) target → Steps p.tables e below (T.setTop g) target := by
  obtain ⟨cB, kB, q1, q2, q3⟩ := isOf hZ eT E
  obtain ⟨v, vm1, ⟨T', L', k', n'⟩, -, X', ⟨L, hQ, e1, e2, e3⟩, st⟩ := X.virtualBack hx (y := y) (z := y) hown (mvT hZ w1) (mvT hZ w2) (notFace_of_selects (args := args) (mvT hZ w3)) (mvT hZ w3) (mvT hZ w4) hy (backOf (W := W) hM hZ w5 w6 hf hl) q1 q3 hg hsize (Steps.refl _) hlen hst hW hd (fun _ _ => ⟨has, eT, hcc, hss⟩)
  dsimp only [Pt.U, Pt.locs, Pt.cells, Pt.slots] at X' e1 e2 e3 st hQ
  subst e1 e2 e3
  exact ⟨v, T', L, X', hQ, fun t k => st.trans k⟩
theorem callC (X : Stand p l e R s m args below meth c T locs cells slots) (hx : p.tables.exec = Jvm.exec) (hZ : Z.Warmed39 s.vm) {own : String} {index : Nat} {y : MethodName} (hown : s.vm.findClass own = some m.cls) {bytes : ByteArray} {maxL : Nat} {ret : Option FieldType} {rm : Room}
    (w1 : (Cond.methodLink own index y).before a0 Z = true) (w2 : (Cond.static y).before a0 Z = true) (w3 : (Cond.code y bytes maxL ret).before a0 Z = true) (w4 : (Cond.initialized y.cls).before a0 Z = true) (hy : y.cls ≠ "java/lang/invoke/MethodHandle" ∧ y.cls ≠ "java/lang/invoke/VarHandle")
    (eT : T.heap = h) {argsL rest : List Value} {as' : Array Value} {Q : Option Value → Heap → List Loc → Prop} {W : Nat} (hM : Does l y bytes maxL ret [] rm Z as' h Q) (has : argsL.toArray = as') (hf : rm.frames + 1 ≤ R.frames) (hl : W + (maxL + 11) + rm.locals ≤ R.locals)
    (hcc : cells + rm.cells ≤ R.cells) (hss : slots + rm.slots ≤ R.slots) {g : JFrame} (hg : g.method = m) (hsize : g.locals.size = c.maxLocals) (hlen : ∀ sig, parseMethodDescriptor y.desc = some sig → argsL.length = sig.parameters.length) (hst : g.stack = argsL.reverse ++ rest) (hW : 2 * g.monitorRoom + (rest.map fun v => v.category).sum ≤ W) (hd : decode c.code g.pc = .ok (.invokestatic index, 3)) :
    ∃ v T' L, Stand p l e R s m args below meth c T' (locs ++ L) (cells + rm.cells) (slots + rm.slots) ∧ Q v T'.heap L ∧ ∀ target, Steps p.tables e below (T'.setTop { g with pc := g.pc + 3, stack := v.toList ++ rest }) target → Steps p.tables e below (T.setTop g) target := by
  obtain ⟨v, vm1, ⟨T', L', k', n'⟩, -, X', ⟨L, hQ, e1, e2, e3⟩, st⟩ := Jvm.LawKit.callS X hx (y := y) hown (mvT hZ w1) (mvT hZ w2) (mvT hZ w4) (mvT hZ w3) hy (backOf (W := W) hM hZ w3 w4 hf hl) hg hsize hlen hst hW hd (fun _ _ => ⟨has, eT, hcc, hss⟩)
  dsimp only [Pt.U, Pt.locs, Pt.cells, Pt.slots] at X' e1 e2 e3 st hQ
  subst e1 e2 e3
  exact ⟨v, T', L, X', hQ, st⟩
end Own
end Jvm.RoadKit
namespace Jvm.Free.XS
open Sem ClassFile Op Lib
theorem lcmpS {tb : Tables} [Ours tb] {e : Env} {below : List Frame} {T target : State} {m : MethodId} {c : Code} {g : JFrame} (h : At T m c below) (hx : tb.exec = Jvm.exec) (hg : g.method = m) {x y : Int64} {v : Int32} {rest : List Value} (hd : decode c.code g.pc = .ok (.lcmp, 1)) (hs : g.stack = .long y :: .long x :: rest) (hv : Jvm.RoadKit.lcmpW x y = v)
    (hr : Steps tb e below (T.setTop { g with pc := g.pc + 1, stack := .int v :: rest }) target) : Steps tb e below (T.setTop g) target := by
  subst hv
  exact lcmp h hx hg hd hs hr
end Jvm.Free.XS
namespace Jvm.RoadKit
open Sem ClassFile Op Lib Jvm.Stand Jvm.Free Jvm.LawKit Jvm.FP Jvm.Free.Fl
section OwnD
theorem own_cmp (i j : Int) : compare i j = if i < j then Ordering.lt else if i = j then Ordering.eq else Ordering.gt := rfl
theorem cmpL_lt {x y : Int64} (h : x < y) : lcmpW x y = -1 := by
  have h' := Int64.lt_iff_toInt_lt.mp h
  show (if y < x then (1 : Int32) else if x = y then 0 else -1) = -1
  rw [if_neg (fun q => by have := Int64.lt_iff_toInt_lt.mp q; omega), if_neg (fun q => by rw [q] at h'; omega)]
theorem cmpL_eq {x y : Int64} (h : x = y) : lcmpW x y = 0 := by
  subst h
  show (if x < x then (1 : Int32) else if x = x then 0 else -1) = 0
  rw [if_neg (fun q => by have := Int64.lt_iff_toInt_lt.mp q; omega), if_pos rfl]
theorem cmpL_gt {x y : Int64} (h : y < x) : lcmpW x y = 1 := by
  show (if y < x then (1 : Int32) else if x = y then 0 else -1) = 1
  rw [if_pos h]
theorem DInt_nn {i : Int} {x : UInt64} (h : Core.DInt i x) : NoNaN64 x := val64_no.mpr (Core.DInt_ne_nan h)
theorem DInt_fin {i : Int} {x : UInt64} (h : Core.DInt i x) : Fin64 x := fin64_core.mpr (by
  have h' : Core.Whole i (Core.val64 x) := h
  cases q : Core.val64 x with
  | nan => rw [q] at h'; exact h'.elim
  | inf s => rw [q] at h'; exact h'.elim
  | fin s c e => exact ⟨s, c, e, q⟩)
theorem cmpD_lt {i j : Int} {x y : UInt64} (hx : Core.DInt i x) (hy : Core.DInt j y) (h : i < j) (o : CmpOp) : cmpValue (FP.dcmp x y) o = -1 := by
  rw [show FP.dcmp x y = _ from Core.dcmp_int hx hy, own_cmp, if_pos h]; rfl
theorem cmpD_eq {i j : Int} {x y : UInt64} (hx : Core.DInt i x) (hy : Core.DInt j y) (h : i = j) (o : CmpOp) : cmpValue (FP.dcmp x y) o = 0 := by
  rw [show FP.dcmp x y = _ from Core.dcmp_int hx hy, own_cmp, if_neg (by omega), if_pos h]; rfl
theorem cmpD_gt {i j : Int} {x y : UInt64} (hx : Core.DInt i x) (hy : Core.DInt j y) (h : j < i) (o : CmpOp) : cmpValue (FP.dcmp x y) o = 1 := by
  rw [show FP.dcmp x y = _ from Core.dcmp_int hx hy, own_cmp, if_neg (by omega), if_neg (by omega)]; rfl
theorem DInt_zero : Core.DInt 0 0 := by
  have h := Core.l2d_int (a := 0) (by decide)
  rw [show Core.l2d 0 = 0 from l2d_zero] at h
  exact h
theorem DInt_i2d {x : Int32} {d : UInt64} (q : FP.i2d x = d) : Core.DInt x.toInt d := q ▸ Core.i2d_int x
theorem DInt_l2d {x : Int64} {d : UInt64} (q : FP.l2d x = d) (h : x.toInt.natAbs ≤ 2 ^ 53) : Core.DInt x.toInt d := q ▸ Core.l2d_int h
theorem DInt_add {i j : Int} {a b d : UInt64} (q : FP.dadd a b = d) (ha : Core.DInt i a) (hb : Core.DInt j b) (h : (i + j).natAbs ≤ 2 ^ 53) : Core.DInt (i + j) d := q ▸ Core.dadd_int ha hb h
theorem DInt_sub {i j : Int} {a b d : UInt64} (q : FP.dsub a b = d) (ha : Core.DInt i a) (hb : Core.DInt j b) (h : (i - j).natAbs ≤ 2 ^ 53) : Core.DInt (i - j) d := q ▸ Core.dsub_int ha hb h
theorem DInt_mul {i j : Int} {a b d : UInt64} (q : FP.dmul a b = d) (ha : Core.DInt i a) (hb : Core.DInt j b) (h : (i * j).natAbs ≤ 2 ^ 53) : Core.DInt (i * j) d := q ▸ Core.dmul_int ha hb h
end OwnD
/-! an array by the list of its values -/
def Sar (Z : State) (h : Heap) (a : Addr) (ty : FieldType) (vs : List Value) : Prop := ∃ c : Cell, Arr Z h a c ty ∧ c.slots = vs.toArray
section OwnA
variable {p : Program} {l : Launch} {e : Env} {R : Room} {s : State} {m : MethodId} {args : Array Value} {below : List Frame} {meth : Method} {c : Code} {T : State} {locs : List Loc} {cells slots : Nat} {Z : State} {a0 : Array Value} {h h' : Heap} {a b : Addr} {ty : FieldType} {vs : List Value} {sl : Nat} {v : Value} {ws : List Addr}
theorem Sar.lt (F : Sar Z h a ty vs) : a < h.size := by obtain ⟨c, A, -⟩ := F; exact A.lt
theorem Sar.ext (F : Sar Z h a ty vs) (E : Ext h h') : Sar Z h' a ty vs := by obtain ⟨c, A, r⟩ := F; exact ⟨c, A.ext E, r⟩
theorem Sar.other (F : Sar Z h b ty vs) (W : Wr h h' a sl v) (q : b ≠ a) : Sar Z h' b ty vs := by obtain ⟨c, A, r⟩ := F; exact ⟨c, A.other W q, r⟩
theorem Sar.keep (F : Sar Z h a ty vs) (K : Keep h h' ws) (q : a ∉ ws) : Sar Z h' a ty vs := by obtain ⟨c, A, r⟩ := F; exact ⟨c, ⟨K.2.1 a c A.1 q, A.2⟩, r⟩
theorem Sar.new {k : ClassId} {z : Int32} {n : Nat} (A : Arr Z h a (newA k ty z) ty) (hn : z.toNatClampNeg = n) : Sar Z h a ty (List.replicate n (defaultValue ty)) := ⟨_, A, by subst hn; show Array.replicate _ _ = _; simp⟩
theorem Sar.in {cl : Cell} {j : Int32} {i : Nat} (S : cl.slots = vs.toArray) (hj : j.toInt = i) (hi : i < vs.length) : ¬ (j < 0 ∨ cl.slots.size ≤ j.toNatClampNeg) := by
  rw [S]
  have q : j.toNatClampNeg = i := by show j.toInt.toNat = i; omega
  have r : ¬ j < 0 := fun z => by have z' := Int32.lt_iff_toInt_lt.mp z; rw [hj] at z'; simp at z'; omega
  rw [q]
  simp only [List.size_toArray]
  intro z
  rcases z with z | z
  · exact r z
  · omega
theorem Sar.nat {j : Int32} {i : Nat} (hj : j.toInt = i) : j.toNatClampNeg = i := by show j.toInt.toNat = i; omega
theorem stDS (X : Stand p l e R s m args below meth c T locs cells slots) (hx : p.tables.exec = Jvm.exec) (hZ : Z.Warmed39 s.vm) (eT : T.heap = h) (V : Sar Z h a .double vs) {j : Int32} {x : UInt64} (i : Nat) (hj : j.toInt = i) (hi : i < vs.length) {g : JFrame} (hg : g.method = m) {rest : List Value} (hs : g.stack = .double x :: .int j :: .ref a :: rest) (hd : decode c.code g.pc = .ok (.dastore, 1)) :
    ∃ T' h', Stand p l e R s m args below meth c T' (locs ++ [⟨a, i⟩]) cells slots ∧ T'.heap = h' ∧ Wr h h' a i (.double x) ∧ Sar Z h' a .double (vs.set i (.double x)) ∧ ∀ target, Steps p.tables e below (T'.setTop { g with pc := g.pc + 1, stack := rest }) target → Steps p.tables e below (T.setTop g) target := by
  obtain ⟨cl, A, S⟩ := V
  obtain ⟨T', h', X', e', W, st⟩ := stD X hx hZ eT A (Sar.in S hj hi) hg hs hd
  rw [Sar.nat hj] at X' W
  exact ⟨T', h', X', e', W, ⟨_, A.same W, by show cl.slots.setIfInBounds _ _ = _; rw [S]; simp⟩, st⟩
theorem stIS (X : Stand p l e R s m args below meth c T locs cells slots) (hx : p.tables.exec = Jvm.exec) (hZ : Z.Warmed39 s.vm) (eT : T.heap = h) (V : Sar Z h a .int vs) {j : Int32} {x : Int32} (i : Nat) (hj : j.toInt = i) (hi : i < vs.length) {g : JFrame} (hg : g.method = m) {rest : List Value} (hs : g.stack = .int x :: .int j :: .ref a :: rest) (hd : decode c.code g.pc = .ok (.iastore, 1)) :
    ∃ T' h', Stand p l e R s m args below meth c T' (locs ++ [⟨a, i⟩]) cells slots ∧ T'.heap = h' ∧ Wr h h' a i (.int x) ∧ Sar Z h' a .int (vs.set i (.int x)) ∧ ∀ target, Steps p.tables e below (T'.setTop { g with pc := g.pc + 1, stack := rest }) target → Steps p.tables e below (T.setTop g) target := by
  obtain ⟨cl, A, S⟩ := V
  obtain ⟨T', h', X', e', W, st⟩ := stI X hx hZ eT A (Sar.in S hj hi) hg hs hd
  rw [Sar.nat hj] at X' W
  exact ⟨T', h', X', e', W, ⟨_, A.same W, by show cl.slots.setIfInBounds _ _ = _; rw [S]; simp⟩, st⟩
theorem ldDS (X : Stand p l e R s m args below meth c T locs cells slots) (hx : p.tables.exec = Jvm.exec) (hZ : Z.Warmed39 s.vm) (eT : T.heap = h) (V : Sar Z h a .double vs) {j : Int32} (i : Nat) (hj : j.toInt = i) (hv : vs[i]? = some v) {g : JFrame} (hg : g.method = m) {rest : List Value} (hs : g.stack = .int j :: .ref a :: rest) (hd : decode c.code g.pc = .ok (.daload, 1)) :
    ∀ target, Steps p.tables e below (T.setTop { g with pc := g.pc + 1, stack := v :: rest }) target → Steps p.tables e below (T.setTop g) target := by
  obtain ⟨cl, A, S⟩ := V
  have hi : i < vs.length := (List.getElem?_eq_some_iff.mp hv).1
  exact X.daload hx (by rw [eT]; exact A.1) (State.isArrayOf_alike hZ.alike A.2.1) A.2.2 (Sar.in S hj hi) (by rw [S, Sar.nat hj]; simpa using hv) hg hs hd
theorem ldIS (X : Stand p l e R s m args below meth c T locs cells slots) (hx : p.tables.exec = Jvm.exec) (hZ : Z.Warmed39 s.vm) (eT : T.heap = h) (V : Sar Z h a .int vs) {j : Int32} (i : Nat) (hj : j.toInt = i) (hv : vs[i]? = some v) {g : JFrame} (hg : g.method = m) {rest : List Value} (hs : g.stack = .int j :: .ref a :: rest) (hd : decode c.code g.pc = .ok (.iaload, 1)) :
    ∀ target, Steps p.tables e below (T.setTop { g with pc := g.pc + 1, stack := v :: rest }) target → Steps p.tables e below (T.setTop g) target := by
  obtain ⟨cl, A, S⟩ := V
  have hi : i < vs.length := (List.getElem?_eq_some_iff.mp hv).1
  exact X.iaload hx (by rw [eT]; exact A.1) (State.isArrayOf_alike hZ.alike A.2.1) A.2.2 (Sar.in S hj hi) (by rw [S, Sar.nat hj]; simpa using hv) hg hs hd
theorem lenS (X : Stand p l e R s m args below meth c T locs cells slots) (hx : p.tables.exec = Jvm.exec) (hZ : Z.Warmed39 s.vm) (eT : T.heap = h) (V : Sar Z h a ty vs) {n : Int32} (hn : vs.length.toInt32 = n) {g : JFrame} (hg : g.method = m) {rest : List Value} (hs : g.stack = .ref a :: rest) (hd : decode c.code g.pc = .ok (.arraylength, 1)) :
    ∀ target, Steps p.tables e below (T.setTop { g with pc := g.pc + 1, stack := .int n :: rest }) target → Steps p.tables e below (T.setTop g) target := by
  obtain ⟨cl, A, S⟩ := V
  intro target k
  refine X.arraylength hx (by rw [eT]; exact A.1) (State.isArrayOf_alike hZ.alike A.2.1) hg hs hd target ?_
  rw [S]
  simp only [List.size_toArray, hn]
  exact k
end OwnA
end Jvm.RoadKit
namespace Jvm.RoadKit
open Jvm.FP Jvm.Free.Fl
theorem DInt_nz {i : Int} {x : UInt64} (h : Core.DInt i x) (hi : i ≠ 0) : Nz64 x := nz64_core.mpr fun z => by
  obtain ⟨s, q, e⟩ := z
  have h' : Core.Whole i (Core.val64 x) := h
  rw [e] at h'
  exact hi ((Core.whole_zero h').mp rfl)
theorem DInt_one : Core.DInt 1 4607182418800017408 := Core.dint_one
end Jvm.RoadKit
namespace Jvm.RoadKit
open Jvm.FP Jvm.Free.Fl Op
theorem cmpD_le {i j : Int} {x y : UInt64} (hx : Core.DInt i x) (hy : Core.DInt j y) (h : i ≤ j) (o : ClassFile.CmpOp) : ∃ v : Int32, cmpValue (FP.dcmp x y) o = v ∧ ¬ (0 : Int32) < v := by
  by_cases q : i < j
  · exact ⟨-1, cmpD_lt hx hy q o, by decide⟩
  · exact ⟨0, cmpD_eq hx hy (by omega) o, by decide⟩
theorem cmpD_ge {i j : Int} {x y : UInt64} (hx : Core.DInt i x) (hy : Core.DInt j y) (h : j ≤ i) (o : ClassFile.CmpOp) : ∃ v : Int32, cmpValue (FP.dcmp x y) o = v ∧ ¬ v < (0 : Int32) := by
  by_cases q : j < i
  · exact ⟨1, cmpD_gt hx hy q o, by decide⟩
  · exact ⟨0, cmpD_eq hx hy (by omega) o, by decide⟩
end Jvm.RoadKit
namespace Jvm.RoadKit
open Jvm.Free
theorem cmpL_le {x y : Int64} (h : ¬ y.toInt < x.toInt) : ∃ v : Int32, lcmpW x y = v ∧ ¬ (0 : Int32) < v := by
  by_cases q : x.toInt < y.toInt
  · exact ⟨-1, cmpL_lt (Int64.lt_iff_toInt_lt.mpr q), by decide⟩
  · exact ⟨0, cmpL_eq (Int64.toInt_inj.mp (by omega)), by decide⟩
theorem cmpL_gtI {x y : Int64} (h : y.toInt < x.toInt) : lcmpW x y = 1 := cmpL_gt (Int64.lt_iff_toInt_lt.mpr h)
end Jvm.RoadKit
namespace Jvm.RoadKit
open Jvm.Free
theorem cmpL_ge {x y : Int64} (h : ¬ x.toInt < y.toInt) : ∃ v : Int32, lcmpW x y = v ∧ ¬ v < (0 : Int32) := by
  by_cases q : y.toInt < x.toInt
  · exact ⟨1, cmpL_gtI q, by decide⟩
  · exact ⟨0, cmpL_eq (Int64.toInt_inj.mp (by omega)), by decide⟩
end Jvm.RoadKit
namespace Jvm.RoadKit
section OwnN
theorem own_mb {i j : Int} {A B : Nat} (hi : i.natAbs ≤ A) (hj : j.natAbs ≤ B) : (i * j).natAbs ≤ A * B := by rw [Int.natAbs_mul]; exact Nat.mul_le_mul hi hj
theorem own_mb2 {i j : Int} {A B : Nat} (hi : -(A : Int) ≤ i ∧ i ≤ A) (hj : -(B : Int) ≤ j ∧ j ≤ B) : -((A * B : Nat) : Int) ≤ i * j ∧ i * j ≤ ((A * B : Nat) : Int) := by
  have h := own_mb (i := i) (j := j) (A := A) (B := B) (by omega) (by omega)
  omega
theorem own_ladd {a b : Int64} (h1 : -9223372036854775808 ≤ a.toInt + b.toInt) (h2 : a.toInt + b.toInt < 9223372036854775808) : (a + b).toInt = a.toInt + b.toInt := by
  have := c_ladd a b; have := rng64 (a + b); omega
theorem own_lsub {a b : Int64} (h1 : -9223372036854775808 ≤ a.toInt - b.toInt) (h2 : a.toInt - b.toInt < 9223372036854775808) : (a - b).toInt = a.toInt - b.toInt := by
  have := c_lsub a b; have := rng64 (a - b); omega
theorem own_lmul {a b : Int64} (h : (a.toInt * b.toInt).natAbs < 9223372036854775808) : (a * b).toInt = a.toInt * b.toInt := by
  have := c_lmul a b; have := rng64 (a * b); omega
theorem own_short (x : Int32) : (x.toInt16.toInt32).toInt.natAbs ≤ 32768 := by
  have := c_i2s x; omega
theorem own_and3 (x : Int32) : (x &&& 3) = 0 ∨ (x &&& 3) = 1 ∨ (x &&& 3) = 2 ∨ (x &&& 3) = 3 := by
  have h := c_and x 3 (by decide)
  have e : (3 : Int32).toInt = 3 := by decide
  simp only [← Int32.toInt_inj]
  rw [show (0 : Int32).toInt = 0 from by decide, show (1 : Int32).toInt = 1 from by decide, show (2 : Int32).toInt = 2 from by decide, e]
  omega
end OwnN
end Jvm.RoadKit
namespace Jvm.Pilot.@@N@@
open Jvm Jvm.ClassFile Sem Op Lib Jvm.Free Jvm.Stand Jvm.LawKit Jvm.RoadKit Jvm.FP Jvm.Free.Fl Bundle Jvm.Pilot.@@N@@.Jvm.D
theorem own_shr16 (x : Int32) : (x >>> ((16 : Int32) &&& 31)).toInt.natAbs ≤ 32768 := by
  have h := c_ishr x 16 16 (by decide)
  have r := rng32 x
  rw [h]
  have e : ((2 ^ 16 : Nat) : Int) = 65536 := by decide
  rw [e]
  omega
theorem d2_0 : decode jdk_30_method_1_code 0 = .ok (.aload_n 0, 1) := by decide +kernel
theorem d2_1 : decode jdk_30_method_1_code 1 = .ok (.invokespecial 1, 3) := by decide +kernel
theorem d2_4 : decode jdk_30_method_1_code 4 = .ok (.return_, 1) := by decide +kernel
theorem pn0 : plainName "java/lang/Record" = true := by first | (simp [plainName, overriddenIn]; done) | decide +kernel
theorem pd0 : parseMethodDescriptor "()V" = some ⟨[], none⟩ := by decide +kernel
theorem ef_rm_rec (m : MethodId) (x0 : Addr) : entryFrame m #[(.ref x0)] 1 = mkF m 0 #[.val (.ref x0)] [] := by first | (simp [entryFrame, mkF, argsToLocals, Value.category, maxLocals]; done) | rfl
set_option maxRecDepth 65536 in
set_option maxHeartbeats 40000000 in
theorem rm_rec (l : Launch) (Z : State) (a0 : Array Value) (hw : ∀ d ∈ tables_1, d.before a0 Z = true) (a : Addr) (h0 : Heap) (n0 : Nat) (Z0 : n0 ≤ h0.size)  :
    Does l (⟨"java/lang/Record", "<init>", "()V"⟩ : MethodName) jdk_30_method_1_code 1 none [] ({ frames := 1, cells := 0, slots := 0, locals := 12 } : Room) Z #[(.ref a)] h0 (fun v h L => v = none ∧ Fr n0 L ∧ h = h0) := by
  refine Does.of (plainFor_of_name pn0) ?_
  intro p e s m below meth c s₁ hx hby hml hret hlk hZ hown hnm X0 e0
  have N0 := Fr.nil n0
  refine Goes.cast (g' := mkF m 0 #[.val (.ref a)] []) (ef_rm_rec m a) ?_
  refine Goes.by (T' := s₁) (g' := (mkF m 1 #[.val (.ref a)] [(.ref a)])) (fun _ k => XS.aloadN X0.here hx rfl (hb hby d2_0) rfl rfl k) ?_
  obtain ⟨T1, X1, e1, st1⟩ := initO X0 hx hZ hown (hw _ (List.mem_of_getElem? (i := 11) rfl)) (hw _ (List.mem_of_getElem? (i := 12) rfl)) (hw _ (List.mem_of_getElem? (i := 13) rfl)) e0 (g := (mkF m 1 #[.val (.ref a)] [(.ref a)])) rfl (by rw [hml]; rfl) rfl (hb hby d2_1) (by decide) (W := 0) (by show 2 * 0 + _ ≤ _; exact Nat.le_of_eq rfl) (by decide)
  refine Goes.by (T' := T1) (g' := (mkF m 4 #[.val (.ref a)] [])) st1 ?_
  exact outV X1 hx hlk hret (hb hby d2_4) (by rw [e1]; exact ⟨rfl, N0, rfl⟩) (by decide) (by decide)
theorem d1_0 : decode prog_19_method_1_code 0 = .ok (.aload_n 0, 1) := by decide +kernel
theorem d1_1 : decode prog_19_method_1_code 1 = .ok (.invokespecial 1, 3) := by decide +kernel
theorem d1_4 : decode prog_19_method_1_code 4 = .ok (.aload_n 0, 1) := by decide +kernel
theorem d1_5 : decode prog_19_method_1_code 5 = .ok (.dload_n 1, 1) := by decide +kernel
theorem d1_6 : decode prog_19_method_1_code 6 = .ok (.putfield 7, 3) := by decide +kernel
theorem d1_9 : decode prog_19_method_1_code 9 = .ok (.aload_n 0, 1) := by decide +kernel
theorem d1_10 : decode prog_19_method_1_code 10 = .ok (.dload_n 3, 1) := by decide +kernel
theorem d1_11 : decode prog_19_method_1_code 11 = .ok (.putfield 13, 3) := by decide +kernel
theorem d1_14 : decode prog_19_method_1_code 14 = .ok (.aload_n 0, 1) := by decide +kernel
theorem d1_15 : decode prog_19_method_1_code 15 = .ok (.dload 5, 2) := by decide +kernel
theorem d1_17 : decode prog_19_method_1_code 17 = .ok (.putfield 16, 3) := by decide +kernel
theorem d1_20 : decode prog_19_method_1_code 20 = .ok (.aload_n 0, 1) := by decide +kernel
theorem d1_21 : decode prog_19_method_1_code 21 = .ok (.dload 7, 2) := by decide +kernel
theorem d1_23 : decode prog_19_method_1_code 23 = .ok (.putfield 19, 3) := by decide +kernel
theorem d1_26 : decode prog_19_method_1_code 26 = .ok (.return_, 1) := by decide +kernel
theorem pn1 : plainName "com/example/attitude_bridge/attitudebridge/Quaternion" = true := by first | (simp [plainName, overriddenIn]; done) | decide +kernel
theorem pd1 : parseMethodDescriptor "(DDDD)V" = some ⟨[.double, .double, .double, .double], none⟩ := by decide +kernel
theorem ef_rm_init (m : MethodId) (x0 : Addr) (x1 : UInt64) (x2 : UInt64) (x3 : UInt64) (x4 : UInt64) : entryFrame m #[(.ref x0), (.double x1), (.double x2), (.double x3), (.double x4)] 9 = mkF m 0 #[.val (.ref x0), .val (.double x1), .second, .val (.double x2), .second, .val (.double x3), .second, .val (.double x4), .second] [] := by first | (simp [entryFrame, mkF, argsToLocals, Value.category, maxLocals]; done) | rfl
set_option maxRecDepth 65536 in
set_option maxHeartbeats 40000000 in
theorem rm_init (l : Launch) (Z : State) (a0 : Array Value) (hw : ∀ d ∈ tables_1, d.before a0 Z = true) (a : Addr) (u0 u1 u2 u3 : UInt64) (h0 : Heap) (n0 : Nat) (Z0 : n0 ≤ h0.size) (EA : Exa Z h0 a "com/example/attitude_bridge/attitudebridge/Quaternion") (F_w_a : Fld Z h0 a "com/example/attitude_bridge/attitudebridge/Quaternion" "w" "D" (.double (0 : UInt64))) (F_x_a : Fld Z h0 a "com/example/attitude_bridge/attitudebridge/Quaternion" "x" "D" (.double (0 : UInt64))) (F_y_a : Fld Z h0 a "com/example/attitude_bridge/attitudebridge/Quaternion" "y" "D" (.double (0 : UInt64))) (F_z_a : Fld Z h0 a "com/example/attitude_bridge/attitudebridge/Quaternion" "z" "D" (.double (0 : UInt64))) (ga : n0 ≤ a) :
    Does l (⟨"com/example/attitude_bridge/attitudebridge/Quaternion", "<init>", "(DDDD)V"⟩ : MethodName) prog_19_method_1_code 9 none [] ({ frames := 2, cells := 0, slots := 0, locals := 24 } : Room) Z #[(.ref a), (.double u0), (.double u1), (.double u2), (.double u3)] h0 (fun v h L => v = none ∧ Fld Z h a "com/example/attitude_bridge/attitudebridge/Quaternion" "w" "D" (.double u0) ∧ Fld Z h a "com/example/attitude_bridge/attitudebridge/Quaternion" "x" "D" (.double u1) ∧ Fld Z h a "com/example/attitude_bridge/attitudebridge/Quaternion" "y" "D" (.double u2) ∧ Fld Z h a "com/example/attitude_bridge/attitudebridge/Quaternion" "z" "D" (.double u3) ∧ Keep h0 h [a] ∧ Fr n0 L) := by
  refine Does.of (plainFor_of_name pn1) ?_
  intro p e s m below meth c s₁ hx hby hml hret hlk hZ hown hnm X0 e0
  have N0 := Fr.nil n0
  refine Goes.cast (g' := mkF m 0 #[.val (.ref a), .val (.double u0), .second, .val (.double u1), .second, .val (.double u2), .second, .val (.double u3), .second] []) (ef_rm_init m a u0 u1 u2 u3) ?_
  have K0 := Keep.refl h0 [a]
  refine Goes.by (T' := s₁) (g' := (mkF m 1 #[.val (.ref a), .val (.double u0), .second, .val (.double u1), .second, .val (.double u2), .second, .val (.double u3), .second] [(.ref a)])) (fun _ k => XS.aloadN X0.here hx rfl (hb hby d1_0) rfl rfl k) ?_
  obtain ⟨v2, T2, L2, X2, hQ2, st2⟩ := callI X0 hx hZ (y := (⟨"java/lang/Record", "<init>", "()V"⟩ : MethodName)) rfl hown (hw _ (List.mem_of_getElem? (i := 6) rfl)) (hw _ (List.mem_of_getElem? (i := 7) rfl)) (hw _ (List.mem_of_getElem? (i := 10) rfl)) (hw _ (List.mem_of_getElem? (i := 9) rfl)) (by decide) e0 (a := a) (argsL := []) (rest := []) (W := 0) (rm_rec l Z a0 hw a h0 n0 Z0) rfl (by decide) (by decide) (by decide) (by decide) (g := (mkF m 1 #[.val (.ref a), .val (.double u0), .second, .val (.double u1), .second, .val (.double u2), .second, .val (.double u3), .second] [(.ref a)])) rfl (by rw [hml]; rfl) (lenOf pd0 rfl) rfl (by show 2 * 0 + _ ≤ _; exact Nat.le_of_eq rfl) (hb hby d1_1)
  obtain ⟨rfl, NL2, hk2⟩ := hQ2
  have N0 := Fr.app N0 NL2
  refine Goes.by (T' := T2) (g' := (mkF m 4 #[.val (.ref a), .val (.double u0), .second, .val (.double u1), .second, .val (.double u2), .second, .val (.double u3), .second] [])) st2 ?_
  refine Goes.by (T' := T2) (g' := (mkF m 5 #[.val (.ref a), .val (.double u0), .second, .val (.double u1), .second, .val (.double u2), .second, .val (.double u3), .second] [(.ref a)])) (fun _ k => XS.aloadN X2.here hx rfl (hb hby d1_4) rfl rfl k) ?_
  refine Goes.by (T' := T2) (g' := (mkF m 6 #[.val (.ref a), .val (.double u0), .second, .val (.double u1), .second, .val (.double u2), .second, .val (.double u3), .second] [(.double u0), (.ref a)])) (fun _ k => XS.dloadN X2.here hx rfl (hb hby d1_5) rfl k) ?_
  obtain ⟨T3, h3, X3, e3, W3, st3⟩ := putF X2 hx hZ hown (host := "") (Or.inl (hw _ (List.mem_of_getElem? (i := 14) rfl))) Via.refl hk2 F_w_a EA (Or.inr ⟨(hw _ (List.mem_of_getElem? (i := 15) rfl)), rfl, hnm⟩) (hw _ (List.mem_of_getElem? (i := 1) rfl)) (ty := .double) (by decide) rfl rfl (g := (mkF m 6 #[.val (.ref a), .val (.double u0), .second, .val (.double u1), .second, .val (.double u2), .second, .val (.double u3), .second] [(.double u0), (.ref a)])) rfl rfl (hb hby d1_6)
  have N0 := Fr.snoc X3 N0 ga
  have EA := EA.wr W3
  have F_w_a := F_w_a.same W3
  have F_x_a := F_x_a.other W3 (Or.inr (slot_ne (t := .double) (t' := .double) (Or.inr (hw _ (List.mem_of_getElem? (i := 17) rfl))) (Or.inr (hw _ (List.mem_of_getElem? (i := 15) rfl))) (by decide) (by decide) (by decide)))
  have F_y_a := F_y_a.other W3 (Or.inr (slot_ne (t := .double) (t' := .double) (Or.inr (hw _ (List.mem_of_getElem? (i := 19) rfl))) (Or.inr (hw _ (List.mem_of_getElem? (i := 15) rfl))) (by decide) (by decide) (by decide)))
  have F_z_a := F_z_a.other W3 (Or.inr (slot_ne (t := .double) (t' := .double) (Or.inr (hw _ (List.mem_of_getElem? (i := 21) rfl))) (Or.inr (hw _ (List.mem_of_getElem? (i := 15) rfl))) (by decide) (by decide) (by decide)))
  have Z0 := Nat.le_trans Z0 (Nat.le_of_eq W3.size.symm)
  have K0 := K0.wr W3 (Or.inl (List.mem_singleton.mpr rfl))
  refine Goes.by (T' := T3) (g' := (mkF m 9 #[.val (.ref a), .val (.double u0), .second, .val (.double u1), .second, .val (.double u2), .second, .val (.double u3), .second] [])) st3 ?_
  refine Goes.by (T' := T3) (g' := (mkF m 10 #[.val (.ref a), .val (.double u0), .second, .val (.double u1), .second, .val (.double u2), .second, .val (.double u3), .second] [(.ref a)])) (fun _ k => XS.aloadN X3.here hx rfl (hb hby d1_9) rfl rfl k) ?_
  refine Goes.by (T' := T3) (g' := (mkF m 11 #[.val (.ref a), .val (.double u0), .second, .val (.double u1), .second, .val (.double u2), .second, .val (.double u3), .second] [(.double u1), (.ref a)])) (fun _ k => XS.dloadN X3.here hx rfl (hb hby d1_10) rfl k) ?_
  obtain ⟨T4, h4, X4, e4, W4, st4⟩ := putF X3 hx hZ hown (host := "") (Or.inl (hw _ (List.mem_of_getElem? (i := 16) rfl))) Via.refl e3 F_x_a EA (Or.inr ⟨(hw _ (List.mem_of_getElem? (i := 17) rfl)), rfl, hnm⟩) (hw _ (List.mem_of_getElem? (i := 1) rfl)) (ty := .double) (by decide) rfl rfl (g := (mkF m 11 #[.val (.ref a), .val (.double u0), .second, .val (.double u1), .second, .val (.double u2), .second, .val (.double u3), .second] [(.double u1), (.ref a)])) rfl rfl (hb hby d1_11)
  have N0 := Fr.snoc X4 N0 ga
  have EA := EA.wr W4
  have F_w_a := F_w_a.other W4 (Or.inr (slot_ne (t := .double) (t' := .double) (Or.inr (hw _ (List.mem_of_getElem? (i := 15) rfl))) (Or.inr (hw _ (List.mem_of_getElem? (i := 17) rfl))) (by decide) (by decide) (by decide)))
  have F_x_a := F_x_a.same W4
  have F_y_a := F_y_a.other W4 (Or.inr (slot_ne (t := .double) (t' := .double) (Or.inr (hw _ (List.mem_of_getElem? (i := 19) rfl))) (Or.inr (hw _ (List.mem_of_getElem? (i := 17) rfl))) (by decide) (by decide) (by decide)))
  have F_z_a := F_z_a.other W4 (Or.inr (slot_ne (t := .double) (t' := .double) (Or.inr (hw _ (List.mem_of_getElem? (i := 21) rfl))) (Or.inr (hw _ (List.mem_of_getElem? (i := 17) rfl))) (by decide) (by decide) (by decide)))
  have Z0 := Nat.le_trans Z0 (Nat.le_of_eq W4.size.symm)
  have K0 := K0.wr W4 (Or.inl (List.mem_singleton.mpr rfl))
  refine Goes.by (T' := T4) (g' := (mkF m 14 #[.val (.ref a), .val (.double u0), .second, .val (.double u1), .second, .val (.double u2), .second, .val (.double u3), .second] [])) st4 ?_
  refine Goes.by (T' := T4) (g' := (mkF m 15 #[.val (.ref a), .val (.double u0), .second, .val (.double u1), .second, .val (.double u2), .second, .val (.double u3), .second] [(.ref a)])) (fun _ k => XS.aloadN X4.here hx rfl (hb hby d1_14) rfl rfl k) ?_
  refine Goes.by (T' := T4) (g' := (mkF m 17 #[.val (.ref a), .val (.double u0), .second, .val (.double u1), .second, .val (.double u2), .second, .val (.double u3), .second] [(.double u2), (.ref a)])) (fun _ k => XS.dload X4.here hx rfl (hb hby d1_15) rfl k) ?_
  obtain ⟨T5, h5, X5, e5, W5, st5⟩ := putF X4 hx hZ hown (host := "") (Or.inl (hw _ (List.mem_of_getElem? (i := 18) rfl))) Via.refl e4 F_y_a EA (Or.inr ⟨(hw _ (List.mem_of_getElem? (i := 19) rfl)), rfl, hnm⟩) (hw _ (List.mem_of_getElem? (i := 1) rfl)) (ty := .double) (by decide) rfl rfl (g := (mkF m 17 #[.val (.ref a), .val (.double u0), .second, .val (.double u1), .second, .val (.double u2), .second, .val (.double u3), .second] [(.double u2), (.ref a)])) rfl rfl (hb hby d1_17)
  have N0 := Fr.snoc X5 N0 ga
  have EA := EA.wr W5
  have F_w_a := F_w_a.other W5 (Or.inr (slot_ne (t := .double) (t' := .double) (Or.inr (hw _ (List.mem_of_getElem? (i := 15) rfl))) (Or.inr (hw _ (List.mem_of_getElem? (i := 19) rfl))) (by decide) (by decide) (by decide)))
  have F_x_a := F_x_a.other W5 (Or.inr (slot_ne (t := .double) (t' := .double) (Or.inr (hw _ (List.mem_of_getElem? (i := 17) rfl))) (Or.inr (hw _ (List.mem_of_getElem? (i := 19) rfl))) (by decide) (by decide) (by decide)))
  have F_y_a := F_y_a.same W5
  have F_z_a := F_z_a.other W5 (Or.inr (slot_ne (t := .double) (t' := .double) (Or.inr (hw _ (List.mem_of_getElem? (i := 21) rfl))) (Or.inr (hw _ (List.mem_of_getElem? (i := 19) rfl))) (by decide) (by decide) (by decide)))
  have Z0 := Nat.le_trans Z0 (Nat.le_of_eq W5.size.symm)
  have K0 := K0.wr W5 (Or.inl (List.mem_singleton.mpr rfl))
  refine Goes.by (T' := T5) (g' := (mkF m 20 #[.val (.ref a), .val (.double u0), .second, .val (.double u1), .second, .val (.double u2), .second, .val (.double u3), .second] [])) st5 ?_
  refine Goes.by (T' := T5) (g' := (mkF m 21 #[.val (.ref a), .val (.double u0), .second, .val (.double u1), .second, .val (.double u2), .second, .val (.double u3), .second] [(.ref a)])) (fun _ k => XS.aloadN X5.here hx rfl (hb hby d1_20) rfl rfl k) ?_
  refine Goes.by (T' := T5) (g' := (mkF m 23 #[.val (.ref a), .val (.double u0), .second, .val (.double u1), .second, .val (.double u2), .second, .val (.double u3), .second] [(.double u3), (.ref a)])) (fun _ k => XS.dload X5.here hx rfl (hb hby d1_21) rfl k) ?_
  obtain ⟨T6, h6, X6, e6, W6, st6⟩ := putF X5 hx hZ hown (host := "") (Or.inl (hw _ (List.mem_of_getElem? (i := 20) rfl))) Via.refl e5 F_z_a EA (Or.inr ⟨(hw _ (List.mem_of_getElem? (i := 21) rfl)), rfl, hnm⟩) (hw _ (List.mem_of_getElem? (i := 1) rfl)) (ty := .double) (by decide) rfl rfl (g := (mkF m 23 #[.val (.ref a), .val (.double u0), .second, .val (.double u1), .second, .val (.double u2), .second, .val (.double u3), .second] [(.double u3), (.ref a)])) rfl rfl (hb hby d1_23)
  have N0 := Fr.snoc X6 N0 ga
  have EA := EA.wr W6
  have F_w_a := F_w_a.other W6 (Or.inr (slot_ne (t := .double) (t' := .double) (Or.inr (hw _ (List.mem_of_getElem? (i := 15) rfl))) (Or.inr (hw _ (List.mem_of_getElem? (i := 21) rfl))) (by decide) (by decide) (by decide)))
  have F_x_a := F_x_a.other W6 (Or.inr (slot_ne (t := .double) (t' := .double) (Or.inr (hw _ (List.mem_of_getElem? (i := 17) rfl))) (Or.inr (hw _ (List.mem_of_getElem? (i := 21) rfl))) (by decide) (by decide) (by decide)))
  have F_y_a := F_y_a.other W6 (Or.inr (slot_ne (t := .double) (t' := .double) (Or.inr (hw _ (List.mem_of_getElem? (i := 19) rfl))) (Or.inr (hw _ (List.mem_of_getElem? (i := 21) rfl))) (by decide) (by decide) (by decide)))
  have F_z_a := F_z_a.same W6
  have Z0 := Nat.le_trans Z0 (Nat.le_of_eq W6.size.symm)
  have K0 := K0.wr W6 (Or.inl (List.mem_singleton.mpr rfl))
  refine Goes.by (T' := T6) (g' := (mkF m 26 #[.val (.ref a), .val (.double u0), .second, .val (.double u1), .second, .val (.double u2), .second, .val (.double u3), .second] [])) st6 ?_
  exact outV X6 hx hlk hret (hb hby d1_26) (by rw [e6]; exact ⟨rfl, F_w_a, F_x_a, F_y_a, F_z_a, K0, N0⟩) (by decide) (by decide)
theorem d4_0 : decode prog_19_method_3_code 0 = .ok (.new 8, 3) := by decide +kernel
theorem d4_3 : decode prog_19_method_3_code 3 = .ok (.dup, 1) := by decide +kernel
theorem d4_4 : decode prog_19_method_3_code 4 = .ok (.aload_n 0, 1) := by decide +kernel
theorem d4_5 : decode prog_19_method_3_code 5 = .ok (.getfield 7, 3) := by decide +kernel
theorem d4_8 : decode prog_19_method_3_code 8 = .ok (.aload_n 1, 1) := by decide +kernel
theorem d4_9 : decode prog_19_method_3_code 9 = .ok (.getfield 7, 3) := by decide +kernel
theorem d4_12 : decode prog_19_method_3_code 12 = .ok (.dmul, 1) := by decide +kernel
theorem d4_13 : decode prog_19_method_3_code 13 = .ok (.aload_n 0, 1) := by decide +kernel
theorem d4_14 : decode prog_19_method_3_code 14 = .ok (.getfield 13, 3) := by decide +kernel
theorem d4_17 : decode prog_19_method_3_code 17 = .ok (.aload_n 1, 1) := by decide +kernel
theorem d4_18 : decode prog_19_method_3_code 18 = .ok (.getfield 13, 3) := by decide +kernel
theorem d4_21 : decode prog_19_method_3_code 21 = .ok (.dmul, 1) := by decide +kernel
theorem d4_22 : decode prog_19_method_3_code 22 = .ok (.dsub, 1) := by decide +kernel
theorem d4_23 : decode prog_19_method_3_code 23 = .ok (.aload_n 0, 1) := by decide +kernel
theorem d4_24 : decode prog_19_method_3_code 24 = .ok (.getfield 16, 3) := by decide +kernel
theorem d4_27 : decode prog_19_method_3_code 27 = .ok (.aload_n 1, 1) := by decide +kernel
theorem d4_28 : decode prog_19_method_3_code 28 = .ok (.getfield 16, 3) := by decide +kernel
theorem d4_31 : decode prog_19_method_3_code 31 = .ok (.dmul, 1) := by decide +kernel
theorem d4_32 : decode prog_19_method_3_code 32 = .ok (.dsub, 1) := by decide +kernel
theorem d4_33 : decode prog_19_method_3_code 33 = .ok (.aload_n 0, 1) := by decide +kernel
theorem d4_34 : decode prog_19_method_3_code 34 = .ok (.getfield 19, 3) := by decide +kernel
theorem d4_37 : decode prog_19_method_3_code 37 = .ok (.aload_n 1, 1) := by decide +kernel
theorem d4_38 : decode prog_19_method_3_code 38 = .ok (.getfield 19, 3) := by decide +kernel
theorem d4_41 : decode prog_19_method_3_code 41 = .ok (.dmul, 1) := by decide +kernel
theorem d4_42 : decode prog_19_method_3_code 42 = .ok (.dsub, 1) := by decide +kernel
theorem d4_43 : decode prog_19_method_3_code 43 = .ok (.aload_n 0, 1) := by decide +kernel
theorem d4_44 : decode prog_19_method_3_code 44 = .ok (.getfield 7, 3) := by decide +kernel
theorem d4_47 : decode prog_19_method_3_code 47 = .ok (.aload_n 1, 1) := by decide +kernel
theorem d4_48 : decode prog_19_method_3_code 48 = .ok (.getfield 13, 3) := by decide +kernel
theorem d4_51 : decode prog_19_method_3_code 51 = .ok (.dmul, 1) := by decide +kernel
theorem d4_52 : decode prog_19_method_3_code 52 = .ok (.aload_n 0, 1) := by decide +kernel
theorem d4_53 : decode prog_19_method_3_code 53 = .ok (.getfield 13, 3) := by decide +kernel
theorem d4_56 : decode prog_19_method_3_code 56 = .ok (.aload_n 1, 1) := by decide +kernel
theorem d4_57 : decode prog_19_method_3_code 57 = .ok (.getfield 7, 3) := by decide +kernel
theorem d4_60 : decode prog_19_method_3_code 60 = .ok (.dmul, 1) := by decide +kernel
theorem d4_61 : decode prog_19_method_3_code 61 = .ok (.dadd, 1) := by decide +kernel
theorem d4_62 : decode prog_19_method_3_code 62 = .ok (.aload_n 0, 1) := by decide +kernel
theorem d4_63 : decode prog_19_method_3_code 63 = .ok (.getfield 16, 3) := by decide +kernel
theorem d4_66 : decode prog_19_method_3_code 66 = .ok (.aload_n 1, 1) := by decide +kernel
theorem d4_67 : decode prog_19_method_3_code 67 = .ok (.getfield 19, 3) := by decide +kernel
theorem d4_70 : decode prog_19_method_3_code 70 = .ok (.dmul, 1) := by decide +kernel
theorem d4_71 : decode prog_19_method_3_code 71 = .ok (.dadd, 1) := by decide +kernel
theorem d4_72 : decode prog_19_method_3_code 72 = .ok (.aload_n 0, 1) := by decide +kernel
theorem d4_73 : decode prog_19_method_3_code 73 = .ok (.getfield 19, 3) := by decide +kernel
theorem d4_76 : decode prog_19_method_3_code 76 = .ok (.aload_n 1, 1) := by decide +kernel
theorem d4_77 : decode prog_19_method_3_code 77 = .ok (.getfield 16, 3) := by decide +kernel
theorem d4_80 : decode prog_19_method_3_code 80 = .ok (.dmul, 1) := by decide +kernel
theorem d4_81 : decode prog_19_method_3_code 81 = .ok (.dsub, 1) := by decide +kernel
theorem d4_82 : decode prog_19_method_3_code 82 = .ok (.aload_n 0, 1) := by decide +kernel
theorem d4_83 : decode prog_19_method_3_code 83 = .ok (.getfield 7, 3) := by decide +kernel
theorem d4_86 : decode prog_19_method_3_code 86 = .ok (.aload_n 1, 1) := by decide +kernel
theorem d4_87 : decode prog_19_method_3_code 87 = .ok (.getfield 16, 3) := by decide +kernel
theorem d4_90 : decode prog_19_method_3_code 90 = .ok (.dmul, 1) := by decide +kernel
theorem d4_91 : decode prog_19_method_3_code 91 = .ok (.aload_n 0, 1) := by decide +kernel
theorem d4_92 : decode prog_19_method_3_code 92 = .ok (.getfield 13, 3) := by decide +kernel
theorem d4_95 : decode prog_19_method_3_code 95 = .ok (.aload_n 1, 1) := by decide +kernel
theorem d4_96 : decode prog_19_method_3_code 96 = .ok (.getfield 19, 3) := by decide +kernel
theorem d4_99 : decode prog_19_method_3_code 99 = .ok (.dmul, 1) := by decide +kernel
theorem d4_100 : decode prog_19_method_3_code 100 = .ok (.dsub, 1) := by decide +kernel
theorem d4_101 : decode prog_19_method_3_code 101 = .ok (.aload_n 0, 1) := by decide +kernel
theorem d4_102 : decode prog_19_method_3_code 102 = .ok (.getfield 16, 3) := by decide +kernel
theorem d4_105 : decode prog_19_method_3_code 105 = .ok (.aload_n 1, 1) := by decide +kernel
theorem d4_106 : decode prog_19_method_3_code 106 = .ok (.getfield 7, 3) := by decide +kernel
theorem d4_109 : decode prog_19_method_3_code 109 = .ok (.dmul, 1) := by decide +kernel
theorem d4_110 : decode prog_19_method_3_code 110 = .ok (.dadd, 1) := by decide +kernel
theorem d4_111 : decode prog_19_method_3_code 111 = .ok (.aload_n 0, 1) := by decide +kernel
theorem d4_112 : decode prog_19_method_3_code 112 = .ok (.getfield 19, 3) := by decide +kernel
theorem d4_115 : decode prog_19_method_3_code 115 = .ok (.aload_n 1, 1) := by decide +kernel
theorem d4_116 : decode prog_19_method_3_code 116 = .ok (.getfield 13, 3) := by decide +kernel
theorem d4_119 : decode prog_19_method_3_code 119 = .ok (.dmul, 1) := by decide +kernel
theorem d4_120 : decode prog_19_method_3_code 120 = .ok (.dadd, 1) := by decide +kernel
theorem d4_121 : decode prog_19_method_3_code 121 = .ok (.aload_n 0, 1) := by decide +kernel
theorem d4_122 : decode prog_19_method_3_code 122 = .ok (.getfield 7, 3) := by decide +kernel
theorem d4_125 : decode prog_19_method_3_code 125 = .ok (.aload_n 1, 1) := by decide +kernel
theorem d4_126 : decode prog_19_method_3_code 126 = .ok (.getfield 19, 3) := by decide +kernel
theorem d4_129 : decode prog_19_method_3_code 129 = .ok (.dmul, 1) := by decide +kernel
theorem d4_130 : decode prog_19_method_3_code 130 = .ok (.aload_n 0, 1) := by decide +kernel
theorem d4_131 : decode prog_19_method_3_code 131 = .ok (.getfield 13, 3) := by decide +kernel
theorem d4_134 : decode prog_19_method_3_code 134 = .ok (.aload_n 1, 1) := by decide +kernel
theorem d4_135 : decode prog_19_method_3_code 135 = .ok (.getfield 16, 3) := by decide +kernel
theorem d4_138 : decode prog_19_method_3_code 138 = .ok (.dmul, 1) := by decide +kernel
theorem d4_139 : decode prog_19_method_3_code 139 = .ok (.dadd, 1) := by decide +kernel
theorem d4_140 : decode prog_19_method_3_code 140 = .ok (.aload_n 0, 1) := by decide +kernel
theorem d4_141 : decode prog_19_method_3_code 141 = .ok (.getfield 16, 3) := by decide +kernel
theorem d4_144 : decode prog_19_method_3_code 144 = .ok (.aload_n 1, 1) := by decide +kernel
theorem d4_145 : decode prog_19_method_3_code 145 = .ok (.getfield 13, 3) := by decide +kernel
theorem d4_148 : decode prog_19_method_3_code 148 = .ok (.dmul, 1) := by decide +kernel
theorem d4_149 : decode prog_19_method_3_code 149 = .ok (.dsub, 1) := by decide +kernel
theorem d4_150 : decode prog_19_method_3_code 150 = .ok (.aload_n 0, 1) := by decide +kernel
theorem d4_151 : decode prog_19_method_3_code 151 = .ok (.getfield 19, 3) := by decide +kernel
theorem d4_154 : decode prog_19_method_3_code 154 = .ok (.aload_n 1, 1) := by decide +kernel
theorem d4_155 : decode prog_19_method_3_code 155 = .ok (.getfield 7, 3) := by decide +kernel
theorem d4_158 : decode prog_19_method_3_code 158 = .ok (.dmul, 1) := by decide +kernel
theorem d4_159 : decode prog_19_method_3_code 159 = .ok (.dadd, 1) := by decide +kernel
theorem d4_160 : decode prog_19_method_3_code 160 = .ok (.invokespecial 37, 3) := by decide +kernel
theorem d4_163 : decode prog_19_method_3_code 163 = .ok (.areturn, 1) := by decide +kernel
theorem pd2 : parseMethodDescriptor "(Lcom/example/attitude_bridge/attitudebridge/Quaternion;)Lcom/example/attitude_bridge/attitudebridge/Quaternion;" = some ⟨[(.object "com/example/attitude_bridge/attitudebridge/Quaternion")], some (.object "com/example/attitude_bridge/attitudebridge/Quaternion")⟩ := by decide +kernel
theorem ef_rm_times (m : MethodId) (x0 : Addr) (x1 : Addr) : entryFrame m #[(.ref x0), (.ref x1)] 2 = mkF m 0 #[.val (.ref x0), .val (.ref x1)] [] := by first | (simp [entryFrame, mkF, argsToLocals, Value.category, maxLocals]; done) | rfl
set_option maxRecDepth 65536 in
set_option maxHeartbeats 40000000 in
theorem rm_times (l : Launch) (Z : State) (a0 : Array Value) (hw : ∀ d ∈ tables_1, d.before a0 Z = true) (a b : Addr) (u0 u1 u2 u3 v0 v1 v2 v3 : UInt64) (i0 i1 i2 i3 j0 j1 j2 j3 : Int) (h0 : Heap) (n0 : Nat) (Z0 : n0 ≤ h0.size) (F_w_a : Fld Z h0 a "com/example/attitude_bridge/attitudebridge/Quaternion" "w" "D" (.double u0)) (F_x_a : Fld Z h0 a "com/example/attitude_bridge/attitudebridge/Quaternion" "x" "D" (.double u1)) (F_y_a : Fld Z h0 a "com/example/attitude_bridge/attitudebridge/Quaternion" "y" "D" (.double u2)) (F_z_a : Fld Z h0 a "com/example/attitude_bridge/attitudebridge/Quaternion" "z" "D" (.double u3)) (F_w_b : Fld Z h0 b "com/example/attitude_bridge/attitudebridge/Quaternion" "w" "D" (.double v0)) (F_x_b : Fld Z h0 b "com/example/attitude_bridge/attitudebridge/Quaternion" "x" "D" (.double v1)) (F_y_b : Fld Z h0 b "com/example/attitude_bridge/attitudebridge/Quaternion" "y" "D" (.double v2)) (F_z_b : Fld Z h0 b "com/example/attitude_bridge/attitudebridge/Quaternion" "z" "D" (.double v3)) (I0 : Core.DInt i0 u0) (J0 : Core.DInt j0 v0) (bi0 : -32768 ≤ i0 ∧ i0 ≤ 32768) (bj0 : -32768 ≤ j0 ∧ j0 ≤ 32768) (I1 : Core.DInt i1 u1) (J1 : Core.DInt j1 v1) (bi1 : -32768 ≤ i1 ∧ i1 ≤ 32768) (bj1 : -32768 ≤ j1 ∧ j1 ≤ 32768) (I2 : Core.DInt i2 u2) (J2 : Core.DInt j2 v2) (bi2 : -32768 ≤ i2 ∧ i2 ≤ 32768) (bj2 : -32768 ≤ j2 ∧ j2 ≤ 32768) (I3 : Core.DInt i3 u3) (J3 : Core.DInt j3 v3) (bi3 : -32768 ≤ i3 ∧ i3 ≤ 32768) (bj3 : -32768 ≤ j3 ∧ j3 ≤ 32768)  :
    Does l (⟨"com/example/attitude_bridge/attitudebridge/Quaternion", "times", "(Lcom/example/attitude_bridge/attitudebridge/Quaternion;)Lcom/example/attitude_bridge/attitudebridge/Quaternion;"⟩ : MethodName) prog_19_method_3_code 2 (some (.object "com/example/attitude_bridge/attitudebridge/Quaternion")) [] ({ frames := 3, cells := 1, slots := 4, locals := 45 } : Room) Z #[(.ref a), (.ref b)] h0 (fun v h L => ∃ r r0 r1 r2 r3, v = some (.ref r) ∧ h0.size ≤ r ∧ Exa Z h r "com/example/attitude_bridge/attitudebridge/Quaternion" ∧ (Core.DInt (i0 * j0 - i1 * j1 - i2 * j2 - i3 * j3) r0 ∧ Core.DInt (i0 * j1 + i1 * j0 + i2 * j3 - i3 * j2) r1 ∧ Core.DInt (i0 * j2 - i1 * j3 + i2 * j0 + i3 * j1) r2 ∧ Core.DInt (i0 * j3 + i1 * j2 - i2 * j1 + i3 * j0) r3) ∧ Fld Z h r "com/example/attitude_bridge/attitudebridge/Quaternion" "w" "D" (.double r0) ∧ Fld Z h r "com/example/attitude_bridge/attitudebridge/Quaternion" "x" "D" (.double r1) ∧ Fld Z h r "com/example/attitude_bridge/attitudebridge/Quaternion" "y" "D" (.double r2) ∧ Fld Z h r "com/example/attitude_bridge/attitudebridge/Quaternion" "z" "D" (.double r3) ∧ Keep h0 h [] ∧ Fr n0 L) := by
  refine Does.of (plainFor_of_name pn1) ?_
  intro p e s m below meth c s₁ hx hby hml hret hlk hZ hown hnm X0 e0
  have N0 := Fr.nil n0
  refine Goes.cast (g' := mkF m 0 #[.val (.ref a), .val (.ref b)] []) (ef_rm_times m a b) ?_
  have K0 := Keep.refl h0 []
  obtain ⟨T7, h7, X7, e7, E7, A7, D7, -, st7⟩ := newO X0 hx hZ hown (hw _ (List.mem_of_getElem? (i := 27) rfl)) (hw _ (List.mem_of_getElem? (i := 1) rfl)) (hw _ (List.mem_of_getElem? (i := 2) rfl)) e0 (g := (mkF m 0 #[.val (.ref a), .val (.ref b)] [])) rfl (hb hby d4_0) (by decide) (by decide)
  obtain ⟨r, g7⟩ : ∃ z, z = h0.size := ⟨_, rfl⟩
  rw [← g7] at A7 D7 st7
  have ne_a_r : a ≠ r := fun q => Nat.lt_irrefl _ (Nat.lt_of_lt_of_eq F_w_a.lt (g7.symm.trans q.symm))
  have ne_b_r : b ≠ r := fun q => Nat.lt_irrefl _ (Nat.lt_of_lt_of_eq F_w_b.lt (g7.symm.trans q.symm))
  have ge_r : n0 ≤ r := Nat.le_trans Z0 (Nat.le_of_eq g7.symm)
  have sz_r : h0.size ≤ r := Nat.le_trans K0.1 (Nat.le_of_eq g7.symm)
  have F_w_a := F_w_a.ext E7
  have F_x_a := F_x_a.ext E7
  have F_y_a := F_y_a.ext E7
  have F_z_a := F_z_a.ext E7
  have F_w_b := F_w_b.ext E7
  have F_x_b := F_x_b.ext E7
  have F_y_b := F_y_b.ext E7
  have F_z_b := F_z_b.ext E7
  have Z0 := Nat.le_trans Z0 E7.1
  have K0 := K0.ext E7
  have E_r := A7
  have F_w_r : Fld Z h7 r "com/example/attitude_bridge/attitudebridge/Quaternion" "w" "D" (.double (0 : UInt64)) := D7 (Or.inr (hw _ (List.mem_of_getElem? (i := 15) rfl))) (ty := .double) (by decide)
  have F_x_r : Fld Z h7 r "com/example/attitude_bridge/attitudebridge/Quaternion" "x" "D" (.double (0 : UInt64)) := D7 (Or.inr (hw _ (List.mem_of_getElem? (i := 17) rfl))) (ty := .double) (by decide)
  have F_y_r : Fld Z h7 r "com/example/attitude_bridge/attitudebridge/Quaternion" "y" "D" (.double (0 : UInt64)) := D7 (Or.inr (hw _ (List.mem_of_getElem? (i := 19) rfl))) (ty := .double) (by decide)
  have F_z_r : Fld Z h7 r "com/example/attitude_bridge/attitudebridge/Quaternion" "z" "D" (.double (0 : UInt64)) := D7 (Or.inr (hw _ (List.mem_of_getElem? (i := 21) rfl))) (ty := .double) (by decide)
  refine Goes.by (T' := T7) (g' := (mkF m 3 #[.val (.ref a), .val (.ref b)] [(.ref r)])) st7 ?_
  refine Goes.by (T' := T7) (g' := (mkF m 4 #[.val (.ref a), .val (.ref b)] [(.ref r), (.ref r)])) (fun _ k => XS.dup X7.here hx rfl (hb hby d4_3) rfl rfl k) ?_
  refine Goes.by (T' := T7) (g' := (mkF m 5 #[.val (.ref a), .val (.ref b)] [(.ref a), (.ref r), (.ref r)])) (fun _ k => XS.aloadN X7.here hx rfl (hb hby d4_4) rfl rfl k) ?_
  obtain ⟨T8, X8, e8, st8⟩ := getF X7 hx hZ hown (host := "") (Or.inl (hw _ (List.mem_of_getElem? (i := 14) rfl))) Via.refl e7 F_w_a (g := (mkF m 5 #[.val (.ref a), .val (.ref b)] [(.ref a), (.ref r), (.ref r)])) rfl rfl (hb hby d4_5)
  refine Goes.by (T' := T8) (g' := (mkF m 8 #[.val (.ref a), .val (.ref b)] [(.double u0), (.ref r), (.ref r)])) st8 ?_
  refine Goes.by (T' := T8) (g' := (mkF m 9 #[.val (.ref a), .val (.ref b)] [(.ref b), (.double u0), (.ref r), (.ref r)])) (fun _ k => XS.aloadN X8.here hx rfl (hb hby d4_8) rfl rfl k) ?_
  obtain ⟨T9, X9, e9, st9⟩ := getF X8 hx hZ hown (host := "") (Or.inl (hw _ (List.mem_of_getElem? (i := 14) rfl))) Via.refl e8 F_w_b (g := (mkF m 9 #[.val (.ref a), .val (.ref b)] [(.ref b), (.double u0), (.ref r), (.ref r)])) rfl rfl (hb hby d4_9)
  refine Goes.by (T' := T9) (g' := (mkF m 12 #[.val (.ref a), .val (.ref b)] [(.double v0), (.double u0), (.ref r), (.ref r)])) st9 ?_
  obtain ⟨p_m0, hp_m0⟩ : ∃ z : Int, z = i0 * j0 := ⟨_, rfl⟩
  have bp_m0 : -1073741824 ≤ p_m0 ∧ p_m0 ≤ 1073741824 := by rw [hp_m0]; exact own_mb2 (A := 32768) (B := 32768) (by omega) (by omega)
  obtain ⟨m0, q_m0⟩ : ∃ zz, FP.dmul u0 v0 = zz := ⟨_, rfl⟩
  have D_m0 : Core.DInt p_m0 m0 := by rw [hp_m0]; exact DInt_mul q_m0 I0 J0 (by rw [← hp_m0]; omega)
  refine Goes.by (T' := T9) (g' := (mkF m 13 #[.val (.ref a), .val (.ref b)] [(.double m0), (.ref r), (.ref r)])) (fun _ k => XS.dmulS X9.here hx rfl (hb hby d4_12) rfl (by rw [q_m0]; exact DInt_nn D_m0) q_m0 k) ?_
  refine Goes.by (T' := T9) (g' := (mkF m 14 #[.val (.ref a), .val (.ref b)] [(.ref a), (.double m0), (.ref r), (.ref r)])) (fun _ k => XS.aloadN X9.here hx rfl (hb hby d4_13) rfl rfl k) ?_
  obtain ⟨T10, X10, e10, st10⟩ := getF X9 hx hZ hown (host := "") (Or.inl (hw _ (List.mem_of_getElem? (i := 16) rfl))) Via.refl e9 F_x_a (g := (mkF m 14 #[.val (.ref a), .val (.ref b)] [(.ref a), (.double m0), (.ref r), (.ref r)])) rfl rfl (hb hby d4_14)
  refine Goes.by (T' := T10) (g' := (mkF m 17 #[.val (.ref a), .val (.ref b)] [(.double u1), (.double m0), (.ref r), (.ref r)])) st10 ?_
  refine Goes.by (T' := T10) (g' := (mkF m 18 #[.val (.ref a), .val (.ref b)] [(.ref b), (.double u1), (.double m0), (.ref r), (.ref r)])) (fun _ k => XS.aloadN X10.here hx rfl (hb hby d4_17) rfl rfl k) ?_
  obtain ⟨T11, X11, e11, st11⟩ := getF X10 hx hZ hown (host := "") (Or.inl (hw _ (List.mem_of_getElem? (i := 16) rfl))) Via.refl e10 F_x_b (g := (mkF m 18 #[.val (.ref a), .val (.ref b)] [(.ref b), (.double u1), (.double m0), (.ref r), (.ref r)])) rfl rfl (hb hby d4_18)
  refine Goes.by (T' := T11) (g' := (mkF m 21 #[.val (.ref a), .val (.ref b)] [(.double v1), (.double u1), (.double m0), (.ref r), (.ref r)])) st11 ?_
  obtain ⟨p_m1, hp_m1⟩ : ∃ z : Int, z = i1 * j1 := ⟨_, rfl⟩
  have bp_m1 : -1073741824 ≤ p_m1 ∧ p_m1 ≤ 1073741824 := by rw [hp_m1]; exact own_mb2 (A := 32768) (B := 32768) (by omega) (by omega)
  obtain ⟨m1, q_m1⟩ : ∃ zz, FP.dmul u1 v1 = zz := ⟨_, rfl⟩
  have D_m1 : Core.DInt p_m1 m1 := by rw [hp_m1]; exact DInt_mul q_m1 I1 J1 (by rw [← hp_m1]; omega)
  refine Goes.by (T' := T11) (g' := (mkF m 22 #[.val (.ref a), .val (.ref b)] [(.double m1), (.double m0), (.ref r), (.ref r)])) (fun _ k => XS.dmulS X11.here hx rfl (hb hby d4_21) rfl (by rw [q_m1]; exact DInt_nn D_m1) q_m1 k) ?_
  obtain ⟨m2, q_m2⟩ : ∃ zz, FP.dsub m0 m1 = zz := ⟨_, rfl⟩
  have D_m2 : Core.DInt (p_m0 - p_m1) m2 := DInt_sub q_m2 D_m0 D_m1 (by omega)
  refine Goes.by (T' := T11) (g' := (mkF m 23 #[.val (.ref a), .val (.ref b)] [(.double m2), (.ref r), (.ref r)])) (fun _ k => XS.dsubS X11.here hx rfl (hb hby d4_22) rfl (by rw [q_m2]; exact DInt_nn D_m2) q_m2 k) ?_
  refine Goes.by (T' := T11) (g' := (mkF m 24 #[.val (.ref a), .val (.ref b)] [(.ref a), (.double m2), (.ref r), (.ref r)])) (fun _ k => XS.aloadN X11.here hx rfl (hb hby d4_23) rfl rfl k) ?_
  obtain ⟨T12, X12, e12, st12⟩ := getF X11 hx hZ hown (host := "") (Or.inl (hw _ (List.mem_of_getElem? (i := 18) rfl))) Via.refl e11 F_y_a (g := (mkF m 24 #[.val (.ref a), .val (.ref b)] [(.ref a), (.double m2), (.ref r), (.ref r)])) rfl rfl (hb hby d4_24)
  refine Goes.by (T' := T12) (g' := (mkF m 27 #[.val (.ref a), .val (.ref b)] [(.double u2), (.double m2), (.ref r), (.ref r)])) st12 ?_
  refine Goes.by (T' := T12) (g' := (mkF m 28 #[.val (.ref a), .val (.ref b)] [(.ref b), (.double u2), (.double m2), (.ref r), (.ref r)])) (fun _ k => XS.aloadN X12.here hx rfl (hb hby d4_27) rfl rfl k) ?_
  obtain ⟨T13, X13, e13, st13⟩ := getF X12 hx hZ hown (host := "") (Or.inl (hw _ (List.mem_of_getElem? (i := 18) rfl))) Via.refl e12 F_y_b (g := (mkF m 28 #[.val (.ref a), .val (.ref b)] [(.ref b), (.double u2), (.double m2), (.ref r), (.ref r)])) rfl rfl (hb hby d4_28)
  refine Goes.by (T' := T13) (g' := (mkF m 31 #[.val (.ref a), .val (.ref b)] [(.double v2), (.double u2), (.double m2), (.ref r), (.ref r)])) st13 ?_
  obtain ⟨p_m3, hp_m3⟩ : ∃ z : Int, z = i2 * j2 := ⟨_, rfl⟩
  have bp_m3 : -1073741824 ≤ p_m3 ∧ p_m3 ≤ 1073741824 := by rw [hp_m3]; exact own_mb2 (A := 32768) (B := 32768) (by omega) (by omega)
  obtain ⟨m3, q_m3⟩ : ∃ zz, FP.dmul u2 v2 = zz := ⟨_, rfl⟩
  have D_m3 : Core.DInt p_m3 m3 := by rw [hp_m3]; exact DInt_mul q_m3 I2 J2 (by rw [← hp_m3]; omega)
  refine Goes.by (T' := T13) (g' := (mkF m 32 #[.val (.ref a), .val (.ref b)] [(.double m3), (.double m2), (.ref r), (.ref r)])) (fun _ k => XS.dmulS X13.here hx rfl (hb hby d4_31) rfl (by rw [q_m3]; exact DInt_nn D_m3) q_m3 k) ?_
  obtain ⟨m4, q_m4⟩ : ∃ zz, FP.dsub m2 m3 = zz := ⟨_, rfl⟩
  have D_m4 : Core.DInt ((p_m0 - p_m1) - p_m3) m4 := DInt_sub q_m4 D_m2 D_m3 (by omega)
  refine Goes.by (T' := T13) (g' := (mkF m 33 #[.val (.ref a), .val (.ref b)] [(.double m4), (.ref r), (.ref r)])) (fun _ k => XS.dsubS X13.here hx rfl (hb hby d4_32) rfl (by rw [q_m4]; exact DInt_nn D_m4) q_m4 k) ?_
  refine Goes.by (T' := T13) (g' := (mkF m 34 #[.val (.ref a), .val (.ref b)] [(.ref a), (.double m4), (.ref r), (.ref r)])) (fun _ k => XS.aloadN X13.here hx rfl (hb hby d4_33) rfl rfl k) ?_
  obtain ⟨T14, X14, e14, st14⟩ := getF X13 hx hZ hown (host := "") (Or.inl (hw _ (List.mem_of_getElem? (i := 20) rfl))) Via.refl e13 F_z_a (g := (mkF m 34 #[.val (.ref a), .val (.ref b)] [(.ref a), (.double m4), (.ref r), (.ref r)])) rfl rfl (hb hby d4_34)
  refine Goes.by (T' := T14) (g' := (mkF m 37 #[.val (.ref a), .val (.ref b)] [(.double u3), (.double m4), (.ref r), (.ref r)])) st14 ?_
  refine Goes.by (T' := T14) (g' := (mkF m 38 #[.val (.ref a), .val (.ref b)] [(.ref b), (.double u3), (.double m4), (.ref r), (.ref r)])) (fun _ k => XS.aloadN X14.here hx rfl (hb hby d4_37) rfl rfl k) ?_
  obtain ⟨T15, X15, e15, st15⟩ := getF X14 hx hZ hown (host := "") (Or.inl (hw _ (List.mem_of_getElem? (i := 20) rfl))) Via.refl e14 F_z_b (g := (mkF m 38 #[.val (.ref a), .val (.ref b)] [(.ref b), (.double u3), (.double m4), (.ref r), (.ref r)])) rfl rfl (hb hby d4_38)
  refine Goes.by (T' := T15) (g' := (mkF m 41 #[.val (.ref a), .val (.ref b)] [(.double v3), (.double u3), (.double m4), (.ref r), (.ref r)])) st15 ?_
  obtain ⟨p_m5, hp_m5⟩ : ∃ z : Int, z = i3 * j3 := ⟨_, rfl⟩
  have bp_m5 : -1073741824 ≤ p_m5 ∧ p_m5 ≤ 1073741824 := by rw [hp_m5]; exact own_mb2 (A := 32768) (B := 32768) (by omega) (by omega)
  obtain ⟨m5, q_m5⟩ : ∃ zz, FP.dmul u3 v3 = zz := ⟨_, rfl⟩
  have D_m5 : Core.DInt p_m5 m5 := by rw [hp_m5]; exact DInt_mul q_m5 I3 J3 (by rw [← hp_m5]; omega)
  refine Goes.by (T' := T15) (g' := (mkF m 42 #[.val (.ref a), .val (.ref b)] [(.double m5), (.double m4), (.ref r), (.ref r)])) (fun _ k => XS.dmulS X15.here hx rfl (hb hby d4_41) rfl (by rw [q_m5]; exact DInt_nn D_m5) q_m5 k) ?_
  obtain ⟨m6, q_m6⟩ : ∃ zz, FP.dsub m4 m5 = zz := ⟨_, rfl⟩
  have D_m6 : Core.DInt (((p_m0 - p_m1) - p_m3) - p_m5) m6 := DInt_sub q_m6 D_m4 D_m5 (by omega)
  refine Goes.by (T' := T15) (g' := (mkF m 43 #[.val (.ref a), .val (.ref b)] [(.double m6), (.ref r), (.ref r)])) (fun _ k => XS.dsubS X15.here hx rfl (hb hby d4_42) rfl (by rw [q_m6]; exact DInt_nn D_m6) q_m6 k) ?_
  refine Goes.by (T' := T15) (g' := (mkF m 44 #[.val (.ref a), .val (.ref b)] [(.ref a), (.double m6), (.ref r), (.ref r)])) (fun _ k => XS.aloadN X15.here hx rfl (hb hby d4_43) rfl rfl k) ?_
  obtain ⟨T16, X16, e16, st16⟩ := getF X15 hx hZ hown (host := "") (Or.inl (hw _ (List.mem_of_getElem? (i := 14) rfl))) Via.refl e15 F_w_a (g := (mkF m 44 #[.val (.ref a), .val (.ref b)] [(.ref a), (.double m6), (.ref r), (.ref r)])) rfl rfl (hb hby d4_44)
  refine Goes.by (T' := T16) (g' := (mkF m 47 #[.val (.ref a), .val (.ref b)] [(.double u0), (.double m6), (.ref r), (.ref r)])) st16 ?_
  refine Goes.by (T' := T16) (g' := (mkF m 48 #[.val (.ref a), .val (.ref b)] [(.ref b), (.double u0), (.double m6), (.ref r), (.ref r)])) (fun _ k => XS.aloadN X16.here hx rfl (hb hby d4_47) rfl rfl k) ?_
  obtain ⟨T17, X17, e17, st17⟩ := getF X16 hx hZ hown (host := "") (Or.inl (hw _ (List.mem_of_getElem? (i := 16) rfl))) Via.refl e16 F_x_b (g := (mkF m 48 #[.val (.ref a), .val (.ref b)] [(.ref b), (.double u0), (.double m6), (.ref r), (.ref r)])) rfl rfl (hb hby d4_48)
  refine Goes.by (T' := T17) (g' := (mkF m 51 #[.val (.ref a), .val (.ref b)] [(.double v1), (.double u0), (.double m6), (.ref r), (.ref r)])) st17 ?_
  obtain ⟨p_m7, hp_m7⟩ : ∃ z : Int, z = i0 * j1 := ⟨_, rfl⟩
  have bp_m7 : -1073741824 ≤ p_m7 ∧ p_m7 ≤ 1073741824 := by rw [hp_m7]; exact own_mb2 (A := 32768) (B := 32768) (by omega) (by omega)
  obtain ⟨m7, q_m7⟩ : ∃ zz, FP.dmul u0 v1 = zz := ⟨_, rfl⟩
  have D_m7 : Core.DInt p_m7 m7 := by rw [hp_m7]; exact DInt_mul q_m7 I0 J1 (by rw [← hp_m7]; omega)
  refine Goes.by (T' := T17) (g' := (mkF m 52 #[.val (.ref a), .val (.ref b)] [(.double m7), (.double m6), (.ref r), (.ref r)])) (fun _ k => XS.dmulS X17.here hx rfl (hb hby d4_51) rfl (by rw [q_m7]; exact DInt_nn D_m7) q_m7 k) ?_
  refine Goes.by (T' := T17) (g' := (mkF m 53 #[.val (.ref a), .val (.ref b)] [(.ref a), (.double m7), (.double m6), (.ref r), (.ref r)])) (fun _ k => XS.aloadN X17.here hx rfl (hb hby d4_52) rfl rfl k) ?_
  obtain ⟨T18, X18, e18, st18⟩ := getF X17 hx hZ hown (host := "") (Or.inl (hw _ (List.mem_of_getElem? (i := 16) rfl))) Via.refl e17 F_x_a (g := (mkF m 53 #[.val (.ref a), .val (.ref b)] [(.ref a), (.double m7), (.double m6), (.ref r), (.ref r)])) rfl rfl (hb hby d4_53)
  refine Goes.by (T' := T18) (g' := (mkF m 56 #[.val (.ref a), .val (.ref b)] [(.double u1), (.double m7), (.double m6), (.ref r), (.ref r)])) st18 ?_
  refine Goes.by (T' := T18) (g' := (mkF m 57 #[.val (.ref a), .val (.ref b)] [(.ref b), (.double u1), (.double m7), (.double m6), (.ref r), (.ref r)])) (fun _ k => XS.aloadN X18.here hx rfl (hb hby d4_56) rfl rfl k) ?_
  obtain ⟨T19, X19, e19, st19⟩ := getF X18 hx hZ hown (host := "") (Or.inl (hw _ (List.mem_of_getElem? (i := 14) rfl))) Via.refl e18 F_w_b (g := (mkF m 57 #[.val (.ref a), .val (.ref b)] [(.ref b), (.double u1), (.double m7), (.double m6), (.ref r), (.ref r)])) rfl rfl (hb hby d4_57)
  refine Goes.by (T' := T19) (g' := (mkF m 60 #[.val (.ref a), .val (.ref b)] [(.double v0), (.double u1), (.double m7), (.double m6), (.ref r), (.ref r)])) st19 ?_
  obtain ⟨p_m8, hp_m8⟩ : ∃ z : Int, z = i1 * j0 := ⟨_, rfl⟩
  have bp_m8 : -1073741824 ≤ p_m8 ∧ p_m8 ≤ 1073741824 := by rw [hp_m8]; exact own_mb2 (A := 32768) (B := 32768) (by omega) (by omega)
  obtain ⟨m8, q_m8⟩ : ∃ zz, FP.dmul u1 v0 = zz := ⟨_, rfl⟩
  have D_m8 : Core.DInt p_m8 m8 := by rw [hp_m8]; exact DInt_mul q_m8 I1 J0 (by rw [← hp_m8]; omega)
  refine Goes.by (T' := T19) (g' := (mkF m 61 #[.val (.ref a), .val (.ref b)] [(.double m8), (.double m7), (.double m6), (.ref r), (.ref r)])) (fun _ k => XS.dmulS X19.here hx rfl (hb hby d4_60) rfl (by rw [q_m8]; exact DInt_nn D_m8) q_m8 k) ?_
  obtain ⟨m9, q_m9⟩ : ∃ zz, FP.dadd m7 m8 = zz := ⟨_, rfl⟩
  have D_m9 : Core.DInt (p_m7 + p_m8) m9 := DInt_add q_m9 D_m7 D_m8 (by omega)
  refine Goes.by (T' := T19) (g' := (mkF m 62 #[.val (.ref a), .val (.ref b)] [(.double m9), (.double m6), (.ref r), (.ref r)])) (fun _ k => XS.daddS X19.here hx rfl (hb hby d4_61) rfl (by rw [q_m9]; exact DInt_nn D_m9) q_m9 k) ?_
  refine Goes.by (T' := T19) (g' := (mkF m 63 #[.val (.ref a), .val (.ref b)] [(.ref a), (.double m9), (.double m6), (.ref r), (.ref r)])) (fun _ k => XS.aloadN X19.here hx rfl (hb hby d4_62) rfl rfl k) ?_
  obtain ⟨T20, X20, e20, st20⟩ := getF X19 hx hZ hown (host := "") (Or.inl (hw _ (List.mem_of_getElem? (i := 18) rfl))) Via.refl e19 F_y_a (g := (mkF m 63 #[.val (.ref a), .val (.ref b)] [(.ref a), (.double m9), (.double m6), (.ref r), (.ref r)])) rfl rfl (hb hby d4_63)
  refine Goes.by (T' := T20) (g' := (mkF m 66 #[.val (.ref a), .val (.ref b)] [(.double u2), (.double m9), (.double m6), (.ref r), (.ref r)])) st20 ?_
  refine Goes.by (T' := T20) (g' := (mkF m 67 #[.val (.ref a), .val (.ref b)] [(.ref b), (.double u2), (.double m9), (.double m6), (.ref r), (.ref r)])) (fun _ k => XS.aloadN X20.here hx rfl (hb hby d4_66) rfl rfl k) ?_
  obtain ⟨T21, X21, e21, st21⟩ := getF X20 hx hZ hown (host := "") (Or.inl (hw _ (List.mem_of_getElem? (i := 20) rfl))) Via.refl e20 F_z_b (g := (mkF m 67 #[.val (.ref a), .val (.ref b)] [(.ref b), (.double u2), (.double m9), (.double m6), (.ref r), (.ref r)])) rfl rfl (hb hby d4_67)
  refine Goes.by (T' := T21) (g' := (mkF m 70 #[.val (.ref a), .val (.ref b)] [(.double v3), (.double u2), (.double m9), (.double m6), (.ref r), (.ref r)])) st21 ?_
  obtain ⟨p_m10, hp_m10⟩ : ∃ z : Int, z = i2 * j3 := ⟨_, rfl⟩
  have bp_m10 : -1073741824 ≤ p_m10 ∧ p_m10 ≤ 1073741824 := by rw [hp_m10]; exact own_mb2 (A := 32768) (B := 32768) (by omega) (by omega)
  obtain ⟨m10, q_m10⟩ : ∃ zz, FP.dmul u2 v3 = zz := ⟨_, rfl⟩
  have D_m10 : Core.DInt p_m10 m10 := by rw [hp_m10]; exact DInt_mul q_m10 I2 J3 (by rw [← hp_m10]; omega)
  refine Goes.by (T' := T21) (g' := (mkF m 71 #[.val (.ref a), .val (.ref b)] [(.double m10), (.double m9), (.double m6), (.ref r), (.ref r)])) (fun _ k => XS.dmulS X21.here hx rfl (hb hby d4_70) rfl (by rw [q_m10]; exact DInt_nn D_m10) q_m10 k) ?_
  obtain ⟨m11, q_m11⟩ : ∃ zz, FP.dadd m9 m10 = zz := ⟨_, rfl⟩
  have D_m11 : Core.DInt ((p_m7 + p_m8) + p_m10) m11 := DInt_add q_m11 D_m9 D_m10 (by omega)
  refine Goes.by (T' := T21) (g' := (mkF m 72 #[.val (.ref a), .val (.ref b)] [(.double m11), (.double m6), (.ref r), (.ref r)])) (fun _ k => XS.daddS X21.here hx rfl (hb hby d4_71) rfl (by rw [q_m11]; exact DInt_nn D_m11) q_m11 k) ?_
  refine Goes.by (T' := T21) (g' := (mkF m 73 #[.val (.ref a), .val (.ref b)] [(.ref a), (.double m11), (.double m6), (.ref r), (.ref r)])) (fun _ k => XS.aloadN X21.here hx rfl (hb hby d4_72) rfl rfl k) ?_
  obtain ⟨T22, X22, e22, st22⟩ := getF X21 hx hZ hown (host := "") (Or.inl (hw _ (List.mem_of_getElem? (i := 20) rfl))) Via.refl e21 F_z_a (g := (mkF m 73 #[.val (.ref a), .val (.ref b)] [(.ref a), (.double m11), (.double m6), (.ref r), (.ref r)])) rfl rfl (hb hby d4_73)
  refine Goes.by (T' := T22) (g' := (mkF m 76 #[.val (.ref a), .val (.ref b)] [(.double u3), (.double m11), (.double m6), (.ref r), (.ref r)])) st22 ?_
  refine Goes.by (T' := T22) (g' := (mkF m 77 #[.val (.ref a), .val (.ref b)] [(.ref b), (.double u3), (.double m11), (.double m6), (.ref r), (.ref r)])) (fun _ k => XS.aloadN X22.here hx rfl (hb hby d4_76) rfl rfl k) ?_
  obtain ⟨T23, X23, e23, st23⟩ := getF X22 hx hZ hown (host := "") (Or.inl (hw _ (List.mem_of_getElem? (i := 18) rfl))) Via.refl e22 F_y_b (g := (mkF m 77 #[.val (.ref a), .val (.ref b)] [(.ref b), (.double u3), (.double m11), (.double m6), (.ref r), (.ref r)])) rfl rfl (hb hby d4_77)
  refine Goes.by (T' := T23) (g' := (mkF m 80 #[.val (.ref a), .val (.ref b)] [(.double v2), (.double u3), (.double m11), (.double m6), (.ref r), (.ref r)])) st23 ?_
  obtain ⟨p_m12, hp_m12⟩ : ∃ z : Int, z = i3 * j2 := ⟨_, rfl⟩
  have bp_m12 : -1073741824 ≤ p_m12 ∧ p_m12 ≤ 1073741824 := by rw [hp_m12]; exact own_mb2 (A := 32768) (B := 32768) (by omega) (by omega)
  obtain ⟨m12, q_m12⟩ : ∃ zz, FP.dmul u3 v2 = zz := ⟨_, rfl⟩
  have D_m12 : Core.DInt p_m12 m12 := by rw [hp_m12]; exact DInt_mul q_m12 I3 J2 (by rw [← hp_m12]; omega)
  refine Goes.by (T' := T23) (g' := (mkF m 81 #[.val (.ref a), .val (.ref b)] [(.double m12), (.double m11), (.double m6), (.ref r), (.ref r)])) (fun _ k => XS.dmulS X23.here hx rfl (hb hby d4_80) rfl (by rw [q_m12]; exact DInt_nn D_m12) q_m12 k) ?_
  obtain ⟨m13, q_m13⟩ : ∃ zz, FP.dsub m11 m12 = zz := ⟨_, rfl⟩
  have D_m13 : Core.DInt (((p_m7 + p_m8) + p_m10) - p_m12) m13 := DInt_sub q_m13 D_m11 D_m12 (by omega)
  refine Goes.by (T' := T23) (g' := (mkF m 82 #[.val (.ref a), .val (.ref b)] [(.double m13), (.double m6), (.ref r), (.ref r)])) (fun _ k => XS.dsubS X23.here hx rfl (hb hby d4_81) rfl (by rw [q_m13]; exact DInt_nn D_m13) q_m13 k) ?_
  refine Goes.by (T' := T23) (g' := (mkF m 83 #[.val (.ref a), .val (.ref b)] [(.ref a), (.double m13), (.double m6), (.ref r), (.ref r)])) (fun _ k => XS.aloadN X23.here hx rfl (hb hby d4_82) rfl rfl k) ?_
  obtain ⟨T24, X24, e24, st24⟩ := getF X23 hx hZ hown (host := "") (Or.inl (hw _ (List.mem_of_getElem? (i := 14) rfl))) Via.refl e23 F_w_a (g := (mkF m 83 #[.val (.ref a), .val (.ref b)] [(.ref a), (.double m13), (.double m6), (.ref r), (.ref r)])) rfl rfl (hb hby d4_83)
  refine Goes.by (T' := T24) (g' := (mkF m 86 #[.val (.ref a), .val (.ref b)] [(.double u0), (.double m13), (.double m6), (.ref r), (.ref r)])) st24 ?_
  refine Goes.by (T' := T24) (g' := (mkF m 87 #[.val (.ref a), .val (.ref b)] [(.ref b), (.double u0), (.double m13), (.double m6), (.ref r), (.ref r)])) (fun _ k => XS.aloadN X24.here hx rfl (hb hby d4_86) rfl rfl k) ?_
  obtain ⟨T25, X25, e25, st25⟩ := getF X24 hx hZ hown (host := "") (Or.inl (hw _ (List.mem_of_getElem? (i := 18) rfl))) Via.refl e24 F_y_b (g := (mkF m 87 #[.val (.ref a), .val (.ref b)] [(.ref b), (.double u0), (.double m13), (.double m6), (.ref r), (.ref r)])) rfl rfl (hb hby d4_87)
  refine Goes.by (T' := T25) (g' := (mkF m 90 #[.val (.ref a), .val (.ref b)] [(.double v2), (.double u0), (.double m13), (.double m6), (.ref r), (.ref r)])) st25 ?_
  obtain ⟨p_m14, hp_m14⟩ : ∃ z : Int, z = i0 * j2 := ⟨_, rfl⟩
  have bp_m14 : -1073741824 ≤ p_m14 ∧ p_m14 ≤ 1073741824 := by rw [hp_m14]; exact own_mb2 (A := 32768) (B := 32768) (by omega) (by omega)
  obtain ⟨m14, q_m14⟩ : ∃ zz, FP.dmul u0 v2 = zz := ⟨_, rfl⟩
  have D_m14 : Core.DInt p_m14 m14 := by rw [hp_m14]; exact DInt_mul q_m14 I0 J2 (by rw [← hp_m14]; omega)
  refine Goes.by (T' := T25) (g' := (mkF m 91 #[.val (.ref a), .val (.ref b)] [(.double m14), (.double m13), (.double m6), (.ref r), (.ref r)])) (fun _ k => XS.dmulS X25.here hx rfl (hb hby d4_90) rfl (by rw [q_m14]; exact DInt_nn D_m14) q_m14 k) ?_
  refine Goes.by (T' := T25) (g' := (mkF m 92 #[.val (.ref a), .val (.ref b)] [(.ref a), (.double m14), (.double m13), (.double m6), (.ref r), (.ref r)])) (fun _ k => XS.aloadN X25.here hx rfl (hb hby d4_91) rfl rfl k) ?_
  obtain ⟨T26, X26, e26, st26⟩ := getF X25 hx hZ hown (host := "") (Or.inl (hw _ (List.mem_of_getElem? (i := 16) rfl))) Via.refl e25 F_x_a (g := (mkF m 92 #[.val (.ref a), .val (.ref b)] [(.ref a), (.double m14), (.double m13), (.double m6), (.ref r), (.ref r)])) rfl rfl (hb hby d4_92)
  refine Goes.by (T' := T26) (g' := (mkF m 95 #[.val (.ref a), .val (.ref b)] [(.double u1), (.double m14), (.double m13), (.double m6), (.ref r), (.ref r)])) st26 ?_
  refine Goes.by (T' := T26) (g' := (mkF m 96 #[.val (.ref a), .val (.ref b)] [(.ref b), (.double u1), (.double m14), (.double m13), (.double m6), (.ref r), (.ref r)])) (fun _ k => XS.aloadN X26.here hx rfl (hb hby d4_95) rfl rfl k) ?_
  obtain ⟨T27, X27, e27, st27⟩ := getF X26 hx hZ hown (host := "") (Or.inl (hw _ (List.mem_of_getElem? (i := 20) rfl))) Via.refl e26 F_z_b (g := (mkF m 96 #[.val (.ref a), .val (.ref b)] [(.ref b), (.double u1), (.double m14), (.double m13), (.double m6), (.ref r), (.ref r)])) rfl rfl (hb hby d4_96)
  refine Goes.by (T' := T27) (g' := (mkF m 99 #[.val (.ref a), .val (.ref b)] [(.double v3), (.double u1), (.double m14), (.double m13), (.double m6), (.ref r), (.ref r)])) st27 ?_
  obtain ⟨p_m15, hp_m15⟩ : ∃ z : Int, z = i1 * j3 := ⟨_, rfl⟩
  have bp_m15 : -1073741824 ≤ p_m15 ∧ p_m15 ≤ 1073741824 := by rw [hp_m15]; exact own_mb2 (A := 32768) (B := 32768) (by omega) (by omega)
  obtain ⟨m15, q_m15⟩ : ∃ zz, FP.dmul u1 v3 = zz := ⟨_, rfl⟩
  have D_m15 : Core.DInt p_m15 m15 := by rw [hp_m15]; exact DInt_mul q_m15 I1 J3 (by rw [← hp_m15]; omega)
  refine Goes.by (T' := T27) (g' := (mkF m 100 #[.val (.ref a), .val (.ref b)] [(.double m15), (.double m14), (.double m13), (.double m6), (.ref r), (.ref r)])) (fun _ k => XS.dmulS X27.here hx rfl (hb hby d4_99) rfl (by rw [q_m15]; exact DInt_nn D_m15) q_m15 k) ?_
  obtain ⟨m16, q_m16⟩ : ∃ zz, FP.dsub m14 m15 = zz := ⟨_, rfl⟩
  have D_m16 : Core.DInt (p_m14 - p_m15) m16 := DInt_sub q_m16 D_m14 D_m15 (by omega)
  refine Goes.by (T' := T27) (g' := (mkF m 101 #[.val (.ref a), .val (.ref b)] [(.double m16), (.double m13), (.double m6), (.ref r), (.ref r)])) (fun _ k => XS.dsubS X27.here hx rfl (hb hby d4_100) rfl (by rw [q_m16]; exact DInt_nn D_m16) q_m16 k) ?_
  refine Goes.by (T' := T27) (g' := (mkF m 102 #[.val (.ref a), .val (.ref b)] [(.ref a), (.double m16), (.double m13), (.double m6), (.ref r), (.ref r)])) (fun _ k => XS.aloadN X27.here hx rfl (hb hby d4_101) rfl rfl k) ?_
  obtain ⟨T28, X28, e28, st28⟩ := getF X27 hx hZ hown (host := "") (Or.inl (hw _ (List.mem_of_getElem? (i := 18) rfl))) Via.refl e27 F_y_a (g := (mkF m 102 #[.val (.ref a), .val (.ref b)] [(.ref a), (.double m16), (.double m13), (.double m6), (.ref r), (.ref r)])) rfl rfl (hb hby d4_102)
  refine Goes.by (T' := T28) (g' := (mkF m 105 #[.val (.ref a), .val (.ref b)] [(.double u2), (.double m16), (.double m13), (.double m6), (.ref r), (.ref r)])) st28 ?_
  refine Goes.by (T' := T28) (g' := (mkF m 106 #[.val (.ref a), .val (.ref b)] [(.ref b), (.double u2), (.double m16), (.double m13), (.double m6), (.ref r), (.ref r)])) (fun _ k => XS.aloadN X28.here hx rfl (hb hby d4_105) rfl rfl k) ?_
  obtain ⟨T29, X29, e29, st29⟩ := getF X28 hx hZ hown (host := "") (Or.inl (hw _ (List.mem_of_getElem? (i := 14) rfl))) Via.refl e28 F_w_b (g := (mkF m 106 #[.val (.ref a), .val (.ref b)] [(.ref b), (.double u2), (.double m16), (.double m13), (.double m6), (.ref r), (.ref r)])) rfl rfl (hb hby d4_106)
  refine Goes.by (T' := T29) (g' := (mkF m 109 #[.val (.ref a), .val (.ref b)] [(.double v0), (.double u2), (.double m16), (.double m13), (.double m6), (.ref r), (.ref r)])) st29 ?_
  obtain ⟨p_m17, hp_m17⟩ : ∃ z : Int, z = i2 * j0 := ⟨_, rfl⟩
  have bp_m17 : -1073741824 ≤ p_m17 ∧ p_m17 ≤ 1073741824 := by rw [hp_m17]; exact own_mb2 (A := 32768) (B := 32768) (by omega) (by omega)
  obtain ⟨m17, q_m17⟩ : ∃ zz, FP.dmul u2 v0 = zz := ⟨_, rfl⟩
  have D_m17 : Core.DInt p_m17 m17 := by rw [hp_m17]; exact DInt_mul q_m17 I2 J0 (by rw [← hp_m17]; omega)
  refine Goes.by (T' := T29) (g' := (mkF m 110 #[.val (.ref a), .val (.ref b)] [(.double m17), (.double m16), (.double m13), (.double m6), (.ref r), (.ref r)])) (fun _ k => XS.dmulS X29.here hx rfl (hb hby d4_109) rfl (by rw [q_m17]; exact DInt_nn D_m17) q_m17 k) ?_
  obtain ⟨m18, q_m18⟩ : ∃ zz, FP.dadd m16 m17 = zz := ⟨_, rfl⟩
  have D_m18 : Core.DInt ((p_m14 - p_m15) + p_m17) m18 := DInt_add q_m18 D_m16 D_m17 (by omega)
  refine Goes.by (T' := T29) (g' := (mkF m 111 #[.val (.ref a), .val (.ref b)] [(.double m18), (.double m13), (.double m6), (.ref r), (.ref r)])) (fun _ k => XS.daddS X29.here hx rfl (hb hby d4_110) rfl (by rw [q_m18]; exact DInt_nn D_m18) q_m18 k) ?_
  refine Goes.by (T' := T29) (g' := (mkF m 112 #[.val (.ref a), .val (.ref b)] [(.ref a), (.double m18), (.double m13), (.double m6), (.ref r), (.ref r)])) (fun _ k => XS.aloadN X29.here hx rfl (hb hby d4_111) rfl rfl k) ?_
  obtain ⟨T30, X30, e30, st30⟩ := getF X29 hx hZ hown (host := "") (Or.inl (hw _ (List.mem_of_getElem? (i := 20) rfl))) Via.refl e29 F_z_a (g := (mkF m 112 #[.val (.ref a), .val (.ref b)] [(.ref a), (.double m18), (.double m13), (.double m6), (.ref r), (.ref r)])) rfl rfl (hb hby d4_112)
  refine Goes.by (T' := T30) (g' := (mkF m 115 #[.val (.ref a), .val (.ref b)] [(.double u3), (.double m18), (.double m13), (.double m6), (.ref r), (.ref r)])) st30 ?_
  refine Goes.by (T' := T30) (g' := (mkF m 116 #[.val (.ref a), .val (.ref b)] [(.ref b), (.double u3), (.double m18), (.double m13), (.double m6), (.ref r), (.ref r)])) (fun _ k => XS.aloadN X30.here hx rfl (hb hby d4_115) rfl rfl k) ?_
  obtain ⟨T31, X31, e31, st31⟩ := getF X30 hx hZ hown (host := "") (Or.inl (hw _ (List.mem_of_getElem? (i := 16) rfl))) Via.refl e30 F_x_b (g := (mkF m 116 #[.val (.ref a), .val (.ref b)] [(.ref b), (.double u3), (.double m18), (.double m13), (.double m6), (.ref r), (.ref r)])) rfl rfl (hb hby d4_116)
  refine Goes.by (T' := T31) (g' := (mkF m 119 #[.val (.ref a), .val (.ref b)] [(.double v1), (.double u3), (.double m18), (.double m13), (.double m6), (.ref r), (.ref r)])) st31 ?_
  obtain ⟨p_m19, hp_m19⟩ : ∃ z : Int, z = i3 * j1 := ⟨_, rfl⟩
  have bp_m19 : -1073741824 ≤ p_m19 ∧ p_m19 ≤ 1073741824 := by rw [hp_m19]; exact own_mb2 (A := 32768) (B := 32768) (by omega) (by omega)
  obtain ⟨m19, q_m19⟩ : ∃ zz, FP.dmul u3 v1 = zz := ⟨_, rfl⟩
  have D_m19 : Core.DInt p_m19 m19 := by rw [hp_m19]; exact DInt_mul q_m19 I3 J1 (by rw [← hp_m19]; omega)
  refine Goes.by (T' := T31) (g' := (mkF m 120 #[.val (.ref a), .val (.ref b)] [(.double m19), (.double m18), (.double m13), (.double m6), (.ref r), (.ref r)])) (fun _ k => XS.dmulS X31.here hx rfl (hb hby d4_119) rfl (by rw [q_m19]; exact DInt_nn D_m19) q_m19 k) ?_
  obtain ⟨m20, q_m20⟩ : ∃ zz, FP.dadd m18 m19 = zz := ⟨_, rfl⟩
  have D_m20 : Core.DInt (((p_m14 - p_m15) + p_m17) + p_m19) m20 := DInt_add q_m20 D_m18 D_m19 (by omega)
  refine Goes.by (T' := T31) (g' := (mkF m 121 #[.val (.ref a), .val (.ref b)] [(.double m20), (.double m13), (.double m6), (.ref r), (.ref r)])) (fun _ k => XS.daddS X31.here hx rfl (hb hby d4_120) rfl (by rw [q_m20]; exact DInt_nn D_m20) q_m20 k) ?_
  refine Goes.by (T' := T31) (g' := (mkF m 122 #[.val (.ref a), .val (.ref b)] [(.ref a), (.double m20), (.double m13), (.double m6), (.ref r), (.ref r)])) (fun _ k => XS.aloadN X31.here hx rfl (hb hby d4_121) rfl rfl k) ?_
  obtain ⟨T32, X32, e32, st32⟩ := getF X31 hx hZ hown (host := "") (Or.inl (hw _ (List.mem_of_getElem? (i := 14) rfl))) Via.refl e31 F_w_a (g := (mkF m 122 #[.val (.ref a), .val (.ref b)] [(.ref a), (.double m20), (.double m13), (.double m6), (.ref r), (.ref r)])) rfl rfl (hb hby d4_122)
  refine Goes.by (T' := T32) (g' := (mkF m 125 #[.val (.ref a), .val (.ref b)] [(.double u0), (.double m20), (.double m13), (.double m6), (.ref r), (.ref r)])) st32 ?_
  refine Goes.by (T' := T32) (g' := (mkF m 126 #[.val (.ref a), .val (.ref b)] [(.ref b), (.double u0), (.double m20), (.double m13), (.double m6), (.ref r), (.ref r)])) (fun _ k => XS.aloadN X32.here hx rfl (hb hby d4_125) rfl rfl k) ?_
  obtain ⟨T33, X33, e33, st33⟩ := getF X32 hx hZ hown (host := "") (Or.inl (hw _ (List.mem_of_getElem? (i := 20) rfl))) Via.refl e32 F_z_b (g := (mkF m 126 #[.val (.ref a), .val (.ref b)] [(.ref b), (.double u0), (.double m20), (.double m13), (.double m6), (.ref r), (.ref r)])) rfl rfl (hb hby d4_126)
  refine Goes.by (T' := T33) (g' := (mkF m 129 #[.val (.ref a), .val (.ref b)] [(.double v3), (.double u0), (.double m20), (.double m13), (.double m6), (.ref r), (.ref r)])) st33 ?_
  obtain ⟨p_m21, hp_m21⟩ : ∃ z : Int, z = i0 * j3 := ⟨_, rfl⟩
  have bp_m21 : -1073741824 ≤ p_m21 ∧ p_m21 ≤ 1073741824 := by rw [hp_m21]; exact own_mb2 (A := 32768) (B := 32768) (by omega) (by omega)
  obtain ⟨m21, q_m21⟩ : ∃ zz, FP.dmul u0 v3 = zz := ⟨_, rfl⟩
  have D_m21 : Core.DInt p_m21 m21 := by rw [hp_m21]; exact DInt_mul q_m21 I0 J3 (by rw [← hp_m21]; omega)
  refine Goes.by (T' := T33) (g' := (mkF m 130 #[.val (.ref a), .val (.ref b)] [(.double m21), (.double m20), (.double m13), (.double m6), (.ref r), (.ref r)])) (fun _ k => XS.dmulS X33.here hx rfl (hb hby d4_129) rfl (by rw [q_m21]; exact DInt_nn D_m21) q_m21 k) ?_
  refine Goes.by (T' := T33) (g' := (mkF m 131 #[.val (.ref a), .val (.ref b)] [(.ref a), (.double m21), (.double m20), (.double m13), (.double m6), (.ref r), (.ref r)])) (fun _ k => XS.aloadN X33.here hx rfl (hb hby d4_130) rfl rfl k) ?_
  obtain ⟨T34, X34, e34, st34⟩ := getF X33 hx hZ hown (host := "") (Or.inl (hw _ (List.mem_of_getElem? (i := 16) rfl))) Via.refl e33 F_x_a (g := (mkF m 131 #[.val (.ref a), .val (.ref b)] [(.ref a), (.double m21), (.double m20), (.double m13), (.double m6), (.ref r), (.ref r)])) rfl rfl (hb hby d4_131)
  refine Goes.by (T' := T34) (g' := (mkF m 134 #[.val (.ref a), .val (.ref b)] [(.double u1), (.double m21), (.double m20), (.double m13), (.double m6), (.ref r), (.ref r)])) st34 ?_
  refine Goes.by (T' := T34) (g' := (mkF m 135 #[.val (.ref a), .val (.ref b)] [(.ref b), (.double u1), (.double m21), (.double m20), (.double m13), (.double m6), (.ref r), (.ref r)])) (fun _ k => XS.aloadN X34.here hx rfl (hb hby d4_134) rfl rfl k) ?_
  obtain ⟨T35, X35, e35, st35⟩ := getF X34 hx hZ hown (host := "") (Or.inl (hw _ (List.mem_of_getElem? (i := 18) rfl))) Via.refl e34 F_y_b (g := (mkF m 135 #[.val (.ref a), .val (.ref b)] [(.ref b), (.double u1), (.double m21), (.double m20), (.double m13), (.double m6), (.ref r), (.ref r)])) rfl rfl (hb hby d4_135)
  refine Goes.by (T' := T35) (g' := (mkF m 138 #[.val (.ref a), .val (.ref b)] [(.double v2), (.double u1), (.double m21), (.double m20), (.double m13), (.double m6), (.ref r), (.ref r)])) st35 ?_
  obtain ⟨p_m22, hp_m22⟩ : ∃ z : Int, z = i1 * j2 := ⟨_, rfl⟩
  have bp_m22 : -1073741824 ≤ p_m22 ∧ p_m22 ≤ 1073741824 := by rw [hp_m22]; exact own_mb2 (A := 32768) (B := 32768) (by omega) (by omega)
  obtain ⟨m22, q_m22⟩ : ∃ zz, FP.dmul u1 v2 = zz := ⟨_, rfl⟩
  have D_m22 : Core.DInt p_m22 m22 := by rw [hp_m22]; exact DInt_mul q_m22 I1 J2 (by rw [← hp_m22]; omega)
  refine Goes.by (T' := T35) (g' := (mkF m 139 #[.val (.ref a), .val (.ref b)] [(.double m22), (.double m21), (.double m20), (.double m13), (.double m6), (.ref r), (.ref r)])) (fun _ k => XS.dmulS X35.here hx rfl (hb hby d4_138) rfl (by rw [q_m22]; exact DInt_nn D_m22) q_m22 k) ?_
  obtain ⟨m23, q_m23⟩ : ∃ zz, FP.dadd m21 m22 = zz := ⟨_, rfl⟩
  have D_m23 : Core.DInt (p_m21 + p_m22) m23 := DInt_add q_m23 D_m21 D_m22 (by omega)
  refine Goes.by (T' := T35) (g' := (mkF m 140 #[.val (.ref a), .val (.ref b)] [(.double m23), (.double m20), (.double m13), (.double m6), (.ref r), (.ref r)])) (fun _ k => XS.daddS X35.here hx rfl (hb hby d4_139) rfl (by rw [q_m23]; exact DInt_nn D_m23) q_m23 k) ?_
  refine Goes.by (T' := T35) (g' := (mkF m 141 #[.val (.ref a), .val (.ref b)] [(.ref a), (.double m23), (.double m20), (.double m13), (.double m6), (.ref r), (.ref r)])) (fun _ k => XS.aloadN X35.here hx rfl (hb hby d4_140) rfl rfl k) ?_
  obtain ⟨T36, X36, e36, st36⟩ := getF X35 hx hZ hown (host := "") (Or.inl (hw _ (List.mem_of_getElem? (i := 18) rfl))) Via.refl e35 F_y_a (g := (mkF m 141 #[.val (.ref a), .val (.ref b)] [(.ref a), (.double m23), (.double m20), (.double m13), (.double m6), (.ref r), (.ref r)])) rfl rfl (hb hby d4_141)
  refine Goes.by (T' := T36) (g' := (mkF m 144 #[.val (.ref a), .val (.ref b)] [(.double u2), (.double m23), (.double m20), (.double m13), (.double m6), (.ref r), (.ref r)])) st36 ?_
  refine Goes.by (T' := T36) (g' := (mkF m 145 #[.val (.ref a), .val (.ref b)] [(.ref b), (.double u2), (.double m23), (.double m20), (.double m13), (.double m6), (.ref r), (.ref r)])) (fun _ k => XS.aloadN X36.here hx rfl (hb hby d4_144) rfl rfl k) ?_
  obtain ⟨T37, X37, e37, st37⟩ := getF X36 hx hZ hown (host := "") (Or.inl (hw _ (List.mem_of_getElem? (i := 16) rfl))) Via.refl e36 F_x_b (g := (mkF m 145 #[.val (.ref a), .val (.ref b)] [(.ref b), (.double u2), (.double m23), (.double m20), (.double m13), (.double m6), (.ref r), (.ref r)])) rfl rfl (hb hby d4_145)
  refine Goes.by (T' := T37) (g' := (mkF m 148 #[.val (.ref a), .val (.ref b)] [(.double v1), (.double u2), (.double m23), (.double m20), (.double m13), (.double m6), (.ref r), (.ref r)])) st37 ?_
  obtain ⟨p_m24, hp_m24⟩ : ∃ z : Int, z = i2 * j1 := ⟨_, rfl⟩
  have bp_m24 : -1073741824 ≤ p_m24 ∧ p_m24 ≤ 1073741824 := by rw [hp_m24]; exact own_mb2 (A := 32768) (B := 32768) (by omega) (by omega)
  obtain ⟨m24, q_m24⟩ : ∃ zz, FP.dmul u2 v1 = zz := ⟨_, rfl⟩
  have D_m24 : Core.DInt p_m24 m24 := by rw [hp_m24]; exact DInt_mul q_m24 I2 J1 (by rw [← hp_m24]; omega)
  refine Goes.by (T' := T37) (g' := (mkF m 149 #[.val (.ref a), .val (.ref b)] [(.double m24), (.double m23), (.double m20), (.double m13), (.double m6), (.ref r), (.ref r)])) (fun _ k => XS.dmulS X37.here hx rfl (hb hby d4_148) rfl (by rw [q_m24]; exact DInt_nn D_m24) q_m24 k) ?_
  obtain ⟨m25, q_m25⟩ : ∃ zz, FP.dsub m23 m24 = zz := ⟨_, rfl⟩
  have D_m25 : Core.DInt ((p_m21 + p_m22) - p_m24) m25 := DInt_sub q_m25 D_m23 D_m24 (by omega)
  refine Goes.by (T' := T37) (g' := (mkF m 150 #[.val (.ref a), .val (.ref b)] [(.double m25), (.double m20), (.double m13), (.double m6), (.ref r), (.ref r)])) (fun _ k => XS.dsubS X37.here hx rfl (hb hby d4_149) rfl (by rw [q_m25]; exact DInt_nn D_m25) q_m25 k) ?_
  refine Goes.by (T' := T37) (g' := (mkF m 151 #[.val (.ref a), .val (.ref b)] [(.ref a), (.double m25), (.double m20), (.double m13), (.double m6), (.ref r), (.ref r)])) (fun _ k => XS.aloadN X37.here hx rfl (hb hby d4_150) rfl rfl k) ?_
  obtain ⟨T38, X38, e38, st38⟩ := getF X37 hx hZ hown (host := "") (Or.inl (hw _ (List.mem_of_getElem? (i := 20) rfl))) Via.refl e37 F_z_a (g := (mkF m 151 #[.val (.ref a), .val (.ref b)] [(.ref a), (.double m25), (.double m20), (.double m13), (.double m6), (.ref r), (.ref r)])) rfl rfl (hb hby d4_151)
  refine Goes.by (T' := T38) (g' := (mkF m 154 #[.val (.ref a), .val (.ref b)] [(.double u3), (.double m25), (.double m20), (.double m13), (.double m6), (.ref r), (.ref r)])) st38 ?_
  refine Goes.by (T' := T38) (g' := (mkF m 155 #[.val (.ref a), .val (.ref b)] [(.ref b), (.double u3), (.double m25), (.double m20), (.double m13), (.double m6), (.ref r), (.ref r)])) (fun _ k => XS.aloadN X38.here hx rfl (hb hby d4_154) rfl rfl k) ?_
  obtain ⟨T39, X39, e39, st39⟩ := getF X38 hx hZ hown (host := "") (Or.inl (hw _ (List.mem_of_getElem? (i := 14) rfl))) Via.refl e38 F_w_b (g := (mkF m 155 #[.val (.ref a), .val (.ref b)] [(.ref b), (.double u3), (.double m25), (.double m20), (.double m13), (.double m6), (.ref r), (.ref r)])) rfl rfl (hb hby d4_155)
  refine Goes.by (T' := T39) (g' := (mkF m 158 #[.val (.ref a), .val (.ref b)] [(.double v0), (.double u3), (.double m25), (.double m20), (.double m13), (.double m6), (.ref r), (.ref r)])) st39 ?_
  obtain ⟨p_m26, hp_m26⟩ : ∃ z : Int, z = i3 * j0 := ⟨_, rfl⟩
  have bp_m26 : -1073741824 ≤ p_m26 ∧ p_m26 ≤ 1073741824 := by rw [hp_m26]; exact own_mb2 (A := 32768) (B := 32768) (by omega) (by omega)
  obtain ⟨m26, q_m26⟩ : ∃ zz, FP.dmul u3 v0 = zz := ⟨_, rfl⟩
  have D_m26 : Core.DInt p_m26 m26 := by rw [hp_m26]; exact DInt_mul q_m26 I3 J0 (by rw [← hp_m26]; omega)
  refine Goes.by (T' := T39) (g' := (mkF m 159 #[.val (.ref a), .val (.ref b)] [(.double m26), (.double m25), (.double m20), (.double m13), (.double m6), (.ref r), (.ref r)])) (fun _ k => XS.dmulS X39.here hx rfl (hb hby d4_158) rfl (by rw [q_m26]; exact DInt_nn D_m26) q_m26 k) ?_
  obtain ⟨m27, q_m27⟩ : ∃ zz, FP.dadd m25 m26 = zz := ⟨_, rfl⟩
  have D_m27 : Core.DInt (((p_m21 + p_m22) - p_m24) + p_m26) m27 := DInt_add q_m27 D_m25 D_m26 (by omega)
  refine Goes.by (T' := T39) (g' := (mkF m 160 #[.val (.ref a), .val (.ref b)] [(.double m27), (.double m20), (.double m13), (.double m6), (.ref r), (.ref r)])) (fun _ k => XS.daddS X39.here hx rfl (hb hby d4_159) rfl (by rw [q_m27]; exact DInt_nn D_m27) q_m27 k) ?_
  obtain ⟨v40, T40, L40, X40, hQ40, st40⟩ := callI X39 hx hZ (y := (⟨"com/example/attitude_bridge/attitudebridge/Quaternion", "<init>", "(DDDD)V"⟩ : MethodName)) rfl hown (hw _ (List.mem_of_getElem? (i := 28) rfl)) (hw _ (List.mem_of_getElem? (i := 4) rfl)) (hw _ (List.mem_of_getElem? (i := 5) rfl)) (hw _ (List.mem_of_getElem? (i := 2) rfl)) (by decide) e39 (a := r) (argsL := [(.double m6), (.double m13), (.double m20), (.double m27)]) (rest := [(.ref r)]) (W := 1) (rm_init l Z a0 hw r m6 m13 m20 m27 h7 n0 Z0 E_r F_w_r F_x_r F_y_r F_z_r ge_r) rfl (by decide) (by decide) (by decide) (by decide) (g := (mkF m 160 #[.val (.ref a), .val (.ref b)] [(.double m27), (.double m20), (.double m13), (.double m6), (.ref r), (.ref r)])) rfl (by rw [hml]; rfl) (lenOf pd1 rfl) rfl (by show 2 * 0 + _ ≤ _; exact Nat.le_of_eq rfl) (hb hby d4_160)
  obtain ⟨rfl, G_w, G_x, G_y, G_z, K40, NL40⟩ := hQ40
  have N0 := Fr.app N0 NL40
  have e40 : T40.heap = T40.heap := rfl
  have F_w_a := F_w_a.keep K40 (ninS ne_a_r nin0)
  have F_x_a := F_x_a.keep K40 (ninS ne_a_r nin0)
  have F_y_a := F_y_a.keep K40 (ninS ne_a_r nin0)
  have F_z_a := F_z_a.keep K40 (ninS ne_a_r nin0)
  have F_w_b := F_w_b.keep K40 (ninS ne_b_r nin0)
  have F_x_b := F_x_b.keep K40 (ninS ne_b_r nin0)
  have F_y_b := F_y_b.keep K40 (ninS ne_b_r nin0)
  have F_z_b := F_z_b.keep K40 (ninS ne_b_r nin0)
  have E_r := E_r.keep K40
  have Z0 := Nat.le_trans Z0 K40.1
  have K0 := K0.trans K40 (allS (Or.inr sz_r) all0)
  refine Goes.by (T' := T40) (g' := (mkF m 163 #[.val (.ref a), .val (.ref b)] [(.ref r)])) st40 ?_
  subst hp_m0
  subst hp_m1
  subst hp_m3
  subst hp_m5
  subst hp_m7
  subst hp_m8
  subst hp_m10
  subst hp_m12
  subst hp_m14
  subst hp_m15
  subst hp_m17
  subst hp_m19
  subst hp_m21
  subst hp_m22
  subst hp_m24
  subst hp_m26
  exact outA X40 hx hlk hret rfl rfl rfl (hb hby d4_163) (by rw [e40]; exact ⟨r, m6, m13, m20, m27, rfl, sz_r, E_r, ⟨D_m6, D_m13, D_m20, D_m27⟩, G_w, G_x, G_y, G_z, K0, N0⟩) (by decide) (by decide)
theorem d5_0 : decode prog_19_method_25_code 0 = .ok (.aload_n 0, 1) := by decide +kernel
theorem d5_1 : decode prog_19_method_25_code 1 = .ok (.getfield 7, 3) := by decide +kernel
theorem d5_4 : decode prog_19_method_25_code 4 = .ok (.dreturn, 1) := by decide +kernel
theorem pd3 : parseMethodDescriptor "()D" = some ⟨[], some .double⟩ := by decide +kernel
theorem ef_rm_w (m : MethodId) (x0 : Addr) : entryFrame m #[(.ref x0)] 1 = mkF m 0 #[.val (.ref x0)] [] := by first | (simp [entryFrame, mkF, argsToLocals, Value.category, maxLocals]; done) | rfl
set_option maxRecDepth 65536 in
set_option maxHeartbeats 40000000 in
theorem rm_w (l : Launch) (Z : State) (a0 : Array Value) (hw : ∀ d ∈ tables_1, d.before a0 Z = true) (a : Addr) (u : UInt64) (h0 : Heap) (n0 : Nat) (Z0 : n0 ≤ h0.size) (F1 : Fld Z h0 a "com/example/attitude_bridge/attitudebridge/Quaternion" "w" "D" (.double u)) :
    Does l (⟨"com/example/attitude_bridge/attitudebridge/Quaternion", "w", "()D"⟩ : MethodName) prog_19_method_25_code 1 (some .double) [] ({ frames := 0, cells := 0, slots := 0, locals := 0 } : Room) Z #[(.ref a)] h0 (fun v h L => v = some (.double u) ∧ Fr n0 L ∧ h = h0) := by
  refine Does.of (plainFor_of_name pn1) ?_
  intro p e s m below meth c s₁ hx hby hml hret hlk hZ hown hnm X0 e0
  have N0 := Fr.nil n0
  refine Goes.cast (g' := mkF m 0 #[.val (.ref a)] []) (ef_rm_w m a) ?_
  refine Goes.by (T' := s₁) (g' := (mkF m 1 #[.val (.ref a)] [(.ref a)])) (fun _ k => XS.aloadN X0.here hx rfl (hb hby d5_0) rfl rfl k) ?_
  obtain ⟨T41, X41, e41, st41⟩ := getF X0 hx hZ hown (host := "") (Or.inl (hw _ (List.mem_of_getElem? (i := 14) rfl))) Via.refl e0 F1 (g := (mkF m 1 #[.val (.ref a)] [(.ref a)])) rfl rfl (hb hby d5_1)
  refine Goes.by (T' := T41) (g' := (mkF m 4 #[.val (.ref a)] [(.double u)])) st41 ?_
  exact outD X41 hx hlk hret (hb hby d5_4) (by rw [e41]; exact ⟨rfl, N0, rfl⟩) (by decide) (by decide)
theorem d6_0 : decode prog_19_method_26_code 0 = .ok (.aload_n 0, 1) := by decide +kernel
theorem d6_1 : decode prog_19_method_26_code 1 = .ok (.getfield 13, 3) := by decide +kernel
theorem d6_4 : decode prog_19_method_26_code 4 = .ok (.dreturn, 1) := by decide +kernel
theorem ef_rm_x (m : MethodId) (x0 : Addr) : entryFrame m #[(.ref x0)] 1 = mkF m 0 #[.val (.ref x0)] [] := by first | (simp [entryFrame, mkF, argsToLocals, Value.category, maxLocals]; done) | rfl
set_option maxRecDepth 65536 in
set_option maxHeartbeats 40000000 in
theorem rm_x (l : Launch) (Z : State) (a0 : Array Value) (hw : ∀ d ∈ tables_1, d.before a0 Z = true) (a : Addr) (u : UInt64) (h0 : Heap) (n0 : Nat) (Z0 : n0 ≤ h0.size) (F1 : Fld Z h0 a "com/example/attitude_bridge/attitudebridge/Quaternion" "x" "D" (.double u)) :
    Does l (⟨"com/example/attitude_bridge/attitudebridge/Quaternion", "x", "()D"⟩ : MethodName) prog_19_method_26_code 1 (some .double) [] ({ frames := 0, cells := 0, slots := 0, locals := 0 } : Room) Z #[(.ref a)] h0 (fun v h L => v = some (.double u) ∧ Fr n0 L ∧ h = h0) := by
  refine Does.of (plainFor_of_name pn1) ?_
  intro p e s m below meth c s₁ hx hby hml hret hlk hZ hown hnm X0 e0
  have N0 := Fr.nil n0
  refine Goes.cast (g' := mkF m 0 #[.val (.ref a)] []) (ef_rm_x m a) ?_
  refine Goes.by (T' := s₁) (g' := (mkF m 1 #[.val (.ref a)] [(.ref a)])) (fun _ k => XS.aloadN X0.here hx rfl (hb hby d6_0) rfl rfl k) ?_
  obtain ⟨T42, X42, e42, st42⟩ := getF X0 hx hZ hown (host := "") (Or.inl (hw _ (List.mem_of_getElem? (i := 16) rfl))) Via.refl e0 F1 (g := (mkF m 1 #[.val (.ref a)] [(.ref a)])) rfl rfl (hb hby d6_1)
  refine Goes.by (T' := T42) (g' := (mkF m 4 #[.val (.ref a)] [(.double u)])) st42 ?_
  exact outD X42 hx hlk hret (hb hby d6_4) (by rw [e42]; exact ⟨rfl, N0, rfl⟩) (by decide) (by decide)
theorem d7_0 : decode prog_19_method_27_code 0 = .ok (.aload_n 0, 1) := by decide +kernel
theorem d7_1 : decode prog_19_method_27_code 1 = .ok (.getfield 16, 3) := by decide +kernel
theorem d7_4 : decode prog_19_method_27_code 4 = .ok (.dreturn, 1) := by decide +kernel
theorem ef_rm_y (m : MethodId) (x0 : Addr) : entryFrame m #[(.ref x0)] 1 = mkF m 0 #[.val (.ref x0)] [] := by first | (simp [entryFrame, mkF, argsToLocals, Value.category, maxLocals]; done) | rfl
set_option maxRecDepth 65536 in
set_option maxHeartbeats 40000000 in
theorem rm_y (l : Launch) (Z : State) (a0 : Array Value) (hw : ∀ d ∈ tables_1, d.before a0 Z = true) (a : Addr) (u : UInt64) (h0 : Heap) (n0 : Nat) (Z0 : n0 ≤ h0.size) (F1 : Fld Z h0 a "com/example/attitude_bridge/attitudebridge/Quaternion" "y" "D" (.double u)) :
    Does l (⟨"com/example/attitude_bridge/attitudebridge/Quaternion", "y", "()D"⟩ : MethodName) prog_19_method_27_code 1 (some .double) [] ({ frames := 0, cells := 0, slots := 0, locals := 0 } : Room) Z #[(.ref a)] h0 (fun v h L => v = some (.double u) ∧ Fr n0 L ∧ h = h0) := by
  refine Does.of (plainFor_of_name pn1) ?_
  intro p e s m below meth c s₁ hx hby hml hret hlk hZ hown hnm X0 e0
  have N0 := Fr.nil n0
  refine Goes.cast (g' := mkF m 0 #[.val (.ref a)] []) (ef_rm_y m a) ?_
  refine Goes.by (T' := s₁) (g' := (mkF m 1 #[.val (.ref a)] [(.ref a)])) (fun _ k => XS.aloadN X0.here hx rfl (hb hby d7_0) rfl rfl k) ?_
  obtain ⟨T43, X43, e43, st43⟩ := getF X0 hx hZ hown (host := "") (Or.inl (hw _ (List.mem_of_getElem? (i := 18) rfl))) Via.refl e0 F1 (g := (mkF m 1 #[.val (.ref a)] [(.ref a)])) rfl rfl (hb hby d7_1)
  refine Goes.by (T' := T43) (g' := (mkF m 4 #[.val (.ref a)] [(.double u)])) st43 ?_
  exact outD X43 hx hlk hret (hb hby d7_4) (by rw [e43]; exact ⟨rfl, N0, rfl⟩) (by decide) (by decide)
theorem d8_0 : decode prog_19_method_28_code 0 = .ok (.aload_n 0, 1) := by decide +kernel
theorem d8_1 : decode prog_19_method_28_code 1 = .ok (.getfield 19, 3) := by decide +kernel
theorem d8_4 : decode prog_19_method_28_code 4 = .ok (.dreturn, 1) := by decide +kernel
theorem ef_rm_z (m : MethodId) (x0 : Addr) : entryFrame m #[(.ref x0)] 1 = mkF m 0 #[.val (.ref x0)] [] := by first | (simp [entryFrame, mkF, argsToLocals, Value.category, maxLocals]; done) | rfl
set_option maxRecDepth 65536 in
set_option maxHeartbeats 40000000 in
theorem rm_z (l : Launch) (Z : State) (a0 : Array Value) (hw : ∀ d ∈ tables_1, d.before a0 Z = true) (a : Addr) (u : UInt64) (h0 : Heap) (n0 : Nat) (Z0 : n0 ≤ h0.size) (F1 : Fld Z h0 a "com/example/attitude_bridge/attitudebridge/Quaternion" "z" "D" (.double u)) :
    Does l (⟨"com/example/attitude_bridge/attitudebridge/Quaternion", "z", "()D"⟩ : MethodName) prog_19_method_28_code 1 (some .double) [] ({ frames := 0, cells := 0, slots := 0, locals := 0 } : Room) Z #[(.ref a)] h0 (fun v h L => v = some (.double u) ∧ Fr n0 L ∧ h = h0) := by
  refine Does.of (plainFor_of_name pn1) ?_
  intro p e s m below meth c s₁ hx hby hml hret hlk hZ hown hnm X0 e0
  have N0 := Fr.nil n0
  refine Goes.cast (g' := mkF m 0 #[.val (.ref a)] []) (ef_rm_z m a) ?_
  refine Goes.by (T' := s₁) (g' := (mkF m 1 #[.val (.ref a)] [(.ref a)])) (fun _ k => XS.aloadN X0.here hx rfl (hb hby d8_0) rfl rfl k) ?_
  obtain ⟨T44, X44, e44, st44⟩ := getF X0 hx hZ hown (host := "") (Or.inl (hw _ (List.mem_of_getElem? (i := 20) rfl))) Via.refl e0 F1 (g := (mkF m 1 #[.val (.ref a)] [(.ref a)])) rfl rfl (hb hby d8_1)
  refine Goes.by (T' := T44) (g' := (mkF m 4 #[.val (.ref a)] [(.double u)])) st44 ?_
  exact outD X44 hx hlk hret (hb hby d8_4) (by rw [e44]; exact ⟨rfl, N0, rfl⟩) (by decide) (by decide)
theorem pn2 : plainName "com/example/attitude_bridge/attitudebridge/QuaternionTimesPinLaw" = true := by first | (simp [plainName, overriddenIn]; done) | decide +kernel
theorem ef_rm_law (m : MethodId) (x0 : Int32) (x1 : Int32) (x2 : Int32) (x3 : Int32) : entryFrame m #[(.int x0), (.int x1), (.int x2), (.int x3)] maxLocals = mkF m 0 #[.val (.int x0), .val (.int x1), .val (.int x2), .val (.int x3), .unset, .unset, .unset, .unset, .unset, .unset, .unset, .unset, .unset, .unset, .unset, .unset, .unset, .unset, .unset, .unset, .unset, .unset, .unset, .unset, .unset, .unset, .unset, .unset, .unset, .unset, .unset, .unset, .unset, .unset, .unset, .unset, .unset, .unset, .unset] [] := by first | (simp [entryFrame, mkF, argsToLocals, Value.category, maxLocals]; done) | rfl
set_option maxRecDepth 65536 in
set_option maxHeartbeats 40000000 in
theorem rm_law (l : Launch) (Z : State) (a0 : Array Value) (hw : ∀ d ∈ tables_1, d.before a0 Z = true) (x0 x1 x2 x3 : Int32) (h0 : Heap) (n0 : Nat) (Z0 : n0 ≤ h0.size)  :
    Does l x code maxLocals ret tables_1 room_1 Z #[(.int x0), (.int x1), (.int x2), (.int x3)] h0 (fun v h L => v = some (.int 1) ∧ Fr n0 L) := by
  refine Does.of (plainFor_of_name pn2) ?_
  intro p e s m below meth c s₁ hx hby hml hret hlk hZ hown hnm X0 e0
  have N0 := Fr.nil n0
  refine Goes.cast (g' := mkF m 0 #[.val (.int x0), .val (.int x1), .val (.int x2), .val (.int x3), .unset, .unset, .unset, .unset, .unset, .unset, .unset, .unset, .unset, .unset, .unset, .unset, .unset, .unset, .unset, .unset, .unset, .unset, .unset, .unset, .unset, .unset, .unset, .unset, .unset, .unset, .unset, .unset, .unset, .unset, .unset, .unset, .unset, .unset, .unset] []) (ef_rm_law m x0 x1 x2 x3) ?_
  refine Goes.by (T' := s₁) (g' := (mkF m 1 #[.val (.int x0), .val (.int x1), .val (.int x2), .val (.int x3), .unset, .unset, .unset, .unset, .unset, .unset, .unset, .unset, .unset, .unset, .unset, .unset, .unset, .unset, .unset, .unset, .unset, .unset, .unset, .unset, .unset, .unset, .unset, .unset, .unset, .unset, .unset, .unset, .unset, .unset, .unset, .unset, .unset, .unset, .unset] [(.int x0)])) (fun _ k => XS.iloadN X0.here hx rfl (hb hby at_0) rfl k) ?_
  refine Goes.by (T' := s₁) (g' := (mkF m 2 #[.val (.int x0), .val (.int x1), .val (.int x2), .val (.int x3), .unset, .unset, .unset, .unset, .unset, .unset, .unset, .unset, .unset, .unset, .unset, .unset, .unset, .unset, .unset, .unset, .unset, .unset, .unset, .unset, .unset, .unset, .unset, .unset, .unset, .unset, .unset, .unset, .unset, .unset, .unset, .unset, .unset, .unset, .unset] [(.int ((x0).toInt16.toInt32))])) (fun _ k => XS.i2s X0.here hx rfl (hb hby at_1) rfl k) ?_
  refine Goes.by (T' := s₁) (g' := (mkF m 3 #[.val (.int x0), .val (.int x1), .val (.int x2), .val (.int x3), .unset, .unset, .unset, .unset, .unset, .unset, .unset, .unset, .unset, .unset, .unset, .unset, .unset, .unset, .unset, .unset, .unset, .unset, .unset, .unset, .unset, .unset, .unset, .unset, .unset, .unset, .unset, .unset, .unset, .unset, .unset, .unset, .unset, .unset, .unset] [(.long ((((x0).toInt16.toInt32)).toInt64))])) (fun _ k => XS.i2l X0.here hx rfl (hb hby at_2) rfl k) ?_
  obtain ⟨y0, q_y0⟩ : ∃ zz : Int64, zz = ((((x0).toInt16.toInt32)).toInt64) := ⟨_, rfl⟩
  rw [← q_y0]
  have by0 : -32768 ≤ y0.toInt ∧ y0.toInt ≤ 32768 := by rw [q_y0, c_i2l]; have t := own_short x0; omega
  refine Goes.by (T' := s₁) (g' := (mkF m 5 #[.val (.int x0), .val (.int x1), .val (.int x2), .val (.int x3), .val (.long y0), .second, .unset, .unset, .unset, .unset, .unset, .unset, .unset, .unset, .unset, .unset, .unset, .unset, .unset, .unset, .unset, .unset, .unset, .unset, .unset, .unset, .unset, .unset, .unset, .unset, .unset, .unset, .unset, .unset, .unset, .unset, .unset, .unset, .unset] [])) (fun _ k => XS.lstore X0.here hx rfl (hb hby at_3) rfl (l' := #[.val (.int x0), .val (.int x1), .val (.int x2), .val (.int x3), .val (.long y0), .second, .unset, .unset, .unset, .unset, .unset, .unset, .unset, .unset, .unset, .unset, .unset, .unset, .unset, .unset, .unset, .unset, .unset, .unset, .unset, .unset, .unset, .unset, .unset, .unset, .unset, .unset, .unset, .unset, .unset, .unset, .unset, .unset, .unset]) rfl k) ?_
  refine Goes.by (T' := s₁) (g' := (mkF m 6 #[.val (.int x0), .val (.int x1), .val (.int x2), .val (.int x3), .val (.long y0), .second, .unset, .unset, .unset, .unset, .unset, .unset, .unset, .unset, .unset, .unset, .unset, .unset, .unset, .unset, .unset, .unset, .unset, .unset, .unset, .unset, .unset, .unset, .unset, .unset, .unset, .unset, .unset, .unset, .unset, .unset, .unset, .unset, .unset] [(.int x0)])) (fun _ k => XS.iloadN X0.here hx rfl (hb hby at_5) rfl k) ?_
  refine Goes.by (T' := s₁) (g' := (mkF m 8 #[.val (.int x0), .val (.int x1), .val (.int x2), .val (.int x3), .val (.long y0), .second, .unset, .unset, .unset, .unset, .unset, .unset, .unset, .unset, .unset, .unset, .unset, .unset, .unset, .unset, .unset, .unset, .unset, .unset, .unset, .unset, .unset, .unset, .unset, .unset, .unset, .unset, .unset, .unset, .unset, .unset, .unset, .unset, .unset] [(.int (16 : Int32)), (.int x0)])) (fun _ k => XS.bipush X0.here hx rfl (hb hby at_6)  k) ?_
  refine Goes.by (T' := s₁) (g' := (mkF m 9 #[.val (.int x0), .val (.int x1), .val (.int x2), .val (.int x3), .val (.long y0), .second, .unset, .unset, .unset, .unset, .unset, .unset, .unset, .unset, .unset, .unset, .unset, .unset, .unset, .unset, .unset, .unset, .unset, .unset, .unset, .unset, .unset, .unset, .unset, .unset, .unset, .unset, .unset, .unset, .unset, .unset, .unset, .unset, .unset] [(.int (x0 >>> ((16 : Int32) &&& 31)))])) (fun _ k => XS.ishr X0.here hx rfl (hb hby at_8) rfl k) ?_
  refine Goes.by (T' := s₁) (g' := (mkF m 10 #[.val (.int x0), .val (.int x1), .val (.int x2), .val (.int x3), .val (.long y0), .second, .unset, .unset, .unset, .unset, .unset, .unset, .unset, .unset, .unset, .unset, .unset, .unset, .unset, .unset, .unset, .unset, .unset, .unset, .unset, .unset, .unset, .unset, .unset, .unset, .unset, .unset, .unset, .unset, .unset, .unset, .unset, .unset, .unset] [(.long (((x0 >>> ((16 : Int32) &&& 31))).toInt64))])) (fun _ k => XS.i2l X0.here hx rfl (hb hby at_9) rfl k) ?_
  obtain ⟨y1, q_y1⟩ : ∃ zz : Int64, zz = (((x0 >>> ((16 : Int32) &&& 31))).toInt64) := ⟨_, rfl⟩
  rw [← q_y1]
  have by1 : -32768 ≤ y1.toInt ∧ y1.toInt ≤ 32768 := by rw [q_y1, c_i2l]; have t := own_shr16 x0; omega
  refine Goes.by (T' := s₁) (g' := (mkF m 12 #[.val (.int x0), .val (.int x1), .val (.int x2), .val (.int x3), .val (.long y0), .second, .val (.long y1), .second, .unset, .unset, .unset, .unset, .unset, .unset, .unset, .unset, .unset, .unset, .unset, .unset, .unset, .unset, .unset, .unset, .unset, .unset, .unset, .unset, .unset, .unset, .unset, .unset, .unset, .unset, .unset, .unset, .unset, .unset, .unset] [])) (fun _ k => XS.lstore X0.here hx rfl (hb hby at_10) rfl (l' := #[.val (.int x0), .val (.int x1), .val (.int x2), .val (.int x3), .val (.long y0), .second, .val (.long y1), .second, .unset, .unset, .unset, .unset, .unset, .unset, .unset, .unset, .unset, .unset, .unset, .unset, .unset, .unset, .unset, .unset, .unset, .unset, .unset, .unset, .unset, .unset, .unset, .unset, .unset, .unset, .unset, .unset, .unset, .unset, .unset]) rfl k) ?_
  refine Goes.by (T' := s₁) (g' := (mkF m 13 #[.val (.int x0), .val (.int x1), .val (.int x2), .val (.int x3), .val (.long y0), .second, .val (.long y1), .second, .unset, .unset, .unset, .unset, .unset, .unset, .unset, .unset, .unset, .unset, .unset, .unset, .unset, .unset, .unset, .unset, .unset, .unset, .unset, .unset, .unset, .unset, .unset, .unset, .unset, .unset, .unset, .unset, .unset, .unset, .unset] [(.int x1)])) (fun _ k => XS.iloadN X0.here hx rfl (hb hby at_12) rfl k) ?_
  refine Goes.by (T' := s₁) (g' := (mkF m 14 #[.val (.int x0), .val (.int x1), .val (.int x2), .val (.int x3), .val (.long y0), .second, .val (.long y1), .second, .unset, .unset, .unset, .unset, .unset, .unset, .unset, .unset, .unset, .unset, .unset, .unset, .unset, .unset, .unset, .unset, .unset, .unset, .unset, .unset, .unset, .unset, .unset, .unset, .unset, .unset, .unset, .unset, .unset, .unset, .unset] [(.int ((x1).toInt16.toInt32))])) (fun _ k => XS.i2s X0.here hx rfl (hb hby at_13) rfl k) ?_
  refine Goes.by (T' := s₁) (g' := (mkF m 15 #[.val (.int x0), .val (.int x1), .val (.int x2), .val (.int x3), .val (.long y0), .second, .val (.long y1), .second, .unset, .unset, .unset, .unset, .unset, .unset, .unset, .unset, .unset, .unset, .unset, .unset, .unset, .unset, .unset, .unset, .unset, .unset, .unset, .unset, .unset, .unset, .unset, .unset, .unset, .unset, .unset, .unset, .unset, .unset, .unset] [(.long ((((x1).toInt16.toInt32)).toInt64))])) (fun _ k => XS.i2l X0.here hx rfl (hb hby at_14) rfl k) ?_
  obtain ⟨y2, q_y2⟩ : ∃ zz : Int64, zz = ((((x1).toInt16.toInt32)).toInt64) := ⟨_, rfl⟩
  rw [← q_y2]
  have by2 : -32768 ≤ y2.toInt ∧ y2.toInt ≤ 32768 := by rw [q_y2, c_i2l]; have t := own_short x1; omega
  refine Goes.by (T' := s₁) (g' := (mkF m 17 #[.val (.int x0), .val (.int x1), .val (.int x2), .val (.int x3), .val (.long y0), .second, .val (.long y1), .second, .val (.long y2), .second, .unset, .unset, .unset, .unset, .unset, .unset, .unset, .unset, .unset, .unset, .unset, .unset, .unset, .unset, .unset, .unset, .unset, .unset, .unset, .unset, .unset, .unset, .unset, .unset, .unset, .unset, .unset, .unset, .unset] [])) (fun _ k => XS.lstore X0.here hx rfl (hb hby at_15) rfl (l' := #[.val (.int x0), .val (.int x1), .val (.int x2), .val (.int x3), .val (.long y0), .second, .val (.long y1), .second, .val (.long y2), .second, .unset, .unset, .unset, .unset, .unset, .unset, .unset, .unset, .unset, .unset, .unset, .unset, .unset, .unset, .unset, .unset, .unset, .unset, .unset, .unset, .unset, .unset, .unset, .unset, .unset, .unset, .unset, .unset, .unset]) rfl k) ?_
  refine Goes.by (T' := s₁) (g' := (mkF m 18 #[.val (.int x0), .val (.int x1), .val (.int x2), .val (.int x3), .val (.long y0), .second, .val (.long y1), .second, .val (.long y2), .second, .unset, .unset, .unset, .unset, .unset, .unset, .unset, .unset, .unset, .unset, .unset, .unset, .unset, .unset, .unset, .unset, .unset, .unset, .unset, .unset, .unset, .unset, .unset, .unset, .unset, .unset, .unset, .unset, .unset] [(.int x1)])) (fun _ k => XS.iloadN X0.here hx rfl (hb hby at_17) rfl k) ?_
  refine Goes.by (T' := s₁) (g' := (mkF m 20 #[.val (.int x0), .val (.int x1), .val (.int x2), .val (.int x3), .val (.long y0), .second, .val (.long y1), .second, .val (.long y2), .second, .unset, .unset, .unset, .unset, .unset, .unset, .unset, .unset, .unset, .unset, .unset, .unset, .unset, .unset, .unset, .unset, .unset, .unset, .unset, .unset, .unset, .unset, .unset, .unset, .unset, .unset, .unset, .unset, .unset] [(.int (16 : Int32)), (.int x1)])) (fun _ k => XS.bipush X0.here hx rfl (hb hby at_18)  k) ?_
  refine Goes.by (T' := s₁) (g' := (mkF m 21 #[.val (.int x0), .val (.int x1), .val (.int x2), .val (.int x3), .val (.long y0), .second, .val (.long y1), .second, .val (.long y2), .second, .unset, .unset, .unset, .unset, .unset, .unset, .unset, .unset, .unset, .unset, .unset, .unset, .unset, .unset, .unset, .unset, .unset, .unset, .unset, .unset, .unset, .unset, .unset, .unset, .unset, .unset, .unset, .unset, .unset] [(.int (x1 >>> ((16 : Int32) &&& 31)))])) (fun _ k => XS.ishr X0.here hx rfl (hb hby at_20) rfl k) ?_
  refine Goes.by (T' := s₁) (g' := (mkF m 22 #[.val (.int x0), .val (.int x1), .val (.int x2), .val (.int x3), .val (.long y0), .second, .val (.long y1), .second, .val (.long y2), .second, .unset, .unset, .unset, .unset, .unset, .unset, .unset, .unset, .unset, .unset, .unset, .unset, .unset, .unset, .unset, .unset, .unset, .unset, .unset, .unset, .unset, .unset, .unset, .unset, .unset, .unset, .unset, .unset, .unset] [(.long (((x1 >>> ((16 : Int32) &&& 31))).toInt64))])) (fun _ k => XS.i2l X0.here hx rfl (hb hby at_21) rfl k) ?_
  obtain ⟨y3, q_y3⟩ : ∃ zz : Int64, zz = (((x1 >>> ((16 : Int32) &&& 31))).toInt64) := ⟨_, rfl⟩
  rw [← q_y3]
  have by3 : -32768 ≤ y3.toInt ∧ y3.toInt ≤ 32768 := by rw [q_y3, c_i2l]; have t := own_shr16 x1; omega
  refine Goes.by (T' := s₁) (g' := (mkF m 24 #[.val (.int x0), .val (.int x1), .val (.int x2), .val (.int x3), .val (.long y0), .second, .val (.long y1), .second, .val (.long y2), .second, .val (.long y3), .second, .unset, .unset, .unset, .unset, .unset, .unset, .unset, .unset, .unset, .unset, .unset, .unset, .unset, .unset, .unset, .unset, .unset, .unset, .unset, .unset, .unset, .unset, .unset, .unset, .unset, .unset, .unset] [])) (fun _ k => XS.lstore X0.here hx rfl (hb hby at_22) rfl (l' := #[.val (.int x0), .val (.int x1), .val (.int x2), .val (.int x3), .val (.long y0), .second, .val (.long y1), .second, .val (.long y2), .second, .val (.long y3), .second, .unset, .unset, .unset, .unset, .unset, .unset, .unset, .unset, .unset, .unset, .unset, .unset, .unset, .unset, .unset, .unset, .unset, .unset, .unset, .unset, .unset, .unset, .unset, .unset, .unset, .unset, .unset]) rfl k) ?_
  refine Goes.by (T' := s₁) (g' := (mkF m 25 #[.val (.int x0), .val (.int x1), .val (.int x2), .val (.int x3), .val (.long y0), .second, .val (.long y1), .second, .val (.long y2), .second, .val (.long y3), .second, .unset, .unset, .unset, .unset, .unset, .unset, .unset, .unset, .unset, .unset, .unset, .unset, .unset, .unset, .unset, .unset, .unset, .unset, .unset, .unset, .unset, .unset, .unset, .unset, .unset, .unset, .unset] [(.int x2)])) (fun _ k => XS.iloadN X0.here hx rfl (hb hby at_24) rfl k) ?_
  refine Goes.by (T' := s₁) (g' := (mkF m 26 #[.val (.int x0), .val (.int x1), .val (.int x2), .val (.int x3), .val (.long y0), .second, .val (.long y1), .second, .val (.long y2), .second, .val (.long y3), .second, .unset, .unset, .unset, .unset, .unset, .unset, .unset, .unset, .unset, .unset, .unset, .unset, .unset, .unset, .unset, .unset, .unset, .unset, .unset, .unset, .unset, .unset, .unset, .unset, .unset, .unset, .unset] [(.int ((x2).toInt16.toInt32))])) (fun _ k => XS.i2s X0.here hx rfl (hb hby at_25) rfl k) ?_
  refine Goes.by (T' := s₁) (g' := (mkF m 27 #[.val (.int x0), .val (.int x1), .val (.int x2), .val (.int x3), .val (.long y0), .second, .val (.long y1), .second, .val (.long y2), .second, .val (.long y3), .second, .unset, .unset, .unset, .unset, .unset, .unset, .unset, .unset, .unset, .unset, .unset, .unset, .unset, .unset, .unset, .unset, .unset, .unset, .unset, .unset, .unset, .unset, .unset, .unset, .unset, .unset, .unset] [(.long ((((x2).toInt16.toInt32)).toInt64))])) (fun _ k => XS.i2l X0.here hx rfl (hb hby at_26) rfl k) ?_
  obtain ⟨y4, q_y4⟩ : ∃ zz : Int64, zz = ((((x2).toInt16.toInt32)).toInt64) := ⟨_, rfl⟩
  rw [← q_y4]
  have by4 : -32768 ≤ y4.toInt ∧ y4.toInt ≤ 32768 := by rw [q_y4, c_i2l]; have t := own_short x2; omega
  refine Goes.by (T' := s₁) (g' := (mkF m 29 #[.val (.int x0), .val (.int x1), .val (.int x2), .val (.int x3), .val (.long y0), .second, .val (.long y1), .second, .val (.long y2), .second, .val (.long y3), .second, .val (.long y4), .second, .unset, .unset, .unset, .unset, .unset, .unset, .unset, .unset, .unset, .unset, .unset, .unset, .unset, .unset, .unset, .unset, .unset, .unset, .unset, .unset, .unset, .unset, .unset, .unset, .unset] [])) (fun _ k => XS.lstore X0.here hx rfl (hb hby at_27) rfl (l' := #[.val (.int x0), .val (.int x1), .val (.int x2), .val (.int x3), .val (.long y0), .second, .val (.long y1), .second, .val (.long y2), .second, .val (.long y3), .second, .val (.long y4), .second, .unset, .unset, .unset, .unset, .unset, .unset, .unset, .unset, .unset, .unset, .unset, .unset, .unset, .unset, .unset, .unset, .unset, .unset, .unset, .unset, .unset, .unset, .unset, .unset, .unset]) rfl k) ?_
  refine Goes.by (T' := s₁) (g' := (mkF m 30 #[.val (.int x0), .val (.int x1), .val (.int x2), .val (.int x3), .val (.long y0), .second, .val (.long y1), .second, .val (.long y2), .second, .val (.long y3), .second, .val (.long y4), .second, .unset, .unset, .unset, .unset, .unset, .unset, .unset, .unset, .unset, .unset, .unset, .unset, .unset, .unset, .unset, .unset, .unset, .unset, .unset, .unset, .unset, .unset, .unset, .unset, .unset] [(.int x2)])) (fun _ k => XS.iloadN X0.here hx rfl (hb hby at_29) rfl k) ?_
  refine Goes.by (T' := s₁) (g' := (mkF m 32 #[.val (.int x0), .val (.int x1), .val (.int x2), .val (.int x3), .val (.long y0), .second, .val (.long y1), .second, .val (.long y2), .second, .val (.long y3), .second, .val (.long y4), .second, .unset, .unset, .unset, .unset, .unset, .unset, .unset, .unset, .unset, .unset, .unset, .unset, .unset, .unset, .unset, .unset, .unset, .unset, .unset, .unset, .unset, .unset, .unset, .unset, .unset] [(.int (16 : Int32)), (.int x2)])) (fun _ k => XS.bipush X0.here hx rfl (hb hby at_30)  k) ?_
  refine Goes.by (T' := s₁) (g' := (mkF m 33 #[.val (.int x0), .val (.int x1), .val (.int x2), .val (.int x3), .val (.long y0), .second, .val (.long y1), .second, .val (.long y2), .second, .val (.long y3), .second, .val (.long y4), .second, .unset, .unset, .unset, .unset, .unset, .unset, .unset, .unset, .unset, .unset, .unset, .unset, .unset, .unset, .unset, .unset, .unset, .unset, .unset, .unset, .unset, .unset, .unset, .unset, .unset] [(.int (x2 >>> ((16 : Int32) &&& 31)))])) (fun _ k => XS.ishr X0.here hx rfl (hb hby at_32) rfl k) ?_
  refine Goes.by (T' := s₁) (g' := (mkF m 34 #[.val (.int x0), .val (.int x1), .val (.int x2), .val (.int x3), .val (.long y0), .second, .val (.long y1), .second, .val (.long y2), .second, .val (.long y3), .second, .val (.long y4), .second, .unset, .unset, .unset, .unset, .unset, .unset, .unset, .unset, .unset, .unset, .unset, .unset, .unset, .unset, .unset, .unset, .unset, .unset, .unset, .unset, .unset, .unset, .unset, .unset, .unset] [(.long (((x2 >>> ((16 : Int32) &&& 31))).toInt64))])) (fun _ k => XS.i2l X0.here hx rfl (hb hby at_33) rfl k) ?_
  obtain ⟨y5, q_y5⟩ : ∃ zz : Int64, zz = (((x2 >>> ((16 : Int32) &&& 31))).toInt64) := ⟨_, rfl⟩
  rw [← q_y5]
  have by5 : -32768 ≤ y5.toInt ∧ y5.toInt ≤ 32768 := by rw [q_y5, c_i2l]; have t := own_shr16 x2; omega
  refine Goes.by (T' := s₁) (g' := (mkF m 36 #[.val (.int x0), .val (.int x1), .val (.int x2), .val (.int x3), .val (.long y0), .second, .val (.long y1), .second, .val (.long y2), .second, .val (.long y3), .second, .val (.long y4), .second, .val (.long y5), .second, .unset, .unset, .unset, .unset, .unset, .unset, .unset, .unset, .unset, .unset, .unset, .unset, .unset, .unset, .unset, .unset, .unset, .unset, .unset, .unset, .unset, .unset, .unset] [])) (fun _ k => XS.lstore X0.here hx rfl (hb hby at_34) rfl (l' := #[.val (.int x0), .val (.int x1), .val (.int x2), .val (.int x3), .val (.long y0), .second, .val (.long y1), .second, .val (.long y2), .second, .val (.long y3), .second, .val (.long y4), .second, .val (.long y5), .second, .unset, .unset, .unset, .unset, .unset, .unset, .unset, .unset, .unset, .unset, .unset, .unset, .unset, .unset, .unset, .unset, .unset, .unset, .unset, .unset, .unset, .unset, .unset]) rfl k) ?_
  refine Goes.by (T' := s₁) (g' := (mkF m 37 #[.val (.int x0), .val (.int x1), .val (.int x2), .val (.int x3), .val (.long y0), .second, .val (.long y1), .second, .val (.long y2), .second, .val (.long y3), .second, .val (.long y4), .second, .val (.long y5), .second, .unset, .unset, .unset, .unset, .unset, .unset, .unset, .unset, .unset, .unset, .unset, .unset, .unset, .unset, .unset, .unset, .unset, .unset, .unset, .unset, .unset, .unset, .unset] [(.int x3)])) (fun _ k => XS.iloadN X0.here hx rfl (hb hby at_36) rfl k) ?_
  refine Goes.by (T' := s₁) (g' := (mkF m 38 #[.val (.int x0), .val (.int x1), .val (.int x2), .val (.int x3), .val (.long y0), .second, .val (.long y1), .second, .val (.long y2), .second, .val (.long y3), .second, .val (.long y4), .second, .val (.long y5), .second, .unset, .unset, .unset, .unset, .unset, .unset, .unset, .unset, .unset, .unset, .unset, .unset, .unset, .unset, .unset, .unset, .unset, .unset, .unset, .unset, .unset, .unset, .unset] [(.int ((x3).toInt16.toInt32))])) (fun _ k => XS.i2s X0.here hx rfl (hb hby at_37) rfl k) ?_
  refine Goes.by (T' := s₁) (g' := (mkF m 39 #[.val (.int x0), .val (.int x1), .val (.int x2), .val (.int x3), .val (.long y0), .second, .val (.long y1), .second, .val (.long y2), .second, .val (.long y3), .second, .val (.long y4), .second, .val (.long y5), .second, .unset, .unset, .unset, .unset, .unset, .unset, .unset, .unset, .unset, .unset, .unset, .unset, .unset, .unset, .unset, .unset, .unset, .unset, .unset, .unset, .unset, .unset, .unset] [(.long ((((x3).toInt16.toInt32)).toInt64))])) (fun _ k => XS.i2l X0.here hx rfl (hb hby at_38) rfl k) ?_
  obtain ⟨y6, q_y6⟩ : ∃ zz : Int64, zz = ((((x3).toInt16.toInt32)).toInt64) := ⟨_, rfl⟩
  rw [← q_y6]
  have by6 : -32768 ≤ y6.toInt ∧ y6.toInt ≤ 32768 := by rw [q_y6, c_i2l]; have t := own_short x3; omega
  refine Goes.by (T' := s₁) (g' := (mkF m 41 #[.val (.int x0), .val (.int x1), .val (.int x2), .val (.int x3), .val (.long y0), .second, .val (.long y1), .second, .val (.long y2), .second, .val (.long y3), .second, .val (.long y4), .second, .val (.long y5), .second, .val (.long y6), .second, .unset, .unset, .unset, .unset, .unset, .unset, .unset, .unset, .unset, .unset, .unset, .unset, .unset, .unset, .unset, .unset, .unset, .unset, .unset, .unset, .unset] [])) (fun _ k => XS.lstore X0.here hx rfl (hb hby at_39) rfl (l' := #[.val (.int x0), .val (.int x1), .val (.int x2), .val (.int x3), .val (.long y0), .second, .val (.long y1), .second, .val (.long y2), .second, .val (.long y3), .second, .val (.long y4), .second, .val (.long y5), .second, .val (.long y6), .second, .unset, .unset, .unset, .unset, .unset, .unset, .unset, .unset, .unset, .unset, .unset, .unset, .unset, .unset, .unset, .unset, .unset, .unset, .unset, .unset, .unset]) rfl k) ?_
  refine Goes.by (T' := s₁) (g' := (mkF m 42 #[.val (.int x0), .val (.int x1), .val (.int x2), .val (.int x3), .val (.long y0), .second, .val (.long y1), .second, .val (.long y2), .second, .val (.long y3), .second, .val (.long y4), .second, .val (.long y5), .second, .val (.long y6), .second, .unset, .unset, .unset, .unset, .unset, .unset, .unset, .unset, .unset, .unset, .unset, .unset, .unset, .unset, .unset, .unset, .unset, .unset, .unset, .unset, .unset] [(.int x3)])) (fun _ k => XS.iloadN X0.here hx rfl (hb hby at_41) rfl k) ?_
  refine Goes.by (T' := s₁) (g' := (mkF m 44 #[.val (.int x0), .val (.int x1), .val (.int x2), .val (.int x3), .val (.long y0), .second, .val (.long y1), .second, .val (.long y2), .second, .val (.long y3), .second, .val (.long y4), .second, .val (.long y5), .second, .val (.long y6), .second, .unset, .unset, .unset, .unset, .unset, .unset, .unset, .unset, .unset, .unset, .unset, .unset, .unset, .unset, .unset, .unset, .unset, .unset, .unset, .unset, .unset] [(.int (16 : Int32)), (.int x3)])) (fun _ k => XS.bipush X0.here hx rfl (hb hby at_42)  k) ?_
  refine Goes.by (T' := s₁) (g' := (mkF m 45 #[.val (.int x0), .val (.int x1), .val (.int x2), .val (.int x3), .val (.long y0), .second, .val (.long y1), .second, .val (.long y2), .second, .val (.long y3), .second, .val (.long y4), .second, .val (.long y5), .second, .val (.long y6), .second, .unset, .unset, .unset, .unset, .unset, .unset, .unset, .unset, .unset, .unset, .unset, .unset, .unset, .unset, .unset, .unset, .unset, .unset, .unset, .unset, .unset] [(.int (x3 >>> ((16 : Int32) &&& 31)))])) (fun _ k => XS.ishr X0.here hx rfl (hb hby at_44) rfl k) ?_
  refine Goes.by (T' := s₁) (g' := (mkF m 46 #[.val (.int x0), .val (.int x1), .val (.int x2), .val (.int x3), .val (.long y0), .second, .val (.long y1), .second, .val (.long y2), .second, .val (.long y3), .second, .val (.long y4), .second, .val (.long y5), .second, .val (.long y6), .second, .unset, .unset, .unset, .unset, .unset, .unset, .unset, .unset, .unset, .unset, .unset, .unset, .unset, .unset, .unset, .unset, .unset, .unset, .unset, .unset, .unset] [(.long (((x3 >>> ((16 : Int32) &&& 31))).toInt64))])) (fun _ k => XS.i2l X0.here hx rfl (hb hby at_45) rfl k) ?_
  obtain ⟨y7, q_y7⟩ : ∃ zz : Int64, zz = (((x3 >>> ((16 : Int32) &&& 31))).toInt64) := ⟨_, rfl⟩
  rw [← q_y7]
  have by7 : -32768 ≤ y7.toInt ∧ y7.toInt ≤ 32768 := by rw [q_y7, c_i2l]; have t := own_shr16 x3; omega
  refine Goes.by (T' := s₁) (g' := (mkF m 48 #[.val (.int x0), .val (.int x1), .val (.int x2), .val (.int x3), .val (.long y0), .second, .val (.long y1), .second, .val (.long y2), .second, .val (.long y3), .second, .val (.long y4), .second, .val (.long y5), .second, .val (.long y6), .second, .val (.long y7), .second, .unset, .unset, .unset, .unset, .unset, .unset, .unset, .unset, .unset, .unset, .unset, .unset, .unset, .unset, .unset, .unset, .unset, .unset, .unset] [])) (fun _ k => XS.lstore X0.here hx rfl (hb hby at_46) rfl (l' := #[.val (.int x0), .val (.int x1), .val (.int x2), .val (.int x3), .val (.long y0), .second, .val (.long y1), .second, .val (.long y2), .second, .val (.long y3), .second, .val (.long y4), .second, .val (.long y5), .second, .val (.long y6), .second, .val (.long y7), .second, .unset, .unset, .unset, .unset, .unset, .unset, .unset, .unset, .unset, .unset, .unset, .unset, .unset, .unset, .unset, .unset, .unset, .unset, .unset]) rfl k) ?_
  obtain ⟨T45, h45, X45, e45, E45, A45, D45, -, st45⟩ := newO X0 hx hZ hown (hw _ (List.mem_of_getElem? (i := 0) rfl)) (hw _ (List.mem_of_getElem? (i := 1) rfl)) (hw _ (List.mem_of_getElem? (i := 2) rfl)) e0 (g := (mkF m 48 #[.val (.int x0), .val (.int x1), .val (.int x2), .val (.int x3), .val (.long y0), .second, .val (.long y1), .second, .val (.long y2), .second, .val (.long y3), .second, .val (.long y4), .second, .val (.long y5), .second, .val (.long y6), .second, .val (.long y7), .second, .unset, .unset, .unset, .unset, .unset, .unset, .unset, .unset, .unset, .unset, .unset, .unset, .unset, .unset, .unset, .unset, .unset, .unset, .unset] [])) rfl (hb hby at_48) (by decide) (by decide)
  obtain ⟨a, g45⟩ : ∃ z, z = h0.size := ⟨_, rfl⟩
  rw [← g45] at A45 D45 st45
  have ge_a : n0 ≤ a := Nat.le_trans Z0 (Nat.le_of_eq g45.symm)
  have Z0 := Nat.le_trans Z0 E45.1
  have E_a := A45
  have F_w_a : Fld Z h45 a "com/example/attitude_bridge/attitudebridge/Quaternion" "w" "D" (.double (0 : UInt64)) := D45 (Or.inr (hw _ (List.mem_of_getElem? (i := 15) rfl))) (ty := .double) (by decide)
  have F_x_a : Fld Z h45 a "com/example/attitude_bridge/attitudebridge/Quaternion" "x" "D" (.double (0 : UInt64)) := D45 (Or.inr (hw _ (List.mem_of_getElem? (i := 17) rfl))) (ty := .double) (by decide)
  have F_y_a : Fld Z h45 a "com/example/attitude_bridge/attitudebridge/Quaternion" "y" "D" (.double (0 : UInt64)) := D45 (Or.inr (hw _ (List.mem_of_getElem? (i := 19) rfl))) (ty := .double) (by decide)
  have F_z_a : Fld Z h45 a "com/example/attitude_bridge/attitudebridge/Quaternion" "z" "D" (.double (0 : UInt64)) := D45 (Or.inr (hw _ (List.mem_of_getElem? (i := 21) rfl))) (ty := .double) (by decide)
  refine Goes.by (T' := T45) (g' := (mkF m 51 #[.val (.int x0), .val (.int x1), .val (.int x2), .val (.int x3), .val (.long y0), .second, .val (.long y1), .second, .val (.long y2), .second, .val (.long y3), .second, .val (.long y4), .second, .val (.long y5), .second, .val (.long y6), .second, .val (.long y7), .second, .unset, .unset, .unset, .unset, .unset, .unset, .unset, .unset, .unset, .unset, .unset, .unset, .unset, .unset, .unset, .unset, .unset, .unset, .unset] [(.ref a)])) st45 ?_
  refine Goes.by (T' := T45) (g' := (mkF m 52 #[.val (.int x0), .val (.int x1), .val (.int x2), .val (.int x3), .val (.long y0), .second, .val (.long y1), .second, .val (.long y2), .second, .val (.long y3), .second, .val (.long y4), .second, .val (.long y5), .second, .val (.long y6), .second, .val (.long y7), .second, .unset, .unset, .unset, .unset, .unset, .unset, .unset, .unset, .unset, .unset, .unset, .unset, .unset, .unset, .unset, .unset, .unset, .unset, .unset] [(.ref a), (.ref a)])) (fun _ k => XS.dup X45.here hx rfl (hb hby at_51) rfl rfl k) ?_
  refine Goes.by (T' := T45) (g' := (mkF m 54 #[.val (.int x0), .val (.int x1), .val (.int x2), .val (.int x3), .val (.long y0), .second, .val (.long y1), .second, .val (.long y2), .second, .val (.long y3), .second, .val (.long y4), .second, .val (.long y5), .second, .val (.long y6), .second, .val (.long y7), .second, .unset, .unset, .unset, .unset, .unset, .unset, .unset, .unset, .unset, .unset, .unset, .unset, .unset, .unset, .unset, .unset, .unset, .unset, .unset] [(.long y0), (.ref a), (.ref a)])) (fun _ k => XS.lload X45.here hx rfl (hb hby at_52) rfl k) ?_
  obtain ⟨d0, q_d0⟩ : ∃ zz, FP.l2d y0 = zz := ⟨_, rfl⟩
  refine Goes.by (T' := T45) (g' := (mkF m 55 #[.val (.int x0), .val (.int x1), .val (.int x2), .val (.int x3), .val (.long y0), .second, .val (.long y1), .second, .val (.long y2), .second, .val (.long y3), .second, .val (.long y4), .second, .val (.long y5), .second, .val (.long y6), .second, .val (.long y7), .second, .unset, .unset, .unset, .unset, .unset, .unset, .unset, .unset, .unset, .unset, .unset, .unset, .unset, .unset, .unset, .unset, .unset, .unset, .unset] [(.double d0), (.ref a), (.ref a)])) (fun _ k => XS.l2dS X45.here hx rfl (hb hby at_54) rfl q_d0 k) ?_
  have D_d0 : Core.DInt y0.toInt d0 := DInt_l2d q_d0 (by omega)
  refine Goes.by (T' := T45) (g' := (mkF m 57 #[.val (.int x0), .val (.int x1), .val (.int x2), .val (.int x3), .val (.long y0), .second, .val (.long y1), .second, .val (.long y2), .second, .val (.long y3), .second, .val (.long y4), .second, .val (.long y5), .second, .val (.long y6), .second, .val (.long y7), .second, .unset, .unset, .unset, .unset, .unset, .unset, .unset, .unset, .unset, .unset, .unset, .unset, .unset, .unset, .unset, .unset, .unset, .unset, .unset] [(.long y1), (.double d0), (.ref a), (.ref a)])) (fun _ k => XS.lload X45.here hx rfl (hb hby at_55) rfl k) ?_
  obtain ⟨d1, q_d1⟩ : ∃ zz, FP.l2d y1 = zz := ⟨_, rfl⟩
  refine Goes.by (T' := T45) (g' := (mkF m 58 #[.val (.int x0), .val (.int x1), .val (.int x2), .val (.int x3), .val (.long y0), .second, .val (.long y1), .second, .val (.long y2), .second, .val (.long y3), .second, .val (.long y4), .second, .val (.long y5), .second, .val (.long y6), .second, .val (.long y7), .second, .unset, .unset, .unset, .unset, .unset, .unset, .unset, .unset, .unset, .unset, .unset, .unset, .unset, .unset, .unset, .unset, .unset, .unset, .unset] [(.double d1), (.double d0), (.ref a), (.ref a)])) (fun _ k => XS.l2dS X45.here hx rfl (hb hby at_57) rfl q_d1 k) ?_
  have D_d1 : Core.DInt y1.toInt d1 := DInt_l2d q_d1 (by omega)
  refine Goes.by (T' := T45) (g' := (mkF m 60 #[.val (.int x0), .val (.int x1), .val (.int x2), .val (.int x3), .val (.long y0), .second, .val (.long y1), .second, .val (.long y2), .second, .val (.long y3), .second, .val (.long y4), .second, .val (.long y5), .second, .val (.long y6), .second, .val (.long y7), .second, .unset, .unset, .unset, .unset, .unset, .unset, .unset, .unset, .unset, .unset, .unset, .unset, .unset, .unset, .unset, .unset, .unset, .unset, .unset] [(.long y2), (.double d1), (.double d0), (.ref a), (.ref a)])) (fun _ k => XS.lload X45.here hx rfl (hb hby at_58) rfl k) ?_
  obtain ⟨d2, q_d2⟩ : ∃ zz, FP.l2d y2 = zz := ⟨_, rfl⟩
  refine Goes.by (T' := T45) (g' := (mkF m 61 #[.val (.int x0), .val (.int x1), .val (.int x2), .val (.int x3), .val (.long y0), .second, .val (.long y1), .second, .val (.long y2), .second, .val (.long y3), .second, .val (.long y4), .second, .val (.long y5), .second, .val (.long y6), .second, .val (.long y7), .second, .unset, .unset, .unset, .unset, .unset, .unset, .unset, .unset, .unset, .unset, .unset, .unset, .unset, .unset, .unset, .unset, .unset, .unset, .unset] [(.double d2), (.double d1), (.double d0), (.ref a), (.ref a)])) (fun _ k => XS.l2dS X45.here hx rfl (hb hby at_60) rfl q_d2 k) ?_
  have D_d2 : Core.DInt y2.toInt d2 := DInt_l2d q_d2 (by omega)
  refine Goes.by (T' := T45) (g' := (mkF m 63 #[.val (.int x0), .val (.int x1), .val (.int x2), .val (.int x3), .val (.long y0), .second, .val (.long y1), .second, .val (.long y2), .second, .val (.long y3), .second, .val (.long y4), .second, .val (.long y5), .second, .val (.long y6), .second, .val (.long y7), .second, .unset, .unset, .unset, .unset, .unset, .unset, .unset, .unset, .unset, .unset, .unset, .unset, .unset, .unset, .unset, .unset, .unset, .unset, .unset] [(.long y3), (.double d2), (.double d1), (.double d0), (.ref a), (.ref a)])) (fun _ k => XS.lload X45.here hx rfl (hb hby at_61) rfl k) ?_
  obtain ⟨d3, q_d3⟩ : ∃ zz, FP.l2d y3 = zz := ⟨_, rfl⟩
  refine Goes.by (T' := T45) (g' := (mkF m 64 #[.val (.int x0), .val (.int x1), .val (.int x2), .val (.int x3), .val (.long y0), .second, .val (.long y1), .second, .val (.long y2), .second, .val (.long y3), .second, .val (.long y4), .second, .val (.long y5), .second, .val (.long y6), .second, .val (.long y7), .second, .unset, .unset, .unset, .unset, .unset, .unset, .unset, .unset, .unset, .unset, .unset, .unset, .unset, .unset, .unset, .unset, .unset, .unset, .unset] [(.double d3), (.double d2), (.double d1), (.double d0), (.ref a), (.ref a)])) (fun _ k => XS.l2dS X45.here hx rfl (hb hby at_63) rfl q_d3 k) ?_
  have D_d3 : Core.DInt y3.toInt d3 := DInt_l2d q_d3 (by omega)
  obtain ⟨v46, T46, L46, X46, hQ46, st46⟩ := callI X45 hx hZ (y := (⟨"com/example/attitude_bridge/attitudebridge/Quaternion", "<init>", "(DDDD)V"⟩ : MethodName)) rfl hown (hw _ (List.mem_of_getElem? (i := 3) rfl)) (hw _ (List.mem_of_getElem? (i := 4) rfl)) (hw _ (List.mem_of_getElem? (i := 5) rfl)) (hw _ (List.mem_of_getElem? (i := 2) rfl)) (by decide) e45 (a := a) (argsL := [(.double d0), (.double d1), (.double d2), (.double d3)]) (rest := [(.ref a)]) (W := 1) (rm_init l Z a0 hw a d0 d1 d2 d3 h45 n0 Z0 E_a F_w_a F_x_a F_y_a F_z_a ge_a) rfl (by decide) (by decide) (by decide) (by decide) (g := (mkF m 64 #[.val (.int x0), .val (.int x1), .val (.int x2), .val (.int x3), .val (.long y0), .second, .val (.long y1), .second, .val (.long y2), .second, .val (.long y3), .second, .val (.long y4), .second, .val (.long y5), .second, .val (.long y6), .second, .val (.long y7), .second, .unset, .unset, .unset, .unset, .unset, .unset, .unset, .unset, .unset, .unset, .unset, .unset, .unset, .unset, .unset, .unset, .unset, .unset, .unset] [(.double d3), (.double d2), (.double d1), (.double d0), (.ref a), (.ref a)])) rfl (by rw [hml]; rfl) (lenOf pd1 rfl) rfl (by show 2 * 0 + _ ≤ _; exact Nat.le_of_eq rfl) (hb hby at_64)
  obtain ⟨rfl, F_w_a, F_x_a, F_y_a, F_z_a, K46, NL46⟩ := hQ46
  have N0 := Fr.app N0 NL46
  have e46 : T46.heap = T46.heap := rfl
  have E_a := E_a.keep K46
  have Z0 := Nat.le_trans Z0 K46.1
  refine Goes.by (T' := T46) (g' := (mkF m 67 #[.val (.int x0), .val (.int x1), .val (.int x2), .val (.int x3), .val (.long y0), .second, .val (.long y1), .second, .val (.long y2), .second, .val (.long y3), .second, .val (.long y4), .second, .val (.long y5), .second, .val (.long y6), .second, .val (.long y7), .second, .unset, .unset, .unset, .unset, .unset, .unset, .unset, .unset, .unset, .unset, .unset, .unset, .unset, .unset, .unset, .unset, .unset, .unset, .unset] [(.ref a)])) st46 ?_
  refine Goes.by (T' := T46) (g' := (mkF m 69 #[.val (.int x0), .val (.int x1), .val (.int x2), .val (.int x3), .val (.long y0), .second, .val (.long y1), .second, .val (.long y2), .second, .val (.long y3), .second, .val (.long y4), .second, .val (.long y5), .second, .val (.long y6), .second, .val (.long y7), .second, .val (.ref a), .unset, .unset, .unset, .unset, .unset, .unset, .unset, .unset, .unset, .unset, .unset, .unset, .unset, .unset, .unset, .unset, .unset, .unset] [])) (fun _ k => XS.astore X46.here hx rfl (hb hby at_67) rfl rfl (l' := #[.val (.int x0), .val (.int x1), .val (.int x2), .val (.int x3), .val (.long y0), .second, .val (.long y1), .second, .val (.long y2), .second, .val (.long y3), .second, .val (.long y4), .second, .val (.long y5), .second, .val (.long y6), .second, .val (.long y7), .second, .val (.ref a), .unset, .unset, .unset, .unset, .unset, .unset, .unset, .unset, .unset, .unset, .unset, .unset, .unset, .unset, .unset, .unset, .unset, .unset]) rfl k) ?_
  obtain ⟨T47, h47, X47, e47, E47, A47, D47, -, st47⟩ := newO X46 hx hZ hown (hw _ (List.mem_of_getElem? (i := 0) rfl)) (hw _ (List.mem_of_getElem? (i := 1) rfl)) (hw _ (List.mem_of_getElem? (i := 2) rfl)) e46 (g := (mkF m 69 #[.val (.int x0), .val (.int x1), .val (.int x2), .val (.int x3), .val (.long y0), .second, .val (.long y1), .second, .val (.long y2), .second, .val (.long y3), .second, .val (.long y4), .second, .val (.long y5), .second, .val (.long y6), .second, .val (.long y7), .second, .val (.ref a), .unset, .unset, .unset, .unset, .unset, .unset, .unset, .unset, .unset, .unset, .unset, .unset, .unset, .unset, .unset, .unset, .unset, .unset] [])) rfl (hb hby at_69) (by decide) (by decide)
  obtain ⟨b, g47⟩ : ∃ z, z = T46.heap.size := ⟨_, rfl⟩
  rw [← g47] at A47 D47 st47
  have ne_a_b : a ≠ b := fun q => Nat.lt_irrefl _ (Nat.lt_of_lt_of_eq E_a.lt (g47.symm.trans q.symm))
  have ge_b : n0 ≤ b := Nat.le_trans Z0 (Nat.le_of_eq g47.symm)
  have E_a := E_a.ext E47
  have F_w_a := F_w_a.ext E47
  have F_x_a := F_x_a.ext E47
  have F_y_a := F_y_a.ext E47
  have F_z_a := F_z_a.ext E47
  have Z0 := Nat.le_trans Z0 E47.1
  have E_b := A47
  have F_w_b : Fld Z h47 b "com/example/attitude_bridge/attitudebridge/Quaternion" "w" "D" (.double (0 : UInt64)) := D47 (Or.inr (hw _ (List.mem_of_getElem? (i := 15) rfl))) (ty := .double) (by decide)
  have F_x_b : Fld Z h47 b "com/example/attitude_bridge/attitudebridge/Quaternion" "x" "D" (.double (0 : UInt64)) := D47 (Or.inr (hw _ (List.mem_of_getElem? (i := 17) rfl))) (ty := .double) (by decide)
  have F_y_b : Fld Z h47 b "com/example/attitude_bridge/attitudebridge/Quaternion" "y" "D" (.double (0 : UInt64)) := D47 (Or.inr (hw _ (List.mem_of_getElem? (i := 19) rfl))) (ty := .double) (by decide)
  have F_z_b : Fld Z h47 b "com/example/attitude_bridge/attitudebridge/Quaternion" "z" "D" (.double (0 : UInt64)) := D47 (Or.inr (hw _ (List.mem_of_getElem? (i := 21) rfl))) (ty := .double) (by decide)
  refine Goes.by (T' := T47) (g' := (mkF m 72 #[.val (.int x0), .val (.int x1), .val (.int x2), .val (.int x3), .val (.long y0), .second, .val (.long y1), .second, .val (.long y2), .second, .val (.long y3), .second, .val (.long y4), .second, .val (.long y5), .second, .val (.long y6), .second, .val (.long y7), .second, .val (.ref a), .unset, .unset, .unset, .unset, .unset, .unset, .unset, .unset, .unset, .unset, .unset, .unset, .unset, .unset, .unset, .unset, .unset, .unset] [(.ref b)])) st47 ?_
  refine Goes.by (T' := T47) (g' := (mkF m 73 #[.val (.int x0), .val (.int x1), .val (.int x2), .val (.int x3), .val (.long y0), .second, .val (.long y1), .second, .val (.long y2), .second, .val (.long y3), .second, .val (.long y4), .second, .val (.long y5), .second, .val (.long y6), .second, .val (.long y7), .second, .val (.ref a), .unset, .unset, .unset, .unset, .unset, .unset, .unset, .unset, .unset, .unset, .unset, .unset, .unset, .unset, .unset, .unset, .unset, .unset] [(.ref b), (.ref b)])) (fun _ k => XS.dup X47.here hx rfl (hb hby at_72) rfl rfl k) ?_
  refine Goes.by (T' := T47) (g' := (mkF m 75 #[.val (.int x0), .val (.int x1), .val (.int x2), .val (.int x3), .val (.long y0), .second, .val (.long y1), .second, .val (.long y2), .second, .val (.long y3), .second, .val (.long y4), .second, .val (.long y5), .second, .val (.long y6), .second, .val (.long y7), .second, .val (.ref a), .unset, .unset, .unset, .unset, .unset, .unset, .unset, .unset, .unset, .unset, .unset, .unset, .unset, .unset, .unset, .unset, .unset, .unset] [(.long y4), (.ref b), (.ref b)])) (fun _ k => XS.lload X47.here hx rfl (hb hby at_73) rfl k) ?_
  obtain ⟨d4, q_d4⟩ : ∃ zz, FP.l2d y4 = zz := ⟨_, rfl⟩
  refine Goes.by (T' := T47) (g' := (mkF m 76 #[.val (.int x0), .val (.int x1), .val (.int x2), .val (.int x3), .val (.long y0), .second, .val (.long y1), .second, .val (.long y2), .second, .val (.long y3), .second, .val (.long y4), .second, .val (.long y5), .second, .val (.long y6), .second, .val (.long y7), .second, .val (.ref a), .unset, .unset, .unset, .unset, .unset, .unset, .unset, .unset, .unset, .unset, .unset, .unset, .unset, .unset, .unset, .unset, .unset, .unset] [(.double d4), (.ref b), (.ref b)])) (fun _ k => XS.l2dS X47.here hx rfl (hb hby at_75) rfl q_d4 k) ?_
  have D_d4 : Core.DInt y4.toInt d4 := DInt_l2d q_d4 (by omega)
  refine Goes.by (T' := T47) (g' := (mkF m 78 #[.val (.int x0), .val (.int x1), .val (.int x2), .val (.int x3), .val (.long y0), .second, .val (.long y1), .second, .val (.long y2), .second, .val (.long y3), .second, .val (.long y4), .second, .val (.long y5), .second, .val (.long y6), .second, .val (.long y7), .second, .val (.ref a), .unset, .unset, .unset, .unset, .unset, .unset, .unset, .unset, .unset, .unset, .unset, .unset, .unset, .unset, .unset, .unset, .unset, .unset] [(.long y5), (.double d4), (.ref b), (.ref b)])) (fun _ k => XS.lload X47.here hx rfl (hb hby at_76) rfl k) ?_
  obtain ⟨d5, q_d5⟩ : ∃ zz, FP.l2d y5 = zz := ⟨_, rfl⟩
  refine Goes.by (T' := T47) (g' := (mkF m 79 #[.val (.int x0), .val (.int x1), .val (.int x2), .val (.int x3), .val (.long y0), .second, .val (.long y1), .second, .val (.long y2), .second, .val (.long y3), .second, .val (.long y4), .second, .val (.long y5), .second, .val (.long y6), .second, .val (.long y7), .second, .val (.ref a), .unset, .unset, .unset, .unset, .unset, .unset, .unset, .unset, .unset, .unset, .unset, .unset, .unset, .unset, .unset, .unset, .unset, .unset] [(.double d5), (.double d4), (.ref b), (.ref b)])) (fun _ k => XS.l2dS X47.here hx rfl (hb hby at_78) rfl q_d5 k) ?_
  have D_d5 : Core.DInt y5.toInt d5 := DInt_l2d q_d5 (by omega)
  refine Goes.by (T' := T47) (g' := (mkF m 81 #[.val (.int x0), .val (.int x1), .val (.int x2), .val (.int x3), .val (.long y0), .second, .val (.long y1), .second, .val (.long y2), .second, .val (.long y3), .second, .val (.long y4), .second, .val (.long y5), .second, .val (.long y6), .second, .val (.long y7), .second, .val (.ref a), .unset, .unset, .unset, .unset, .unset, .unset, .unset, .unset, .unset, .unset, .unset, .unset, .unset, .unset, .unset, .unset, .unset, .unset] [(.long y6), (.double d5), (.double d4), (.ref b), (.ref b)])) (fun _ k => XS.lload X47.here hx rfl (hb hby at_79) rfl k) ?_
  obtain ⟨d6, q_d6⟩ : ∃ zz, FP.l2d y6 = zz := ⟨_, rfl⟩
  refine Goes.by (T' := T47) (g' := (mkF m 82 #[.val (.int x0), .val (.int x1), .val (.int x2), .val (.int x3), .val (.long y0), .second, .val (.long y1), .second, .val (.long y2), .second, .val (.long y3), .second, .val (.long y4), .second, .val (.long y5), .second, .val (.long y6), .second, .val (.long y7), .second, .val (.ref a), .unset, .unset, .unset, .unset, .unset, .unset, .unset, .unset, .unset, .unset, .unset, .unset, .unset, .unset, .unset, .unset, .unset, .unset] [(.double d6), (.double d5), (.double d4), (.ref b), (.ref b)])) (fun _ k => XS.l2dS X47.here hx rfl (hb hby at_81) rfl q_d6 k) ?_
  have D_d6 : Core.DInt y6.toInt d6 := DInt_l2d q_d6 (by omega)
  refine Goes.by (T' := T47) (g' := (mkF m 84 #[.val (.int x0), .val (.int x1), .val (.int x2), .val (.int x3), .val (.long y0), .second, .val (.long y1), .second, .val (.long y2), .second, .val (.long y3), .second, .val (.long y4), .second, .val (.long y5), .second, .val (.long y6), .second, .val (.long y7), .second, .val (.ref a), .unset, .unset, .unset, .unset, .unset, .unset, .unset, .unset, .unset, .unset, .unset, .unset, .unset, .unset, .unset, .unset, .unset, .unset] [(.long y7), (.double d6), (.double d5), (.double d4), (.ref b), (.ref b)])) (fun _ k => XS.lload X47.here hx rfl (hb hby at_82) rfl k) ?_
  obtain ⟨d7, q_d7⟩ : ∃ zz, FP.l2d y7 = zz := ⟨_, rfl⟩
  refine Goes.by (T' := T47) (g' := (mkF m 85 #[.val (.int x0), .val (.int x1), .val (.int x2), .val (.int x3), .val (.long y0), .second, .val (.long y1), .second, .val (.long y2), .second, .val (.long y3), .second, .val (.long y4), .second, .val (.long y5), .second, .val (.long y6), .second, .val (.long y7), .second, .val (.ref a), .unset, .unset, .unset, .unset, .unset, .unset, .unset, .unset, .unset, .unset, .unset, .unset, .unset, .unset, .unset, .unset, .unset, .unset] [(.double d7), (.double d6), (.double d5), (.double d4), (.ref b), (.ref b)])) (fun _ k => XS.l2dS X47.here hx rfl (hb hby at_84) rfl q_d7 k) ?_
  have D_d7 : Core.DInt y7.toInt d7 := DInt_l2d q_d7 (by omega)
  obtain ⟨v48, T48, L48, X48, hQ48, st48⟩ := callI X47 hx hZ (y := (⟨"com/example/attitude_bridge/attitudebridge/Quaternion", "<init>", "(DDDD)V"⟩ : MethodName)) rfl hown (hw _ (List.mem_of_getElem? (i := 3) rfl)) (hw _ (List.mem_of_getElem? (i := 4) rfl)) (hw _ (List.mem_of_getElem? (i := 5) rfl)) (hw _ (List.mem_of_getElem? (i := 2) rfl)) (by decide) e47 (a := b) (argsL := [(.double d4), (.double d5), (.double d6), (.double d7)]) (rest := [(.ref b)]) (W := 1) (rm_init l Z a0 hw b d4 d5 d6 d7 h47 n0 Z0 E_b F_w_b F_x_b F_y_b F_z_b ge_b) rfl (by decide) (by decide) (by decide) (by decide) (g := (mkF m 85 #[.val (.int x0), .val (.int x1), .val (.int x2), .val (.int x3), .val (.long y0), .second, .val (.long y1), .second, .val (.long y2), .second, .val (.long y3), .second, .val (.long y4), .second, .val (.long y5), .second, .val (.long y6), .second, .val (.long y7), .second, .val (.ref a), .unset, .unset, .unset, .unset, .unset, .unset, .unset, .unset, .unset, .unset, .unset, .unset, .unset, .unset, .unset, .unset, .unset, .unset] [(.double d7), (.double d6), (.double d5), (.double d4), (.ref b), (.ref b)])) rfl (by rw [hml]; rfl) (lenOf pd1 rfl) rfl (by show 2 * 0 + _ ≤ _; exact Nat.le_of_eq rfl) (hb hby at_85)
  obtain ⟨rfl, F_w_b, F_x_b, F_y_b, F_z_b, K48, NL48⟩ := hQ48
  have N0 := Fr.app N0 NL48
  have e48 : T48.heap = T48.heap := rfl
  have E_a := E_a.keep K48
  have F_w_a := F_w_a.keep K48 (ninS ne_a_b nin0)
  have F_x_a := F_x_a.keep K48 (ninS ne_a_b nin0)
  have F_y_a := F_y_a.keep K48 (ninS ne_a_b nin0)
  have F_z_a := F_z_a.keep K48 (ninS ne_a_b nin0)
  have E_b := E_b.keep K48
  have Z0 := Nat.le_trans Z0 K48.1
  refine Goes.by (T' := T48) (g' := (mkF m 88 #[.val (.int x0), .val (.int x1), .val (.int x2), .val (.int x3), .val (.long y0), .second, .val (.long y1), .second, .val (.long y2), .second, .val (.long y3), .second, .val (.long y4), .second, .val (.long y5), .second, .val (.long y6), .second, .val (.long y7), .second, .val (.ref a), .unset, .unset, .unset, .unset, .unset, .unset, .unset, .unset, .unset, .unset, .unset, .unset, .unset, .unset, .unset, .unset, .unset, .unset] [(.ref b)])) st48 ?_
  refine Goes.by (T' := T48) (g' := (mkF m 90 #[.val (.int x0), .val (.int x1), .val (.int x2), .val (.int x3), .val (.long y0), .second, .val (.long y1), .second, .val (.long y2), .second, .val (.long y3), .second, .val (.long y4), .second, .val (.long y5), .second, .val (.long y6), .second, .val (.long y7), .second, .val (.ref a), .val (.ref b), .unset, .unset, .unset, .unset, .unset, .unset, .unset, .unset, .unset, .unset, .unset, .unset, .unset, .unset, .unset, .unset, .unset] [])) (fun _ k => XS.astore X48.here hx rfl (hb hby at_88) rfl rfl (l' := #[.val (.int x0), .val (.int x1), .val (.int x2), .val (.int x3), .val (.long y0), .second, .val (.long y1), .second, .val (.long y2), .second, .val (.long y3), .second, .val (.long y4), .second, .val (.long y5), .second, .val (.long y6), .second, .val (.long y7), .second, .val (.ref a), .val (.ref b), .unset, .unset, .unset, .unset, .unset, .unset, .unset, .unset, .unset, .unset, .unset, .unset, .unset, .unset, .unset, .unset, .unset]) rfl k) ?_
  refine Goes.by (T' := T48) (g' := (mkF m 92 #[.val (.int x0), .val (.int x1), .val (.int x2), .val (.int x3), .val (.long y0), .second, .val (.long y1), .second, .val (.long y2), .second, .val (.long y3), .second, .val (.long y4), .second, .val (.long y5), .second, .val (.long y6), .second, .val (.long y7), .second, .val (.ref a), .val (.ref b), .unset, .unset, .unset, .unset, .unset, .unset, .unset, .unset, .unset, .unset, .unset, .unset, .unset, .unset, .unset, .unset, .unset] [(.ref a)])) (fun _ k => XS.aload X48.here hx rfl (hb hby at_90) rfl rfl k) ?_
  refine Goes.by (T' := T48) (g' := (mkF m 94 #[.val (.int x0), .val (.int x1), .val (.int x2), .val (.int x3), .val (.long y0), .second, .val (.long y1), .second, .val (.long y2), .second, .val (.long y3), .second, .val (.long y4), .second, .val (.long y5), .second, .val (.long y6), .second, .val (.long y7), .second, .val (.ref a), .val (.ref b), .unset, .unset, .unset, .unset, .unset, .unset, .unset, .unset, .unset, .unset, .unset, .unset, .unset, .unset, .unset, .unset, .unset] [(.ref b), (.ref a)])) (fun _ k => XS.aload X48.here hx rfl (hb hby at_92) rfl rfl k) ?_
  obtain ⟨v49, T49, L49, X49, hQ49, st49⟩ := callV X48 hx hZ (y := (⟨"com/example/attitude_bridge/attitudebridge/Quaternion", "times", "(Lcom/example/attitude_bridge/attitudebridge/Quaternion;)Lcom/example/attitude_bridge/attitudebridge/Quaternion;"⟩ : MethodName)) hown (hw _ (List.mem_of_getElem? (i := 22) rfl)) (hw _ (List.mem_of_getElem? (i := 23) rfl)) (hw _ (List.mem_of_getElem? (i := 25) rfl)) (hw _ (List.mem_of_getElem? (i := 24) rfl)) (hw _ (List.mem_of_getElem? (i := 26) rfl)) (hw _ (List.mem_of_getElem? (i := 2) rfl)) (by decide) e48 E_a (argsL := [(.ref b)]) (rest := []) (W := 0) (rm_times l Z a0 hw a b d0 d1 d2 d3 d4 d5 d6 d7 y0.toInt y1.toInt y2.toInt y3.toInt y4.toInt y5.toInt y6.toInt y7.toInt T48.heap n0 Z0 F_w_a F_x_a F_y_a F_z_a F_w_b F_x_b F_y_b F_z_b D_d0 D_d4 by0 by4 D_d1 D_d5 by1 by5 D_d2 D_d6 by2 by6 D_d3 D_d7 by3 by7) rfl (by decide) (by decide) (by decide) (by decide) (g := (mkF m 94 #[.val (.int x0), .val (.int x1), .val (.int x2), .val (.int x3), .val (.long y0), .second, .val (.long y1), .second, .val (.long y2), .second, .val (.long y3), .second, .val (.long y4), .second, .val (.long y5), .second, .val (.long y6), .second, .val (.long y7), .second, .val (.ref a), .val (.ref b), .unset, .unset, .unset, .unset, .unset, .unset, .unset, .unset, .unset, .unset, .unset, .unset, .unset, .unset, .unset, .unset, .unset] [(.ref b), (.ref a)])) rfl (by rw [hml]; rfl) (lenOf pd2 rfl) rfl (by show 2 * 0 + _ ≤ _; exact Nat.le_of_eq rfl) (hb hby at_94)
  obtain ⟨r, r0, r1, r2, r3, rfl, szr, E_r, ⟨DR0, DR1, DR2, DR3⟩, F_w_r, F_x_r, F_y_r, F_z_r, K49, NL49⟩ := hQ49
  have N0 := Fr.app N0 NL49
  have ne_a_r : a ≠ r := fun q => Nat.lt_irrefl _ (Nat.lt_of_lt_of_le E_a.lt (Nat.le_trans szr (Nat.le_of_eq q.symm)))
  have ne_b_r : b ≠ r := fun q => Nat.lt_irrefl _ (Nat.lt_of_lt_of_le E_b.lt (Nat.le_trans szr (Nat.le_of_eq q.symm)))
  have ge_r : n0 ≤ r := Nat.le_trans Z0 szr
  have e49 : T49.heap = T49.heap := rfl
  have E_a := E_a.keep K49
  have F_w_a := F_w_a.keep K49 nin0
  have F_x_a := F_x_a.keep K49 nin0
  have F_y_a := F_y_a.keep K49 nin0
  have F_z_a := F_z_a.keep K49 nin0
  have E_b := E_b.keep K49
  have F_w_b := F_w_b.keep K49 nin0
  have F_x_b := F_x_b.keep K49 nin0
  have F_y_b := F_y_b.keep K49 nin0
  have F_z_b := F_z_b.keep K49 nin0
  have Z0 := Nat.le_trans Z0 K49.1
  refine Goes.by (T' := T49) (g' := (mkF m 97 #[.val (.int x0), .val (.int x1), .val (.int x2), .val (.int x3), .val (.long y0), .second, .val (.long y1), .second, .val (.long y2), .second, .val (.long y3), .second, .val (.long y4), .second, .val (.long y5), .second, .val (.long y6), .second, .val (.long y7), .second, .val (.ref a), .val (.ref b), .unset, .unset, .unset, .unset, .unset, .unset, .unset, .unset, .unset, .unset, .unset, .unset, .unset, .unset, .unset, .unset, .unset] [(.ref r)])) st49 ?_
  obtain ⟨p00, hp00⟩ : ∃ z : Int, z = y0.toInt * y4.toInt := ⟨_, rfl⟩
  have bp00 : -1073741824 ≤ p00 ∧ p00 ≤ 1073741824 := by rw [hp00]; exact own_mb2 (A := 32768) (B := 32768) by0 by4
  obtain ⟨p01, hp01⟩ : ∃ z : Int, z = y0.toInt * y5.toInt := ⟨_, rfl⟩
  have bp01 : -1073741824 ≤ p01 ∧ p01 ≤ 1073741824 := by rw [hp01]; exact own_mb2 (A := 32768) (B := 32768) by0 by5
  obtain ⟨p02, hp02⟩ : ∃ z : Int, z = y0.toInt * y6.toInt := ⟨_, rfl⟩
  have bp02 : -1073741824 ≤ p02 ∧ p02 ≤ 1073741824 := by rw [hp02]; exact own_mb2 (A := 32768) (B := 32768) by0 by6
  obtain ⟨p03, hp03⟩ : ∃ z : Int, z = y0.toInt * y7.toInt := ⟨_, rfl⟩
  have bp03 : -1073741824 ≤ p03 ∧ p03 ≤ 1073741824 := by rw [hp03]; exact own_mb2 (A := 32768) (B := 32768) by0 by7
  obtain ⟨p10, hp10⟩ : ∃ z : Int, z = y1.toInt * y4.toInt := ⟨_, rfl⟩
  have bp10 : -1073741824 ≤ p10 ∧ p10 ≤ 1073741824 := by rw [hp10]; exact own_mb2 (A := 32768) (B := 32768) by1 by4
  obtain ⟨p11, hp11⟩ : ∃ z : Int, z = y1.toInt * y5.toInt := ⟨_, rfl⟩
  have bp11 : -1073741824 ≤ p11 ∧ p11 ≤ 1073741824 := by rw [hp11]; exact own_mb2 (A := 32768) (B := 32768) by1 by5
  obtain ⟨p12, hp12⟩ : ∃ z : Int, z = y1.toInt * y6.toInt := ⟨_, rfl⟩
  have bp12 : -1073741824 ≤ p12 ∧ p12 ≤ 1073741824 := by rw [hp12]; exact own_mb2 (A := 32768) (B := 32768) by1 by6
  obtain ⟨p13, hp13⟩ : ∃ z : Int, z = y1.toInt * y7.toInt := ⟨_, rfl⟩
  have bp13 : -1073741824 ≤ p13 ∧ p13 ≤ 1073741824 := by rw [hp13]; exact own_mb2 (A := 32768) (B := 32768) by1 by7
  obtain ⟨p20, hp20⟩ : ∃ z : Int, z = y2.toInt * y4.toInt := ⟨_, rfl⟩
  have bp20 : -1073741824 ≤ p20 ∧ p20 ≤ 1073741824 := by rw [hp20]; exact own_mb2 (A := 32768) (B := 32768) by2 by4
  obtain ⟨p21, hp21⟩ : ∃ z : Int, z = y2.toInt * y5.toInt := ⟨_, rfl⟩
  have bp21 : -1073741824 ≤ p21 ∧ p21 ≤ 1073741824 := by rw [hp21]; exact own_mb2 (A := 32768) (B := 32768) by2 by5
  obtain ⟨p22, hp22⟩ : ∃ z : Int, z = y2.toInt * y6.toInt := ⟨_, rfl⟩
  have bp22 : -1073741824 ≤ p22 ∧ p22 ≤ 1073741824 := by rw [hp22]; exact own_mb2 (A := 32768) (B := 32768) by2 by6
  obtain ⟨p23, hp23⟩ : ∃ z : Int, z = y2.toInt * y7.toInt := ⟨_, rfl⟩
  have bp23 : -1073741824 ≤ p23 ∧ p23 ≤ 1073741824 := by rw [hp23]; exact own_mb2 (A := 32768) (B := 32768) by2 by7
  obtain ⟨p30, hp30⟩ : ∃ z : Int, z = y3.toInt * y4.toInt := ⟨_, rfl⟩
  have bp30 : -1073741824 ≤ p30 ∧ p30 ≤ 1073741824 := by rw [hp30]; exact own_mb2 (A := 32768) (B := 32768) by3 by4
  obtain ⟨p31, hp31⟩ : ∃ z : Int, z = y3.toInt * y5.toInt := ⟨_, rfl⟩
  have bp31 : -1073741824 ≤ p31 ∧ p31 ≤ 1073741824 := by rw [hp31]; exact own_mb2 (A := 32768) (B := 32768) by3 by5
  obtain ⟨p32, hp32⟩ : ∃ z : Int, z = y3.toInt * y6.toInt := ⟨_, rfl⟩
  have bp32 : -1073741824 ≤ p32 ∧ p32 ≤ 1073741824 := by rw [hp32]; exact own_mb2 (A := 32768) (B := 32768) by3 by6
  obtain ⟨p33, hp33⟩ : ∃ z : Int, z = y3.toInt * y7.toInt := ⟨_, rfl⟩
  have bp33 : -1073741824 ≤ p33 ∧ p33 ≤ 1073741824 := by rw [hp33]; exact own_mb2 (A := 32768) (B := 32768) by3 by7
  rw [← hp00, ← hp11, ← hp22, ← hp33] at DR0
  rw [← hp01, ← hp10, ← hp23, ← hp32] at DR1
  rw [← hp02, ← hp13, ← hp20, ← hp31] at DR2
  rw [← hp03, ← hp12, ← hp21, ← hp30] at DR3
  refine Goes.by (T' := T49) (g' := (mkF m 99 #[.val (.int x0), .val (.int x1), .val (.int x2), .val (.int x3), .val (.long y0), .second, .val (.long y1), .second, .val (.long y2), .second, .val (.long y3), .second, .val (.long y4), .second, .val (.long y5), .second, .val (.long y6), .second, .val (.long y7), .second, .val (.ref a), .val (.ref b), .val (.ref r), .unset, .unset, .unset, .unset, .unset, .unset, .unset, .unset, .unset, .unset, .unset, .unset, .unset, .unset, .unset, .unset] [])) (fun _ k => XS.astore X49.here hx rfl (hb hby at_97) rfl rfl (l' := #[.val (.int x0), .val (.int x1), .val (.int x2), .val (.int x3), .val (.long y0), .second, .val (.long y1), .second, .val (.long y2), .second, .val (.long y3), .second, .val (.long y4), .second, .val (.long y5), .second, .val (.long y6), .second, .val (.long y7), .second, .val (.ref a), .val (.ref b), .val (.ref r), .unset, .unset, .unset, .unset, .unset, .unset, .unset, .unset, .unset, .unset, .unset, .unset, .unset, .unset, .unset, .unset]) rfl k) ?_
  refine Goes.by (T' := T49) (g' := (mkF m 101 #[.val (.int x0), .val (.int x1), .val (.int x2), .val (.int x3), .val (.long y0), .second, .val (.long y1), .second, .val (.long y2), .second, .val (.long y3), .second, .val (.long y4), .second, .val (.long y5), .second, .val (.long y6), .second, .val (.long y7), .second, .val (.ref a), .val (.ref b), .val (.ref r), .unset, .unset, .unset, .unset, .unset, .unset, .unset, .unset, .unset, .unset, .unset, .unset, .unset, .unset, .unset, .unset] [(.long y1)])) (fun _ k => XS.lload X49.here hx rfl (hb hby at_99) rfl k) ?_
  refine Goes.by (T' := T49) (g' := (mkF m 103 #[.val (.int x0), .val (.int x1), .val (.int x2), .val (.int x3), .val (.long y0), .second, .val (.long y1), .second, .val (.long y2), .second, .val (.long y3), .second, .val (.long y4), .second, .val (.long y5), .second, .val (.long y6), .second, .val (.long y7), .second, .val (.ref a), .val (.ref b), .val (.ref r), .unset, .unset, .unset, .unset, .unset, .unset, .unset, .unset, .unset, .unset, .unset, .unset, .unset, .unset, .unset, .unset] [(.long y5), (.long y1)])) (fun _ k => XS.lload X49.here hx rfl (hb hby at_101) rfl k) ?_
  refine Goes.by (T' := T49) (g' := (mkF m 104 #[.val (.int x0), .val (.int x1), .val (.int x2), .val (.int x3), .val (.long y0), .second, .val (.long y1), .second, .val (.long y2), .second, .val (.long y3), .second, .val (.long y4), .second, .val (.long y5), .second, .val (.long y6), .second, .val (.long y7), .second, .val (.ref a), .val (.ref b), .val (.ref r), .unset, .unset, .unset, .unset, .unset, .unset, .unset, .unset, .unset, .unset, .unset, .unset, .unset, .unset, .unset, .unset] [(.long (y1 * y5))])) (fun _ k => XS.lmul X49.here hx rfl (hb hby at_103) rfl k) ?_
  obtain ⟨t0, q_t0⟩ : ∃ zz : Int64, zz = (y1 * y5) := ⟨_, rfl⟩
  rw [← q_t0]
  have e_t0 : t0.toInt = p11 := by rw [q_t0, own_lmul (by rw [← hp11]; omega), hp11]
  refine Goes.by (T' := T49) (g' := (mkF m 106 #[.val (.int x0), .val (.int x1), .val (.int x2), .val (.int x3), .val (.long y0), .second, .val (.long y1), .second, .val (.long y2), .second, .val (.long y3), .second, .val (.long y4), .second, .val (.long y5), .second, .val (.long y6), .second, .val (.long y7), .second, .val (.ref a), .val (.ref b), .val (.ref r), .unset, .unset, .unset, .unset, .unset, .unset, .unset, .unset, .unset, .unset, .unset, .unset, .unset, .unset, .unset, .unset] [(.long y2), (.long t0)])) (fun _ k => XS.lload X49.here hx rfl (hb hby at_104) rfl k) ?_
  refine Goes.by (T' := T49) (g' := (mkF m 108 #[.val (.int x0), .val (.int x1), .val (.int x2), .val (.int x3), .val (.long y0), .second, .val (.long y1), .second, .val (.long y2), .second, .val (.long y3), .second, .val (.long y4), .second, .val (.long y5), .second, .val (.long y6), .second, .val (.long y7), .second, .val (.ref a), .val (.ref b), .val (.ref r), .unset, .unset, .unset, .unset, .unset, .unset, .unset, .unset, .unset, .unset, .unset, .unset, .unset, .unset, .unset, .unset] [(.long y6), (.long y2), (.long t0)])) (fun _ k => XS.lload X49.here hx rfl (hb hby at_106) rfl k) ?_
  refine Goes.by (T' := T49) (g' := (mkF m 109 #[.val (.int x0), .val (.int x1), .val (.int x2), .val (.int x3), .val (.long y0), .second, .val (.long y1), .second, .val (.long y2), .second, .val (.long y3), .second, .val (.long y4), .second, .val (.long y5), .second, .val (.long y6), .second, .val (.long y7), .second, .val (.ref a), .val (.ref b), .val (.ref r), .unset, .unset, .unset, .unset, .unset, .unset, .unset, .unset, .unset, .unset, .unset, .unset, .unset, .unset, .unset, .unset] [(.long (y2 * y6)), (.long t0)])) (fun _ k => XS.lmul X49.here hx rfl (hb hby at_108) rfl k) ?_
  obtain ⟨t1, q_t1⟩ : ∃ zz : Int64, zz = (y2 * y6) := ⟨_, rfl⟩
  rw [← q_t1]
  have e_t1 : t1.toInt = p22 := by rw [q_t1, own_lmul (by rw [← hp22]; omega), hp22]
  refine Goes.by (T' := T49) (g' := (mkF m 110 #[.val (.int x0), .val (.int x1), .val (.int x2), .val (.int x3), .val (.long y0), .second, .val (.long y1), .second, .val (.long y2), .second, .val (.long y3), .second, .val (.long y4), .second, .val (.long y5), .second, .val (.long y6), .second, .val (.long y7), .second, .val (.ref a), .val (.ref b), .val (.ref r), .unset, .unset, .unset, .unset, .unset, .unset, .unset, .unset, .unset, .unset, .unset, .unset, .unset, .unset, .unset, .unset] [(.long (t0 + t1))])) (fun _ k => XS.ladd X49.here hx rfl (hb hby at_109) rfl k) ?_
  obtain ⟨t2, q_t2⟩ : ∃ zz : Int64, zz = (t0 + t1) := ⟨_, rfl⟩
  rw [← q_t2]
  have e_t2 : t2.toInt = (p11 + p22) := by rw [q_t2, own_ladd (by rw [e_t0, e_t1]; omega) (by rw [e_t0, e_t1]; omega), e_t0, e_t1]
  refine Goes.by (T' := T49) (g' := (mkF m 112 #[.val (.int x0), .val (.int x1), .val (.int x2), .val (.int x3), .val (.long y0), .second, .val (.long y1), .second, .val (.long y2), .second, .val (.long y3), .second, .val (.long y4), .second, .val (.long y5), .second, .val (.long y6), .second, .val (.long y7), .second, .val (.ref a), .val (.ref b), .val (.ref r), .unset, .unset, .unset, .unset, .unset, .unset, .unset, .unset, .unset, .unset, .unset, .unset, .unset, .unset, .unset, .unset] [(.long y3), (.long t2)])) (fun _ k => XS.lload X49.here hx rfl (hb hby at_110) rfl k) ?_
  refine Goes.by (T' := T49) (g' := (mkF m 114 #[.val (.int x0), .val (.int x1), .val (.int x2), .val (.int x3), .val (.long y0), .second, .val (.long y1), .second, .val (.long y2), .second, .val (.long y3), .second, .val (.long y4), .second, .val (.long y5), .second, .val (.long y6), .second, .val (.long y7), .second, .val (.ref a), .val (.ref b), .val (.ref r), .unset, .unset, .unset, .unset, .unset, .unset, .unset, .unset, .unset, .unset, .unset, .unset, .unset, .unset, .unset, .unset] [(.long y7), (.long y3), (.long t2)])) (fun _ k => XS.lload X49.here hx rfl (hb hby at_112) rfl k) ?_
  refine Goes.by (T' := T49) (g' := (mkF m 115 #[.val (.int x0), .val (.int x1), .val (.int x2), .val (.int x3), .val (.long y0), .second, .val (.long y1), .second, .val (.long y2), .second, .val (.long y3), .second, .val (.long y4), .second, .val (.long y5), .second, .val (.long y6), .second, .val (.long y7), .second, .val (.ref a), .val (.ref b), .val (.ref r), .unset, .unset, .unset, .unset, .unset, .unset, .unset, .unset, .unset, .unset, .unset, .unset, .unset, .unset, .unset, .unset] [(.long (y3 * y7)), (.long t2)])) (fun _ k => XS.lmul X49.here hx rfl (hb hby at_114) rfl k) ?_
  obtain ⟨t3, q_t3⟩ : ∃ zz : Int64, zz = (y3 * y7) := ⟨_, rfl⟩
  rw [← q_t3]
  have e_t3 : t3.toInt = p33 := by rw [q_t3, own_lmul (by rw [← hp33]; omega), hp33]
  refine Goes.by (T' := T49) (g' := (mkF m 116 #[.val (.int x0), .val (.int x1), .val (.int x2), .val (.int x3), .val (.long y0), .second, .val (.long y1), .second, .val (.long y2), .second, .val (.long y3), .second, .val (.long y4), .second, .val (.long y5), .second, .val (.long y6), .second, .val (.long y7), .second, .val (.ref a), .val (.ref b), .val (.ref r), .unset, .unset, .unset, .unset, .unset, .unset, .unset, .unset, .unset, .unset, .unset, .unset, .unset, .unset, .unset, .unset] [(.long (t2 + t3))])) (fun _ k => XS.ladd X49.here hx rfl (hb hby at_115) rfl k) ?_
  obtain ⟨t4, q_t4⟩ : ∃ zz : Int64, zz = (t2 + t3) := ⟨_, rfl⟩
  rw [← q_t4]
  have e_t4 : t4.toInt = ((p11 + p22) + p33) := by rw [q_t4, own_ladd (by rw [e_t2, e_t3]; omega) (by rw [e_t2, e_t3]; omega), e_t2, e_t3]
  refine Goes.by (T' := T49) (g' := (mkF m 118 #[.val (.int x0), .val (.int x1), .val (.int x2), .val (.int x3), .val (.long y0), .second, .val (.long y1), .second, .val (.long y2), .second, .val (.long y3), .second, .val (.long y4), .second, .val (.long y5), .second, .val (.long y6), .second, .val (.long y7), .second, .val (.ref a), .val (.ref b), .val (.ref r), .val (.long t4), .second, .unset, .unset, .unset, .unset, .unset, .unset, .unset, .unset, .unset, .unset, .unset, .unset, .unset, .unset] [])) (fun _ k => XS.lstore X49.here hx rfl (hb hby at_116) rfl (l' := #[.val (.int x0), .val (.int x1), .val (.int x2), .val (.int x3), .val (.long y0), .second, .val (.long y1), .second, .val (.long y2), .second, .val (.long y3), .second, .val (.long y4), .second, .val (.long y5), .second, .val (.long y6), .second, .val (.long y7), .second, .val (.ref a), .val (.ref b), .val (.ref r), .val (.long t4), .second, .unset, .unset, .unset, .unset, .unset, .unset, .unset, .unset, .unset, .unset, .unset, .unset, .unset, .unset]) rfl k) ?_
  refine Goes.by (T' := T49) (g' := (mkF m 120 #[.val (.int x0), .val (.int x1), .val (.int x2), .val (.int x3), .val (.long y0), .second, .val (.long y1), .second, .val (.long y2), .second, .val (.long y3), .second, .val (.long y4), .second, .val (.long y5), .second, .val (.long y6), .second, .val (.long y7), .second, .val (.ref a), .val (.ref b), .val (.ref r), .val (.long t4), .second, .unset, .unset, .unset, .unset, .unset, .unset, .unset, .unset, .unset, .unset, .unset, .unset, .unset, .unset] [(.long y2)])) (fun _ k => XS.lload X49.here hx rfl (hb hby at_118) rfl k) ?_
  refine Goes.by (T' := T49) (g' := (mkF m 122 #[.val (.int x0), .val (.int x1), .val (.int x2), .val (.int x3), .val (.long y0), .second, .val (.long y1), .second, .val (.long y2), .second, .val (.long y3), .second, .val (.long y4), .second, .val (.long y5), .second, .val (.long y6), .second, .val (.long y7), .second, .val (.ref a), .val (.ref b), .val (.ref r), .val (.long t4), .second, .unset, .unset, .unset, .unset, .unset, .unset, .unset, .unset, .unset, .unset, .unset, .unset, .unset, .unset] [(.long y7), (.long y2)])) (fun _ k => XS.lload X49.here hx rfl (hb hby at_120) rfl k) ?_
  refine Goes.by (T' := T49) (g' := (mkF m 123 #[.val (.int x0), .val (.int x1), .val (.int x2), .val (.int x3), .val (.long y0), .second, .val (.long y1), .second, .val (.long y2), .second, .val (.long y3), .second, .val (.long y4), .second, .val (.long y5), .second, .val (.long y6), .second, .val (.long y7), .second, .val (.ref a), .val (.ref b), .val (.ref r), .val (.long t4), .second, .unset, .unset, .unset, .unset, .unset, .unset, .unset, .unset, .unset, .unset, .unset, .unset, .unset, .unset] [(.long (y2 * y7))])) (fun _ k => XS.lmul X49.here hx rfl (hb hby at_122) rfl k) ?_
  obtain ⟨t5, q_t5⟩ : ∃ zz : Int64, zz = (y2 * y7) := ⟨_, rfl⟩
  rw [← q_t5]
  have e_t5 : t5.toInt = p23 := by rw [q_t5, own_lmul (by rw [← hp23]; omega), hp23]
  refine Goes.by (T' := T49) (g' := (mkF m 125 #[.val (.int x0), .val (.int x1), .val (.int x2), .val (.int x3), .val (.long y0), .second, .val (.long y1), .second, .val (.long y2), .second, .val (.long y3), .second, .val (.long y4), .second, .val (.long y5), .second, .val (.long y6), .second, .val (.long y7), .second, .val (.ref a), .val (.ref b), .val (.ref r), .val (.long t4), .second, .unset, .unset, .unset, .unset, .unset, .unset, .unset, .unset, .unset, .unset, .unset, .unset, .unset, .unset] [(.long y3), (.long t5)])) (fun _ k => XS.lload X49.here hx rfl (hb hby at_123) rfl k) ?_
  refine Goes.by (T' := T49) (g' := (mkF m 127 #[.val (.int x0), .val (.int x1), .val (.int x2), .val (.int x3), .val (.long y0), .second, .val (.long y1), .second, .val (.long y2), .second, .val (.long y3), .second, .val (.long y4), .second, .val (.long y5), .second, .val (.long y6), .second, .val (.long y7), .second, .val (.ref a), .val (.ref b), .val (.ref r), .val (.long t4), .second, .unset, .unset, .unset, .unset, .unset, .unset, .unset, .unset, .unset, .unset, .unset, .unset, .unset, .unset] [(.long y6), (.long y3), (.long t5)])) (fun _ k => XS.lload X49.here hx rfl (hb hby at_125) rfl k) ?_
  refine Goes.by (T' := T49) (g' := (mkF m 128 #[.val (.int x0), .val (.int x1), .val (.int x2), .val (.int x3), .val (.long y0), .second, .val (.long y1), .second, .val (.long y2), .second, .val (.long y3), .second, .val (.long y4), .second, .val (.long y5), .second, .val (.long y6), .second, .val (.long y7), .second, .val (.ref a), .val (.ref b), .val (.ref r), .val (.long t4), .second, .unset, .unset, .unset, .unset, .unset, .unset, .unset, .unset, .unset, .unset, .unset, .unset, .unset, .unset] [(.long (y3 * y6)), (.long t5)])) (fun _ k => XS.lmul X49.here hx rfl (hb hby at_127) rfl k) ?_
  obtain ⟨t6, q_t6⟩ : ∃ zz : Int64, zz = (y3 * y6) := ⟨_, rfl⟩
  rw [← q_t6]
  have e_t6 : t6.toInt = p32 := by rw [q_t6, own_lmul (by rw [← hp32]; omega), hp32]
  refine Goes.by (T' := T49) (g' := (mkF m 129 #[.val (.int x0), .val (.int x1), .val (.int x2), .val (.int x3), .val (.long y0), .second, .val (.long y1), .second, .val (.long y2), .second, .val (.long y3), .second, .val (.long y4), .second, .val (.long y5), .second, .val (.long y6), .second, .val (.long y7), .second, .val (.ref a), .val (.ref b), .val (.ref r), .val (.long t4), .second, .unset, .unset, .unset, .unset, .unset, .unset, .unset, .unset, .unset, .unset, .unset, .unset, .unset, .unset] [(.long (t5 - t6))])) (fun _ k => XS.lsub X49.here hx rfl (hb hby at_128) rfl k) ?_
  obtain ⟨t7, q_t7⟩ : ∃ zz : Int64, zz = (t5 - t6) := ⟨_, rfl⟩
  rw [← q_t7]
  have e_t7 : t7.toInt = (p23 - p32) := by rw [q_t7, own_lsub (by rw [e_t5, e_t6]; omega) (by rw [e_t5, e_t6]; omega), e_t5, e_t6]
  refine Goes.by (T' := T49) (g' := (mkF m 131 #[.val (.int x0), .val (.int x1), .val (.int x2), .val (.int x3), .val (.long y0), .second, .val (.long y1), .second, .val (.long y2), .second, .val (.long y3), .second, .val (.long y4), .second, .val (.long y5), .second, .val (.long y6), .second, .val (.long y7), .second, .val (.ref a), .val (.ref b), .val (.ref r), .val (.long t4), .second, .val (.long t7), .second, .unset, .unset, .unset, .unset, .unset, .unset, .unset, .unset, .unset, .unset, .unset, .unset] [])) (fun _ k => XS.lstore X49.here hx rfl (hb hby at_129) rfl (l' := #[.val (.int x0), .val (.int x1), .val (.int x2), .val (.int x3), .val (.long y0), .second, .val (.long y1), .second, .val (.long y2), .second, .val (.long y3), .second, .val (.long y4), .second, .val (.long y5), .second, .val (.long y6), .second, .val (.long y7), .second, .val (.ref a), .val (.ref b), .val (.ref r), .val (.long t4), .second, .val (.long t7), .second, .unset, .unset, .unset, .unset, .unset, .unset, .unset, .unset, .unset, .unset, .unset, .unset]) rfl k) ?_
  refine Goes.by (T' := T49) (g' := (mkF m 133 #[.val (.int x0), .val (.int x1), .val (.int x2), .val (.int x3), .val (.long y0), .second, .val (.long y1), .second, .val (.long y2), .second, .val (.long y3), .second, .val (.long y4), .second, .val (.long y5), .second, .val (.long y6), .second, .val (.long y7), .second, .val (.ref a), .val (.ref b), .val (.ref r), .val (.long t4), .second, .val (.long t7), .second, .unset, .unset, .unset, .unset, .unset, .unset, .unset, .unset, .unset, .unset, .unset, .unset] [(.long y3)])) (fun _ k => XS.lload X49.here hx rfl (hb hby at_131) rfl k) ?_
  refine Goes.by (T' := T49) (g' := (mkF m 135 #[.val (.int x0), .val (.int x1), .val (.int x2), .val (.int x3), .val (.long y0), .second, .val (.long y1), .second, .val (.long y2), .second, .val (.long y3), .second, .val (.long y4), .second, .val (.long y5), .second, .val (.long y6), .second, .val (.long y7), .second, .val (.ref a), .val (.ref b), .val (.ref r), .val (.long t4), .second, .val (.long t7), .second, .unset, .unset, .unset, .unset, .unset, .unset, .unset, .unset, .unset, .unset, .unset, .unset] [(.long y5), (.long y3)])) (fun _ k => XS.lload X49.here hx rfl (hb hby at_133) rfl k) ?_
  refine Goes.by (T' := T49) (g' := (mkF m 136 #[.val (.int x0), .val (.int x1), .val (.int x2), .val (.int x3), .val (.long y0), .second, .val (.long y1), .second, .val (.long y2), .second, .val (.long y3), .second, .val (.long y4), .second, .val (.long y5), .second, .val (.long y6), .second, .val (.long y7), .second, .val (.ref a), .val (.ref b), .val (.ref r), .val (.long t4), .second, .val (.long t7), .second, .unset, .unset, .unset, .unset, .unset, .unset, .unset, .unset, .unset, .unset, .unset, .unset] [(.long (y3 * y5))])) (fun _ k => XS.lmul X49.here hx rfl (hb hby at_135) rfl k) ?_
  obtain ⟨t8, q_t8⟩ : ∃ zz : Int64, zz = (y3 * y5) := ⟨_, rfl⟩
  rw [← q_t8]
  have e_t8 : t8.toInt = p31 := by rw [q_t8, own_lmul (by rw [← hp31]; omega), hp31]
  refine Goes.by (T' := T49) (g' := (mkF m 138 #[.val (.int x0), .val (.int x1), .val (.int x2), .val (.int x3), .val (.long y0), .second, .val (.long y1), .second, .val (.long y2), .second, .val (.long y3), .second, .val (.long y4), .second, .val (.long y5), .second, .val (.long y6), .second, .val (.long y7), .second, .val (.ref a), .val (.ref b), .val (.ref r), .val (.long t4), .second, .val (.long t7), .second, .unset, .unset, .unset, .unset, .unset, .unset, .unset, .unset, .unset, .unset, .unset, .unset] [(.long y1), (.long t8)])) (fun _ k => XS.lload X49.here hx rfl (hb hby at_136) rfl k) ?_
  refine Goes.by (T' := T49) (g' := (mkF m 140 #[.val (.int x0), .val (.int x1), .val (.int x2), .val (.int x3), .val (.long y0), .second, .val (.long y1), .second, .val (.long y2), .second, .val (.long y3), .second, .val (.long y4), .second, .val (.long y5), .second, .val (.long y6), .second, .val (.long y7), .second, .val (.ref a), .val (.ref b), .val (.ref r), .val (.long t4), .second, .val (.long t7), .second, .unset, .unset, .unset, .unset, .unset, .unset, .unset, .unset, .unset, .unset, .unset, .unset] [(.long y7), (.long y1), (.long t8)])) (fun _ k => XS.lload X49.here hx rfl (hb hby at_138) rfl k) ?_
  refine Goes.by (T' := T49) (g' := (mkF m 141 #[.val (.int x0), .val (.int x1), .val (.int x2), .val (.int x3), .val (.long y0), .second, .val (.long y1), .second, .val (.long y2), .second, .val (.long y3), .second, .val (.long y4), .second, .val (.long y5), .second, .val (.long y6), .second, .val (.long y7), .second, .val (.ref a), .val (.ref b), .val (.ref r), .val (.long t4), .second, .val (.long t7), .second, .unset, .unset, .unset, .unset, .unset, .unset, .unset, .unset, .unset, .unset, .unset, .unset] [(.long (y1 * y7)), (.long t8)])) (fun _ k => XS.lmul X49.here hx rfl (hb hby at_140) rfl k) ?_
  obtain ⟨t9, q_t9⟩ : ∃ zz : Int64, zz = (y1 * y7) := ⟨_, rfl⟩
  rw [← q_t9]
  have e_t9 : t9.toInt = p13 := by rw [q_t9, own_lmul (by rw [← hp13]; omega), hp13]
  refine Goes.by (T' := T49) (g' := (mkF m 142 #[.val (.int x0), .val (.int x1), .val (.int x2), .val (.int x3), .val (.long y0), .second, .val (.long y1), .second, .val (.long y2), .second, .val (.long y3), .second, .val (.long y4), .second, .val (.long y5), .second, .val (.long y6), .second, .val (.long y7), .second, .val (.ref a), .val (.ref b), .val (.ref r), .val (.long t4), .second, .val (.long t7), .second, .unset, .unset, .unset, .unset, .unset, .unset, .unset, .unset, .unset, .unset, .unset, .unset] [(.long (t8 - t9))])) (fun _ k => XS.lsub X49.here hx rfl (hb hby at_141) rfl k) ?_
  obtain ⟨t10, q_t10⟩ : ∃ zz : Int64, zz = (t8 - t9) := ⟨_, rfl⟩
  rw [← q_t10]
  have e_t10 : t10.toInt = (p31 - p13) := by rw [q_t10, own_lsub (by rw [e_t8, e_t9]; omega) (by rw [e_t8, e_t9]; omega), e_t8, e_t9]
  refine Goes.by (T' := T49) (g' := (mkF m 144 #[.val (.int x0), .val (.int x1), .val (.int x2), .val (.int x3), .val (.long y0), .second, .val (.long y1), .second, .val (.long y2), .second, .val (.long y3), .second, .val (.long y4), .second, .val (.long y5), .second, .val (.long y6), .second, .val (.long y7), .second, .val (.ref a), .val (.ref b), .val (.ref r), .val (.long t4), .second, .val (.long t7), .second, .val (.long t10), .second, .unset, .unset, .unset, .unset, .unset, .unset, .unset, .unset, .unset, .unset] [])) (fun _ k => XS.lstore X49.here hx rfl (hb hby at_142) rfl (l' := #[.val (.int x0), .val (.int x1), .val (.int x2), .val (.int x3), .val (.long y0), .second, .val (.long y1), .second, .val (.long y2), .second, .val (.long y3), .second, .val (.long y4), .second, .val (.long y5), .second, .val (.long y6), .second, .val (.long y7), .second, .val (.ref a), .val (.ref b), .val (.ref r), .val (.long t4), .second, .val (.long t7), .second, .val (.long t10), .second, .unset, .unset, .unset, .unset, .unset, .unset, .unset, .unset, .unset, .unset]) rfl k) ?_
  refine Goes.by (T' := T49) (g' := (mkF m 146 #[.val (.int x0), .val (.int x1), .val (.int x2), .val (.int x3), .val (.long y0), .second, .val (.long y1), .second, .val (.long y2), .second, .val (.long y3), .second, .val (.long y4), .second, .val (.long y5), .second, .val (.long y6), .second, .val (.long y7), .second, .val (.ref a), .val (.ref b), .val (.ref r), .val (.long t4), .second, .val (.long t7), .second, .val (.long t10), .second, .unset, .unset, .unset, .unset, .unset, .unset, .unset, .unset, .unset, .unset] [(.long y1)])) (fun _ k => XS.lload X49.here hx rfl (hb hby at_144) rfl k) ?_
  refine Goes.by (T' := T49) (g' := (mkF m 148 #[.val (.int x0), .val (.int x1), .val (.int x2), .val (.int x3), .val (.long y0), .second, .val (.long y1), .second, .val (.long y2), .second, .val (.long y3), .second, .val (.long y4), .second, .val (.long y5), .second, .val (.long y6), .second, .val (.long y7), .second, .val (.ref a), .val (.ref b), .val (.ref r), .val (.long t4), .second, .val (.long t7), .second, .val (.long t10), .second, .unset, .unset, .unset, .unset, .unset, .unset, .unset, .unset, .unset, .unset] [(.long y6), (.long y1)])) (fun _ k => XS.lload X49.here hx rfl (hb hby at_146) rfl k) ?_
  refine Goes.by (T' := T49) (g' := (mkF m 149 #[.val (.int x0), .val (.int x1), .val (.int x2), .val (.int x3), .val (.long y0), .second, .val (.long y1), .second, .val (.long y2), .second, .val (.long y3), .second, .val (.long y4), .second, .val (.long y5), .second, .val (.long y6), .second, .val (.long y7), .second, .val (.ref a), .val (.ref b), .val (.ref r), .val (.long t4), .second, .val (.long t7), .second, .val (.long t10), .second, .unset, .unset, .unset, .unset, .unset, .unset, .unset, .unset, .unset, .unset] [(.long (y1 * y6))])) (fun _ k => XS.lmul X49.here hx rfl (hb hby at_148) rfl k) ?_
  obtain ⟨t11, q_t11⟩ : ∃ zz : Int64, zz = (y1 * y6) := ⟨_, rfl⟩
  rw [← q_t11]
  have e_t11 : t11.toInt = p12 := by rw [q_t11, own_lmul (by rw [← hp12]; omega), hp12]
  refine Goes.by (T' := T49) (g' := (mkF m 151 #[.val (.int x0), .val (.int x1), .val (.int x2), .val (.int x3), .val (.long y0), .second, .val (.long y1), .second, .val (.long y2), .second, .val (.long y3), .second, .val (.long y4), .second, .val (.long y5), .second, .val (.long y6), .second, .val (.long y7), .second, .val (.ref a), .val (.ref b), .val (.ref r), .val (.long t4), .second, .val (.long t7), .second, .val (.long t10), .second, .unset, .unset, .unset, .unset, .unset, .unset, .unset, .unset, .unset, .unset] [(.long y2), (.long t11)])) (fun _ k => XS.lload X49.here hx rfl (hb hby at_149) rfl k) ?_
  refine Goes.by (T' := T49) (g' := (mkF m 153 #[.val (.int x0), .val (.int x1), .val (.int x2), .val (.int x3), .val (.long y0), .second, .val (.long y1), .second, .val (.long y2), .second, .val (.long y3), .second, .val (.long y4), .second, .val (.long y5), .second, .val (.long y6), .second, .val (.long y7), .second, .val (.ref a), .val (.ref b), .val (.ref r), .val (.long t4), .second, .val (.long t7), .second, .val (.long t10), .second, .unset, .unset, .unset, .unset, .unset, .unset, .unset, .unset, .unset, .unset] [(.long y5), (.long y2), (.long t11)])) (fun _ k => XS.lload X49.here hx rfl (hb hby at_151) rfl k) ?_
  refine Goes.by (T' := T49) (g' := (mkF m 154 #[.val (.int x0), .val (.int x1), .val (.int x2), .val (.int x3), .val (.long y0), .second, .val (.long y1), .second, .val (.long y2), .second, .val (.long y3), .second, .val (.long y4), .second, .val (.long y5), .second, .val (.long y6), .second, .val (.long y7), .second, .val (.ref a), .val (.ref b), .val (.ref r), .val (.long t4), .second, .val (.long t7), .second, .val (.long t10), .second, .unset, .unset, .unset, .unset, .unset, .unset, .unset, .unset, .unset, .unset] [(.long (y2 * y5)), (.long t11)])) (fun _ k => XS.lmul X49.here hx rfl (hb hby at_153) rfl k) ?_
  obtain ⟨t12, q_t12⟩ : ∃ zz : Int64, zz = (y2 * y5) := ⟨_, rfl⟩
  rw [← q_t12]
  have e_t12 : t12.toInt = p21 := by rw [q_t12, own_lmul (by rw [← hp21]; omega), hp21]
  refine Goes.by (T' := T49) (g' := (mkF m 155 #[.val (.int x0), .val (.int x1), .val (.int x2), .val (.int x3), .val (.long y0), .second, .val (.long y1), .second, .val (.long y2), .second, .val (.long y3), .second, .val (.long y4), .second, .val (.long y5), .second, .val (.long y6), .second, .val (.long y7), .second, .val (.ref a), .val (.ref b), .val (.ref r), .val (.long t4), .second, .val (.long t7), .second, .val (.long t10), .second, .unset, .unset, .unset, .unset, .unset, .unset, .unset, .unset, .unset, .unset] [(.long (t11 - t12))])) (fun _ k => XS.lsub X49.here hx rfl (hb hby at_154) rfl k) ?_
  obtain ⟨t13, q_t13⟩ : ∃ zz : Int64, zz = (t11 - t12) := ⟨_, rfl⟩
  rw [← q_t13]
  have e_t13 : t13.toInt = (p12 - p21) := by rw [q_t13, own_lsub (by rw [e_t11, e_t12]; omega) (by rw [e_t11, e_t12]; omega), e_t11, e_t12]
  refine Goes.by (T' := T49) (g' := (mkF m 157 #[.val (.int x0), .val (.int x1), .val (.int x2), .val (.int x3), .val (.long y0), .second, .val (.long y1), .second, .val (.long y2), .second, .val (.long y3), .second, .val (.long y4), .second, .val (.long y5), .second, .val (.long y6), .second, .val (.long y7), .second, .val (.ref a), .val (.ref b), .val (.ref r), .val (.long t4), .second, .val (.long t7), .second, .val (.long t10), .second, .val (.long t13), .second, .unset, .unset, .unset, .unset, .unset, .unset, .unset, .unset] [])) (fun _ k => XS.lstore X49.here hx rfl (hb hby at_155) rfl (l' := #[.val (.int x0), .val (.int x1), .val (.int x2), .val (.int x3), .val (.long y0), .second, .val (.long y1), .second, .val (.long y2), .second, .val (.long y3), .second, .val (.long y4), .second, .val (.long y5), .second, .val (.long y6), .second, .val (.long y7), .second, .val (.ref a), .val (.ref b), .val (.ref r), .val (.long t4), .second, .val (.long t7), .second, .val (.long t10), .second, .val (.long t13), .second, .unset, .unset, .unset, .unset, .unset, .unset, .unset, .unset]) rfl k) ?_
  refine Goes.by (T' := T49) (g' := (mkF m 159 #[.val (.int x0), .val (.int x1), .val (.int x2), .val (.int x3), .val (.long y0), .second, .val (.long y1), .second, .val (.long y2), .second, .val (.long y3), .second, .val (.long y4), .second, .val (.long y5), .second, .val (.long y6), .second, .val (.long y7), .second, .val (.ref a), .val (.ref b), .val (.ref r), .val (.long t4), .second, .val (.long t7), .second, .val (.long t10), .second, .val (.long t13), .second, .unset, .unset, .unset, .unset, .unset, .unset, .unset, .unset] [(.long y0)])) (fun _ k => XS.lload X49.here hx rfl (hb hby at_157) rfl k) ?_
  refine Goes.by (T' := T49) (g' := (mkF m 161 #[.val (.int x0), .val (.int x1), .val (.int x2), .val (.int x3), .val (.long y0), .second, .val (.long y1), .second, .val (.long y2), .second, .val (.long y3), .second, .val (.long y4), .second, .val (.long y5), .second, .val (.long y6), .second, .val (.long y7), .second, .val (.ref a), .val (.ref b), .val (.ref r), .val (.long t4), .second, .val (.long t7), .second, .val (.long t10), .second, .val (.long t13), .second, .unset, .unset, .unset, .unset, .unset, .unset, .unset, .unset] [(.long y4), (.long y0)])) (fun _ k => XS.lload X49.here hx rfl (hb hby at_159) rfl k) ?_
  refine Goes.by (T' := T49) (g' := (mkF m 162 #[.val (.int x0), .val (.int x1), .val (.int x2), .val (.int x3), .val (.long y0), .second, .val (.long y1), .second, .val (.long y2), .second, .val (.long y3), .second, .val (.long y4), .second, .val (.long y5), .second, .val (.long y6), .second, .val (.long y7), .second, .val (.ref a), .val (.ref b), .val (.ref r), .val (.long t4), .second, .val (.long t7), .second, .val (.long t10), .second, .val (.long t13), .second, .unset, .unset, .unset, .unset, .unset, .unset, .unset, .unset] [(.long (y0 * y4))])) (fun _ k => XS.lmul X49.here hx rfl (hb hby at_161) rfl k) ?_
  obtain ⟨t14, q_t14⟩ : ∃ zz : Int64, zz = (y0 * y4) := ⟨_, rfl⟩
  rw [← q_t14]
  have e_t14 : t14.toInt = p00 := by rw [q_t14, own_lmul (by rw [← hp00]; omega), hp00]
  refine Goes.by (T' := T49) (g' := (mkF m 164 #[.val (.int x0), .val (.int x1), .val (.int x2), .val (.int x3), .val (.long y0), .second, .val (.long y1), .second, .val (.long y2), .second, .val (.long y3), .second, .val (.long y4), .second, .val (.long y5), .second, .val (.long y6), .second, .val (.long y7), .second, .val (.ref a), .val (.ref b), .val (.ref r), .val (.long t4), .second, .val (.long t7), .second, .val (.long t10), .second, .val (.long t13), .second, .unset, .unset, .unset, .unset, .unset, .unset, .unset, .unset] [(.long t4), (.long t14)])) (fun _ k => XS.lload X49.here hx rfl (hb hby at_162) rfl k) ?_
  refine Goes.by (T' := T49) (g' := (mkF m 165 #[.val (.int x0), .val (.int x1), .val (.int x2), .val (.int x3), .val (.long y0), .second, .val (.long y1), .second, .val (.long y2), .second, .val (.long y3), .second, .val (.long y4), .second, .val (.long y5), .second, .val (.long y6), .second, .val (.long y7), .second, .val (.ref a), .val (.ref b), .val (.ref r), .val (.long t4), .second, .val (.long t7), .second, .val (.long t10), .second, .val (.long t13), .second, .unset, .unset, .unset, .unset, .unset, .unset, .unset, .unset] [(.long (t14 - t4))])) (fun _ k => XS.lsub X49.here hx rfl (hb hby at_164) rfl k) ?_
  obtain ⟨t15, q_t15⟩ : ∃ zz : Int64, zz = (t14 - t4) := ⟨_, rfl⟩
  rw [← q_t15]
  have e_t15 : t15.toInt = (p00 - ((p11 + p22) + p33)) := by rw [q_t15, own_lsub (by rw [e_t14, e_t4]; omega) (by rw [e_t14, e_t4]; omega), e_t14, e_t4]
  refine Goes.by (T' := T49) (g' := (mkF m 167 #[.val (.int x0), .val (.int x1), .val (.int x2), .val (.int x3), .val (.long y0), .second, .val (.long y1), .second, .val (.long y2), .second, .val (.long y3), .second, .val (.long y4), .second, .val (.long y5), .second, .val (.long y6), .second, .val (.long y7), .second, .val (.ref a), .val (.ref b), .val (.ref r), .val (.long t4), .second, .val (.long t7), .second, .val (.long t10), .second, .val (.long t13), .second, .val (.long t15), .second, .unset, .unset, .unset, .unset, .unset, .unset] [])) (fun _ k => XS.lstore X49.here hx rfl (hb hby at_165) rfl (l' := #[.val (.int x0), .val (.int x1), .val (.int x2), .val (.int x3), .val (.long y0), .second, .val (.long y1), .second, .val (.long y2), .second, .val (.long y3), .second, .val (.long y4), .second, .val (.long y5), .second, .val (.long y6), .second, .val (.long y7), .second, .val (.ref a), .val (.ref b), .val (.ref r), .val (.long t4), .second, .val (.long t7), .second, .val (.long t10), .second, .val (.long t13), .second, .val (.long t15), .second, .unset, .unset, .unset, .unset, .unset, .unset]) rfl k) ?_
  refine Goes.by (T' := T49) (g' := (mkF m 169 #[.val (.int x0), .val (.int x1), .val (.int x2), .val (.int x3), .val (.long y0), .second, .val (.long y1), .second, .val (.long y2), .second, .val (.long y3), .second, .val (.long y4), .second, .val (.long y5), .second, .val (.long y6), .second, .val (.long y7), .second, .val (.ref a), .val (.ref b), .val (.ref r), .val (.long t4), .second, .val (.long t7), .second, .val (.long t10), .second, .val (.long t13), .second, .val (.long t15), .second, .unset, .unset, .unset, .unset, .unset, .unset] [(.long y0)])) (fun _ k => XS.lload X49.here hx rfl (hb hby at_167) rfl k) ?_
  refine Goes.by (T' := T49) (g' := (mkF m 171 #[.val (.int x0), .val (.int x1), .val (.int x2), .val (.int x3), .val (.long y0), .second, .val (.long y1), .second, .val (.long y2), .second, .val (.long y3), .second, .val (.long y4), .second, .val (.long y5), .second, .val (.long y6), .second, .val (.long y7), .second, .val (.ref a), .val (.ref b), .val (.ref r), .val (.long t4), .second, .val (.long t7), .second, .val (.long t10), .second, .val (.long t13), .second, .val (.long t15), .second, .unset, .unset, .unset, .unset, .unset, .unset] [(.long y5), (.long y0)])) (fun _ k => XS.lload X49.here hx rfl (hb hby at_169) rfl k) ?_
  refine Goes.by (T' := T49) (g' := (mkF m 172 #[.val (.int x0), .val (.int x1), .val (.int x2), .val (.int x3), .val (.long y0), .second, .val (.long y1), .second, .val (.long y2), .second, .val (.long y3), .second, .val (.long y4), .second, .val (.long y5), .second, .val (.long y6), .second, .val (.long y7), .second, .val (.ref a), .val (.ref b), .val (.ref r), .val (.long t4), .second, .val (.long t7), .second, .val (.long t10), .second, .val (.long t13), .second, .val (.long t15), .second, .unset, .unset, .unset, .unset, .unset, .unset] [(.long (y0 * y5))])) (fun _ k => XS.lmul X49.here hx rfl (hb hby at_171) rfl k) ?_
  obtain ⟨t16, q_t16⟩ : ∃ zz : Int64, zz = (y0 * y5) := ⟨_, rfl⟩
  rw [← q_t16]
  have e_t16 : t16.toInt = p01 := by rw [q_t16, own_lmul (by rw [← hp01]; omega), hp01]
  refine Goes.by (T' := T49) (g' := (mkF m 174 #[.val (.int x0), .val (.int x1), .val (.int x2), .val (.int x3), .val (.long y0), .second, .val (.long y1), .second, .val (.long y2), .second, .val (.long y3), .second, .val (.long y4), .second, .val (.long y5), .second, .val (.long y6), .second, .val (.long y7), .second, .val (.ref a), .val (.ref b), .val (.ref r), .val (.long t4), .second, .val (.long t7), .second, .val (.long t10), .second, .val (.long t13), .second, .val (.long t15), .second, .unset, .unset, .unset, .unset, .unset, .unset] [(.long y4), (.long t16)])) (fun _ k => XS.lload X49.here hx rfl (hb hby at_172) rfl k) ?_
  refine Goes.by (T' := T49) (g' := (mkF m 176 #[.val (.int x0), .val (.int x1), .val (.int x2), .val (.int x3), .val (.long y0), .second, .val (.long y1), .second, .val (.long y2), .second, .val (.long y3), .second, .val (.long y4), .second, .val (.long y5), .second, .val (.long y6), .second, .val (.long y7), .second, .val (.ref a), .val (.ref b), .val (.ref r), .val (.long t4), .second, .val (.long t7), .second, .val (.long t10), .second, .val (.long t13), .second, .val (.long t15), .second, .unset, .unset, .unset, .unset, .unset, .unset] [(.long y1), (.long y4), (.long t16)])) (fun _ k => XS.lload X49.here hx rfl (hb hby at_174) rfl k) ?_
  refine Goes.by (T' := T49) (g' := (mkF m 177 #[.val (.int x0), .val (.int x1), .val (.int x2), .val (.int x3), .val (.long y0), .second, .val (.long y1), .second, .val (.long y2), .second, .val (.long y3), .second, .val (.long y4), .second, .val (.long y5), .second, .val (.long y6), .second, .val (.long y7), .second, .val (.ref a), .val (.ref b), .val (.ref r), .val (.long t4), .second, .val (.long t7), .second, .val (.long t10), .second, .val (.long t13), .second, .val (.long t15), .second, .unset, .unset, .unset, .unset, .unset, .unset] [(.long (y4 * y1)), (.long t16)])) (fun _ k => XS.lmul X49.here hx rfl (hb hby at_176) rfl k) ?_
  obtain ⟨t17, q_t17⟩ : ∃ zz : Int64, zz = (y4 * y1) := ⟨_, rfl⟩
  rw [← q_t17]
  have e_t17 : t17.toInt = p10 := by rw [q_t17, own_lmul (by rw [Int.mul_comm, ← hp10]; omega), hp10, Int.mul_comm]
  refine Goes.by (T' := T49) (g' := (mkF m 178 #[.val (.int x0), .val (.int x1), .val (.int x2), .val (.int x3), .val (.long y0), .second, .val (.long y1), .second, .val (.long y2), .second, .val (.long y3), .second, .val (.long y4), .second, .val (.long y5), .second, .val (.long y6), .second, .val (.long y7), .second, .val (.ref a), .val (.ref b), .val (.ref r), .val (.long t4), .second, .val (.long t7), .second, .val (.long t10), .second, .val (.long t13), .second, .val (.long t15), .second, .unset, .unset, .unset, .unset, .unset, .unset] [(.long (t16 + t17))])) (fun _ k => XS.ladd X49.here hx rfl (hb hby at_177) rfl k) ?_
  obtain ⟨t18, q_t18⟩ : ∃ zz : Int64, zz = (t16 + t17) := ⟨_, rfl⟩
  rw [← q_t18]
  have e_t18 : t18.toInt = (p01 + p10) := by rw [q_t18, own_ladd (by rw [e_t16, e_t17]; omega) (by rw [e_t16, e_t17]; omega), e_t16, e_t17]
  refine Goes.by (T' := T49) (g' := (mkF m 180 #[.val (.int x0), .val (.int x1), .val (.int x2), .val (.int x3), .val (.long y0), .second, .val (.long y1), .second, .val (.long y2), .second, .val (.long y3), .second, .val (.long y4), .second, .val (.long y5), .second, .val (.long y6), .second, .val (.long y7), .second, .val (.ref a), .val (.ref b), .val (.ref r), .val (.long t4), .second, .val (.long t7), .second, .val (.long t10), .second, .val (.long t13), .second, .val (.long t15), .second, .unset, .unset, .unset, .unset, .unset, .unset] [(.long t7), (.long t18)])) (fun _ k => XS.lload X49.here hx rfl (hb hby at_178) rfl k) ?_
  refine Goes.by (T' := T49) (g' := (mkF m 181 #[.val (.int x0), .val (.int x1), .val (.int x2), .val (.int x3), .val (.long y0), .second, .val (.long y1), .second, .val (.long y2), .second, .val (.long y3), .second, .val (.long y4), .second, .val (.long y5), .second, .val (.long y6), .second, .val (.long y7), .second, .val (.ref a), .val (.ref b), .val (.ref r), .val (.long t4), .second, .val (.long t7), .second, .val (.long t10), .second, .val (.long t13), .second, .val (.long t15), .second, .unset, .unset, .unset, .unset, .unset, .unset] [(.long (t18 + t7))])) (fun _ k => XS.ladd X49.here hx rfl (hb hby at_180) rfl k) ?_
  obtain ⟨t19, q_t19⟩ : ∃ zz : Int64, zz = (t18 + t7) := ⟨_, rfl⟩
  rw [← q_t19]
  have e_t19 : t19.toInt = ((p01 + p10) + (p23 - p32)) := by rw [q_t19, own_ladd (by rw [e_t18, e_t7]; omega) (by rw [e_t18, e_t7]; omega), e_t18, e_t7]
  refine Goes.by (T' := T49) (g' := (mkF m 183 #[.val (.int x0), .val (.int x1), .val (.int x2), .val (.int x3), .val (.long y0), .second, .val (.long y1), .second, .val (.long y2), .second, .val (.long y3), .second, .val (.long y4), .second, .val (.long y5), .second, .val (.long y6), .second, .val (.long y7), .second, .val (.ref a), .val (.ref b), .val (.ref r), .val (.long t4), .second, .val (.long t7), .second, .val (.long t10), .second, .val (.long t13), .second, .val (.long t15), .second, .val (.long t19), .second, .unset, .unset, .unset, .unset] [])) (fun _ k => XS.lstore X49.here hx rfl (hb hby at_181) rfl (l' := #[.val (.int x0), .val (.int x1), .val (.int x2), .val (.int x3), .val (.long y0), .second, .val (.long y1), .second, .val (.long y2), .second, .val (.long y3), .second, .val (.long y4), .second, .val (.long y5), .second, .val (.long y6), .second, .val (.long y7), .second, .val (.ref a), .val (.ref b), .val (.ref r), .val (.long t4), .second, .val (.long t7), .second, .val (.long t10), .second, .val (.long t13), .second, .val (.long t15), .second, .val (.long t19), .second, .unset, .unset, .unset, .unset]) rfl k) ?_
  refine Goes.by (T' := T49) (g' := (mkF m 185 #[.val (.int x0), .val (.int x1), .val (.int x2), .val (.int x3), .val (.long y0), .second, .val (.long y1), .second, .val (.long y2), .second, .val (.long y3), .second, .val (.long y4), .second, .val (.long y5), .second, .val (.long y6), .second, .val (.long y7), .second, .val (.ref a), .val (.ref b), .val (.ref r), .val (.long t4), .second, .val (.long t7), .second, .val (.long t10), .second, .val (.long t13), .second, .val (.long t15), .second, .val (.long t19), .second, .unset, .unset, .unset, .unset] [(.long y0)])) (fun _ k => XS.lload X49.here hx rfl (hb hby at_183) rfl k) ?_
  refine Goes.by (T' := T49) (g' := (mkF m 187 #[.val (.int x0), .val (.int x1), .val (.int x2), .val (.int x3), .val (.long y0), .second, .val (.long y1), .second, .val (.long y2), .second, .val (.long y3), .second, .val (.long y4), .second, .val (.long y5), .second, .val (.long y6), .second, .val (.long y7), .second, .val (.ref a), .val (.ref b), .val (.ref r), .val (.long t4), .second, .val (.long t7), .second, .val (.long t10), .second, .val (.long t13), .second, .val (.long t15), .second, .val (.long t19), .second, .unset, .unset, .unset, .unset] [(.long y6), (.long y0)])) (fun _ k => XS.lload X49.here hx rfl (hb hby at_185) rfl k) ?_
  refine Goes.by (T' := T49) (g' := (mkF m 188 #[.val (.int x0), .val (.int x1), .val (.int x2), .val (.int x3), .val (.long y0), .second, .val (.long y1), .second, .val (.long y2), .second, .val (.long y3), .second, .val (.long y4), .second, .val (.long y5), .second, .val (.long y6), .second, .val (.long y7), .second, .val (.ref a), .val (.ref b), .val (.ref r), .val (.long t4), .second, .val (.long t7), .second, .val (.long t10), .second, .val (.long t13), .second, .val (.long t15), .second, .val (.long t19), .second, .unset, .unset, .unset, .unset] [(.long (y0 * y6))])) (fun _ k => XS.lmul X49.here hx rfl (hb hby at_187) rfl k) ?_
  obtain ⟨t20, q_t20⟩ : ∃ zz : Int64, zz = (y0 * y6) := ⟨_, rfl⟩
  rw [← q_t20]
  have e_t20 : t20.toInt = p02 := by rw [q_t20, own_lmul (by rw [← hp02]; omega), hp02]
  refine Goes.by (T' := T49) (g' := (mkF m 190 #[.val (.int x0), .val (.int x1), .val (.int x2), .val (.int x3), .val (.long y0), .second, .val (.long y1), .second, .val (.long y2), .second, .val (.long y3), .second, .val (.long y4), .second, .val (.long y5), .second, .val (.long y6), .second, .val (.long y7), .second, .val (.ref a), .val (.ref b), .val (.ref r), .val (.long t4), .second, .val (.long t7), .second, .val (.long t10), .second, .val (.long t13), .second, .val (.long t15), .second, .val (.long t19), .second, .unset, .unset, .unset, .unset] [(.long y4), (.long t20)])) (fun _ k => XS.lload X49.here hx rfl (hb hby at_188) rfl k) ?_
  refine Goes.by (T' := T49) (g' := (mkF m 192 #[.val (.int x0), .val (.int x1), .val (.int x2), .val (.int x3), .val (.long y0), .second, .val (.long y1), .second, .val (.long y2), .second, .val (.long y3), .second, .val (.long y4), .second, .val (.long y5), .second, .val (.long y6), .second, .val (.long y7), .second, .val (.ref a), .val (.ref b), .val (.ref r), .val (.long t4), .second, .val (.long t7), .second, .val (.long t10), .second, .val (.long t13), .second, .val (.long t15), .second, .val (.long t19), .second, .unset, .unset, .unset, .unset] [(.long y2), (.long y4), (.long t20)])) (fun _ k => XS.lload X49.here hx rfl (hb hby at_190) rfl k) ?_
  refine Goes.by (T' := T49) (g' := (mkF m 193 #[.val (.int x0), .val (.int x1), .val (.int x2), .val (.int x3), .val (.long y0), .second, .val (.long y1), .second, .val (.long y2), .second, .val (.long y3), .second, .val (.long y4), .second, .val (.long y5), .second, .val (.long y6), .second, .val (.long y7), .second, .val (.ref a), .val (.ref b), .val (.ref r), .val (.long t4), .second, .val (.long t7), .second, .val (.long t10), .second, .val (.long t13), .second, .val (.long t15), .second, .val (.long t19), .second, .unset, .unset, .unset, .unset] [(.long (y4 * y2)), (.long t20)])) (fun _ k => XS.lmul X49.here hx rfl (hb hby at_192) rfl k) ?_
  obtain ⟨t21, q_t21⟩ : ∃ zz : Int64, zz = (y4 * y2) := ⟨_, rfl⟩
  rw [← q_t21]
  have e_t21 : t21.toInt = p20 := by rw [q_t21, own_lmul (by rw [Int.mul_comm, ← hp20]; omega), hp20, Int.mul_comm]
  refine Goes.by (T' := T49) (g' := (mkF m 194 #[.val (.int x0), .val (.int x1), .val (.int x2), .val (.int x3), .val (.long y0), .second, .val (.long y1), .second, .val (.long y2), .second, .val (.long y3), .second, .val (.long y4), .second, .val (.long y5), .second, .val (.long y6), .second, .val (.long y7), .second, .val (.ref a), .val (.ref b), .val (.ref r), .val (.long t4), .second, .val (.long t7), .second, .val (.long t10), .second, .val (.long t13), .second, .val (.long t15), .second, .val (.long t19), .second, .unset, .unset, .unset, .unset] [(.long (t20 + t21))])) (fun _ k => XS.ladd X49.here hx rfl (hb hby at_193) rfl k) ?_
  obtain ⟨t22, q_t22⟩ : ∃ zz : Int64, zz = (t20 + t21) := ⟨_, rfl⟩
  rw [← q_t22]
  have e_t22 : t22.toInt = (p02 + p20) := by rw [q_t22, own_ladd (by rw [e_t20, e_t21]; omega) (by rw [e_t20, e_t21]; omega), e_t20, e_t21]
  refine Goes.by (T' := T49) (g' := (mkF m 196 #[.val (.int x0), .val (.int x1), .val (.int x2), .val (.int x3), .val (.long y0), .second, .val (.long y1), .second, .val (.long y2), .second, .val (.long y3), .second, .val (.long y4), .second, .val (.long y5), .second, .val (.long y6), .second, .val (.long y7), .second, .val (.ref a), .val (.ref b), .val (.ref r), .val (.long t4), .second, .val (.long t7), .second, .val (.long t10), .second, .val (.long t13), .second, .val (.long t15), .second, .val (.long t19), .second, .unset, .unset, .unset, .unset] [(.long t10), (.long t22)])) (fun _ k => XS.lload X49.here hx rfl (hb hby at_194) rfl k) ?_
  refine Goes.by (T' := T49) (g' := (mkF m 197 #[.val (.int x0), .val (.int x1), .val (.int x2), .val (.int x3), .val (.long y0), .second, .val (.long y1), .second, .val (.long y2), .second, .val (.long y3), .second, .val (.long y4), .second, .val (.long y5), .second, .val (.long y6), .second, .val (.long y7), .second, .val (.ref a), .val (.ref b), .val (.ref r), .val (.long t4), .second, .val (.long t7), .second, .val (.long t10), .second, .val (.long t13), .second, .val (.long t15), .second, .val (.long t19), .second, .unset, .unset, .unset, .unset] [(.long (t22 + t10))])) (fun _ k => XS.ladd X49.here hx rfl (hb hby at_196) rfl k) ?_
  obtain ⟨t23, q_t23⟩ : ∃ zz : Int64, zz = (t22 + t10) := ⟨_, rfl⟩
  rw [← q_t23]
  have e_t23 : t23.toInt = ((p02 + p20) + (p31 - p13)) := by rw [q_t23, own_ladd (by rw [e_t22, e_t10]; omega) (by rw [e_t22, e_t10]; omega), e_t22, e_t10]
  refine Goes.by (T' := T49) (g' := (mkF m 199 #[.val (.int x0), .val (.int x1), .val (.int x2), .val (.int x3), .val (.long y0), .second, .val (.long y1), .second, .val (.long y2), .second, .val (.long y3), .second, .val (.long y4), .second, .val (.long y5), .second, .val (.long y6), .second, .val (.long y7), .second, .val (.ref a), .val (.ref b), .val (.ref r), .val (.long t4), .second, .val (.long t7), .second, .val (.long t10), .second, .val (.long t13), .second, .val (.long t15), .second, .val (.long t19), .second, .val (.long t23), .second, .unset, .unset] [])) (fun _ k => XS.lstore X49.here hx rfl (hb hby at_197) rfl (l' := #[.val (.int x0), .val (.int x1), .val (.int x2), .val (.int x3), .val (.long y0), .second, .val (.long y1), .second, .val (.long y2), .second, .val (.long y3), .second, .val (.long y4), .second, .val (.long y5), .second, .val (.long y6), .second, .val (.long y7), .second, .val (.ref a), .val (.ref b), .val (.ref r), .val (.long t4), .second, .val (.long t7), .second, .val (.long t10), .second, .val (.long t13), .second, .val (.long t15), .second, .val (.long t19), .second, .val (.long t23), .second, .unset, .unset]) rfl k) ?_
  refine Goes.by (T' := T49) (g' := (mkF m 201 #[.val (.int x0), .val (.int x1), .val (.int x2), .val (.int x3), .val (.long y0), .second, .val (.long y1), .second, .val (.long y2), .second, .val (.long y3), .second, .val (.long y4), .second, .val (.long y5), .second, .val (.long y6), .second, .val (.long y7), .second, .val (.ref a), .val (.ref b), .val (.ref r), .val (.long t4), .second, .val (.long t7), .second, .val (.long t10), .second, .val (.long t13), .second, .val (.long t15), .second, .val (.long t19), .second, .val (.long t23), .second, .unset, .unset] [(.long y0)])) (fun _ k => XS.lload X49.here hx rfl (hb hby at_199) rfl k) ?_
  refine Goes.by (T' := T49) (g' := (mkF m 203 #[.val (.int x0), .val (.int x1), .val (.int x2), .val (.int x3), .val (.long y0), .second, .val (.long y1), .second, .val (.long y2), .second, .val (.long y3), .second, .val (.long y4), .second, .val (.long y5), .second, .val (.long y6), .second, .val (.long y7), .second, .val (.ref a), .val (.ref b), .val (.ref r), .val (.long t4), .second, .val (.long t7), .second, .val (.long t10), .second, .val (.long t13), .second, .val (.long t15), .second, .val (.long t19), .second, .val (.long t23), .second, .unset, .unset] [(.long y7), (.long y0)])) (fun _ k => XS.lload X49.here hx rfl (hb hby at_201) rfl k) ?_
  refine Goes.by (T' := T49) (g' := (mkF m 204 #[.val (.int x0), .val (.int x1), .val (.int x2), .val (.int x3), .val (.long y0), .second, .val (.long y1), .second, .val (.long y2), .second, .val (.long y3), .second, .val (.long y4), .second, .val (.long y5), .second, .val (.long y6), .second, .val (.long y7), .second, .val (.ref a), .val (.ref b), .val (.ref r), .val (.long t4), .second, .val (.long t7), .second, .val (.long t10), .second, .val (.long t13), .second, .val (.long t15), .second, .val (.long t19), .second, .val (.long t23), .second, .unset, .unset] [(.long (y0 * y7))])) (fun _ k => XS.lmul X49.here hx rfl (hb hby at_203) rfl k) ?_
  obtain ⟨t24, q_t24⟩ : ∃ zz : Int64, zz = (y0 * y7) := ⟨_, rfl⟩
  rw [← q_t24]
  have e_t24 : t24.toInt = p03 := by rw [q_t24, own_lmul (by rw [← hp03]; omega), hp03]
  refine Goes.by (T' := T49) (g' := (mkF m 206 #[.val (.int x0), .val (.int x1), .val (.int x2), .val (.int x3), .val (.long y0), .second, .val (.long y1), .second, .val (.long y2), .second, .val (.long y3), .second, .val (.long y4), .second, .val (.long y5), .second, .val (.long y6), .second, .val (.long y7), .second, .val (.ref a), .val (.ref b), .val (.ref r), .val (.long t4), .second, .val (.long t7), .second, .val (.long t10), .second, .val (.long t13), .second, .val (.long t15), .second, .val (.long t19), .second, .val (.long t23), .second, .unset, .unset] [(.long y4), (.long t24)])) (fun _ k => XS.lload X49.here hx rfl (hb hby at_204) rfl k) ?_
  refine Goes.by (T' := T49) (g' := (mkF m 208 #[.val (.int x0), .val (.int x1), .val (.int x2), .val (.int x3), .val (.long y0), .second, .val (.long y1), .second, .val (.long y2), .second, .val (.long y3), .second, .val (.long y4), .second, .val (.long y5), .second, .val (.long y6), .second, .val (.long y7), .second, .val (.ref a), .val (.ref b), .val (.ref r), .val (.long t4), .second, .val (.long t7), .second, .val (.long t10), .second, .val (.long t13), .second, .val (.long t15), .second, .val (.long t19), .second, .val (.long t23), .second, .unset, .unset] [(.long y3), (.long y4), (.long t24)])) (fun _ k => XS.lload X49.here hx rfl (hb hby at_206) rfl k) ?_
  refine Goes.by (T' := T49) (g' := (mkF m 209 #[.val (.int x0), .val (.int x1), .val (.int x2), .val (.int x3), .val (.long y0), .second, .val (.long y1), .second, .val (.long y2), .second, .val (.long y3), .second, .val (.long y4), .second, .val (.long y5), .second, .val (.long y6), .second, .val (.long y7), .second, .val (.ref a), .val (.ref b), .val (.ref r), .val (.long t4), .second, .val (.long t7), .second, .val (.long t10), .second, .val (.long t13), .second, .val (.long t15), .second, .val (.long t19), .second, .val (.long t23), .second, .unset, .unset] [(.long (y4 * y3)), (.long t24)])) (fun _ k => XS.lmul X49.here hx rfl (hb hby at_208) rfl k) ?_
  obtain ⟨t25, q_t25⟩ : ∃ zz : Int64, zz = (y4 * y3) := ⟨_, rfl⟩
  rw [← q_t25]
  have e_t25 : t25.toInt = p30 := by rw [q_t25, own_lmul (by rw [Int.mul_comm, ← hp30]; omega), hp30, Int.mul_comm]
  refine Goes.by (T' := T49) (g' := (mkF m 210 #[.val (.int x0), .val (.int x1), .val (.int x2), .val (.int x3), .val (.long y0), .second, .val (.long y1), .second, .val (.long y2), .second, .val (.long y3), .second, .val (.long y4), .second, .val (.long y5), .second, .val (.long y6), .second, .val (.long y7), .second, .val (.ref a), .val (.ref b), .val (.ref r), .val (.long t4), .second, .val (.long t7), .second, .val (.long t10), .second, .val (.long t13), .second, .val (.long t15), .second, .val (.long t19), .second, .val (.long t23), .second, .unset, .unset] [(.long (t24 + t25))])) (fun _ k => XS.ladd X49.here hx rfl (hb hby at_209) rfl k) ?_
  obtain ⟨t26, q_t26⟩ : ∃ zz : Int64, zz = (t24 + t25) := ⟨_, rfl⟩
  rw [← q_t26]
  have e_t26 : t26.toInt = (p03 + p30) := by rw [q_t26, own_ladd (by rw [e_t24, e_t25]; omega) (by rw [e_t24, e_t25]; omega), e_t24, e_t25]
  refine Goes.by (T' := T49) (g' := (mkF m 212 #[.val (.int x0), .val (.int x1), .val (.int x2), .val (.int x3), .val (.long y0), .second, .val (.long y1), .second, .val (.long y2), .second, .val (.long y3), .second, .val (.long y4), .second, .val (.long y5), .second, .val (.long y6), .second, .val (.long y7), .second, .val (.ref a), .val (.ref b), .val (.ref r), .val (.long t4), .second, .val (.long t7), .second, .val (.long t10), .second, .val (.long t13), .second, .val (.long t15), .second, .val (.long t19), .second, .val (.long t23), .second, .unset, .unset] [(.long t13), (.long t26)])) (fun _ k => XS.lload X49.here hx rfl (hb hby at_210) rfl k) ?_
  refine Goes.by (T' := T49) (g' := (mkF m 213 #[.val (.int x0), .val (.int x1), .val (.int x2), .val (.int x3), .val (.long y0), .second, .val (.long y1), .second, .val (.long y2), .second, .val (.long y3), .second, .val (.long y4), .second, .val (.long y5), .second, .val (.long y6), .second, .val (.long y7), .second, .val (.ref a), .val (.ref b), .val (.ref r), .val (.long t4), .second, .val (.long t7), .second, .val (.long t10), .second, .val (.long t13), .second, .val (.long t15), .second, .val (.long t19), .second, .val (.long t23), .second, .unset, .unset] [(.long (t26 + t13))])) (fun _ k => XS.ladd X49.here hx rfl (hb hby at_212) rfl k) ?_
  obtain ⟨t27, q_t27⟩ : ∃ zz : Int64, zz = (t26 + t13) := ⟨_, rfl⟩
  rw [← q_t27]
  have e_t27 : t27.toInt = ((p03 + p30) + (p12 - p21)) := by rw [q_t27, own_ladd (by rw [e_t26, e_t13]; omega) (by rw [e_t26, e_t13]; omega), e_t26, e_t13]
  refine Goes.by (T' := T49) (g' := (mkF m 215 #[.val (.int x0), .val (.int x1), .val (.int x2), .val (.int x3), .val (.long y0), .second, .val (.long y1), .second, .val (.long y2), .second, .val (.long y3), .second, .val (.long y4), .second, .val (.long y5), .second, .val (.long y6), .second, .val (.long y7), .second, .val (.ref a), .val (.ref b), .val (.ref r), .val (.long t4), .second, .val (.long t7), .second, .val (.long t10), .second, .val (.long t13), .second, .val (.long t15), .second, .val (.long t19), .second, .val (.long t23), .second, .val (.long t27), .second] [])) (fun _ k => XS.lstore X49.here hx rfl (hb hby at_213) rfl (l' := #[.val (.int x0), .val (.int x1), .val (.int x2), .val (.int x3), .val (.long y0), .second, .val (.long y1), .second, .val (.long y2), .second, .val (.long y3), .second, .val (.long y4), .second, .val (.long y5), .second, .val (.long y6), .second, .val (.long y7), .second, .val (.ref a), .val (.ref b), .val (.ref r), .val (.long t4), .second, .val (.long t7), .second, .val (.long t10), .second, .val (.long t13), .second, .val (.long t15), .second, .val (.long t19), .second, .val (.long t23), .second, .val (.long t27), .second]) rfl k) ?_
  refine Goes.by (T' := T49) (g' := (mkF m 217 #[.val (.int x0), .val (.int x1), .val (.int x2), .val (.int x3), .val (.long y0), .second, .val (.long y1), .second, .val (.long y2), .second, .val (.long y3), .second, .val (.long y4), .second, .val (.long y5), .second, .val (.long y6), .second, .val (.long y7), .second, .val (.ref a), .val (.ref b), .val (.ref r), .val (.long t4), .second, .val (.long t7), .second, .val (.long t10), .second, .val (.long t13), .second, .val (.long t15), .second, .val (.long t19), .second, .val (.long t23), .second, .val (.long t27), .second] [(.ref r)])) (fun _ k => XS.aload X49.here hx rfl (hb hby at_215) rfl rfl k) ?_
  obtain ⟨v50, T50, L50, X50, hQ50, st50⟩ := callV X49 hx hZ (y := (⟨"com/example/attitude_bridge/attitudebridge/Quaternion", "w", "()D"⟩ : MethodName)) hown (hw _ (List.mem_of_getElem? (i := 29) rfl)) (hw _ (List.mem_of_getElem? (i := 30) rfl)) (hw _ (List.mem_of_getElem? (i := 32) rfl)) (hw _ (List.mem_of_getElem? (i := 31) rfl)) (hw _ (List.mem_of_getElem? (i := 33) rfl)) (hw _ (List.mem_of_getElem? (i := 2) rfl)) (by decide) e49 E_r (argsL := []) (rest := []) (W := 0) (rm_w l Z a0 hw r r0 T49.heap n0 Z0 F_w_r) rfl (by decide) (by decide) (by decide) (by decide) (g := (mkF m 217 #[.val (.int x0), .val (.int x1), .val (.int x2), .val (.int x3), .val (.long y0), .second, .val (.long y1), .second, .val (.long y2), .second, .val (.long y3), .second, .val (.long y4), .second, .val (.long y5), .second, .val (.long y6), .second, .val (.long y7), .second, .val (.ref a), .val (.ref b), .val (.ref r), .val (.long t4), .second, .val (.long t7), .second, .val (.long t10), .second, .val (.long t13), .second, .val (.long t15), .second, .val (.long t19), .second, .val (.long t23), .second, .val (.long t27), .second] [(.ref r)])) rfl (by rw [hml]; rfl) (lenOf pd3 rfl) rfl (by show 2 * 0 + _ ≤ _; exact Nat.le_of_eq rfl) (hb hby at_217)
  obtain ⟨rfl, NL50, hk50⟩ := hQ50
  have N0 := Fr.app N0 NL50
  refine Goes.by (T' := T50) (g' := (mkF m 220 #[.val (.int x0), .val (.int x1), .val (.int x2), .val (.int x3), .val (.long y0), .second, .val (.long y1), .second, .val (.long y2), .second, .val (.long y3), .second, .val (.long y4), .second, .val (.long y5), .second, .val (.long y6), .second, .val (.long y7), .second, .val (.ref a), .val (.ref b), .val (.ref r), .val (.long t4), .second, .val (.long t7), .second, .val (.long t10), .second, .val (.long t13), .second, .val (.long t15), .second, .val (.long t19), .second, .val (.long t23), .second, .val (.long t27), .second] [(.double r0)])) st50 ?_
  refine Goes.by (T' := T50) (g' := (mkF m 222 #[.val (.int x0), .val (.int x1), .val (.int x2), .val (.int x3), .val (.long y0), .second, .val (.long y1), .second, .val (.long y2), .second, .val (.long y3), .second, .val (.long y4), .second, .val (.long y5), .second, .val (.long y6), .second, .val (.long y7), .second, .val (.ref a), .val (.ref b), .val (.ref r), .val (.long t4), .second, .val (.long t7), .second, .val (.long t10), .second, .val (.long t13), .second, .val (.long t15), .second, .val (.long t19), .second, .val (.long t23), .second, .val (.long t27), .second] [(.long t15), (.double r0)])) (fun _ k => XS.lload X50.here hx rfl (hb hby at_220) rfl k) ?_
  obtain ⟨q0, q_q0⟩ : ∃ zz, FP.l2d t15 = zz := ⟨_, rfl⟩
  refine Goes.by (T' := T50) (g' := (mkF m 223 #[.val (.int x0), .val (.int x1), .val (.int x2), .val (.int x3), .val (.long y0), .second, .val (.long y1), .second, .val (.long y2), .second, .val (.long y3), .second, .val (.long y4), .second, .val (.long y5), .second, .val (.long y6), .second, .val (.long y7), .second, .val (.ref a), .val (.ref b), .val (.ref r), .val (.long t4), .second, .val (.long t7), .second, .val (.long t10), .second, .val (.long t13), .second, .val (.long t15), .second, .val (.long t19), .second, .val (.long t23), .second, .val (.long t27), .second] [(.double q0), (.double r0)])) (fun _ k => XS.l2dS X50.here hx rfl (hb hby at_222) rfl q_q0 k) ?_
  have DQ0 : Core.DInt t15.toInt q0 := DInt_l2d q_q0 (by rw [e_t15]; omega)
  refine Goes.by (T' := T50) (g' := (mkF m 224 #[.val (.int x0), .val (.int x1), .val (.int x2), .val (.int x3), .val (.long y0), .second, .val (.long y1), .second, .val (.long y2), .second, .val (.long y3), .second, .val (.long y4), .second, .val (.long y5), .second, .val (.long y6), .second, .val (.long y7), .second, .val (.ref a), .val (.ref b), .val (.ref r), .val (.long t4), .second, .val (.long t7), .second, .val (.long t10), .second, .val (.long t13), .second, .val (.long t15), .second, .val (.long t19), .second, .val (.long t23), .second, .val (.long t27), .second] [(.int (0 : Int32))])) (fun _ k => XS.dcmpS X50.here hx rfl (hb hby at_223) rfl (cmpD_eq DR0 DQ0 (by rw [e_t15]; omega) _) k) ?_
  refine Goes.by (T' := T50) (g' := (mkF m 227 #[.val (.int x0), .val (.int x1), .val (.int x2), .val (.int x3), .val (.long y0), .second, .val (.long y1), .second, .val (.long y2), .second, .val (.long y3), .second, .val (.long y4), .second, .val (.long y5), .second, .val (.long y6), .second, .val (.long y7), .second, .val (.ref a), .val (.ref b), .val (.ref r), .val (.long t4), .second, .val (.long t7), .second, .val (.long t10), .second, .val (.long t13), .second, .val (.long t15), .second, .val (.long t19), .second, .val (.long t23), .second, .val (.long t27), .second] [])) (fun _ k => XS.ifNo X50.here hx rfl (hb hby at_224) rfl (by decide) k) ?_
  refine Goes.by (T' := T50) (g' := (mkF m 229 #[.val (.int x0), .val (.int x1), .val (.int x2), .val (.int x3), .val (.long y0), .second, .val (.long y1), .second, .val (.long y2), .second, .val (.long y3), .second, .val (.long y4), .second, .val (.long y5), .second, .val (.long y6), .second, .val (.long y7), .second, .val (.ref a), .val (.ref b), .val (.ref r), .val (.long t4), .second, .val (.long t7), .second, .val (.long t10), .second, .val (.long t13), .second, .val (.long t15), .second, .val (.long t19), .second, .val (.long t23), .second, .val (.long t27), .second] [(.ref r)])) (fun _ k => XS.aload X50.here hx rfl (hb hby at_227) rfl rfl k) ?_
  obtain ⟨v51, T51, L51, X51, hQ51, st51⟩ := callV X50 hx hZ (y := (⟨"com/example/attitude_bridge/attitudebridge/Quaternion", "x", "()D"⟩ : MethodName)) hown (hw _ (List.mem_of_getElem? (i := 34) rfl)) (hw _ (List.mem_of_getElem? (i := 35) rfl)) (hw _ (List.mem_of_getElem? (i := 37) rfl)) (hw _ (List.mem_of_getElem? (i := 36) rfl)) (hw _ (List.mem_of_getElem? (i := 38) rfl)) (hw _ (List.mem_of_getElem? (i := 2) rfl)) (by decide) hk50 E_r (argsL := []) (rest := []) (W := 0) (rm_x l Z a0 hw r r1 T49.heap n0 Z0 F_x_r) rfl (by decide) (by decide) (by decide) (by decide) (g := (mkF m 229 #[.val (.int x0), .val (.int x1), .val (.int x2), .val (.int x3), .val (.long y0), .second, .val (.long y1), .second, .val (.long y2), .second, .val (.long y3), .second, .val (.long y4), .second, .val (.long y5), .second, .val (.long y6), .second, .val (.long y7), .second, .val (.ref a), .val (.ref b), .val (.ref r), .val (.long t4), .second, .val (.long t7), .second, .val (.long t10), .second, .val (.long t13), .second, .val (.long t15), .second, .val (.long t19), .second, .val (.long t23), .second, .val (.long t27), .second] [(.ref r)])) rfl (by rw [hml]; rfl) (lenOf pd3 rfl) rfl (by show 2 * 0 + _ ≤ _; exact Nat.le_of_eq rfl) (hb hby at_229)
  obtain ⟨rfl, NL51, hk51⟩ := hQ51
  have N0 := Fr.app N0 NL51
  refine Goes.by (T' := T51) (g' := (mkF m 232 #[.val (.int x0), .val (.int x1), .val (.int x2), .val (.int x3), .val (.long y0), .second, .val (.long y1), .second, .val (.long y2), .second, .val (.long y3), .second, .val (.long y4), .second, .val (.long y5), .second, .val (.long y6), .second, .val (.long y7), .second, .val (.ref a), .val (.ref b), .val (.ref r), .val (.long t4), .second, .val (.long t7), .second, .val (.long t10), .second, .val (.long t13), .second, .val (.long t15), .second, .val (.long t19), .second, .val (.long t23), .second, .val (.long t27), .second] [(.double r1)])) st51 ?_
  refine Goes.by (T' := T51) (g' := (mkF m 234 #[.val (.int x0), .val (.int x1), .val (.int x2), .val (.int x3), .val (.long y0), .second, .val (.long y1), .second, .val (.long y2), .second, .val (.long y3), .second, .val (.long y4), .second, .val (.long y5), .second, .val (.long y6), .second, .val (.long y7), .second, .val (.ref a), .val (.ref b), .val (.ref r), .val (.long t4), .second, .val (.long t7), .second, .val (.long t10), .second, .val (.long t13), .second, .val (.long t15), .second, .val (.long t19), .second, .val (.long t23), .second, .val (.long t27), .second] [(.long t19), (.double r1)])) (fun _ k => XS.lload X51.here hx rfl (hb hby at_232) rfl k) ?_
  obtain ⟨q1, q_q1⟩ : ∃ zz, FP.l2d t19 = zz := ⟨_, rfl⟩
  refine Goes.by (T' := T51) (g' := (mkF m 235 #[.val (.int x0), .val (.int x1), .val (.int x2), .val (.int x3), .val (.long y0), .second, .val (.long y1), .second, .val (.long y2), .second, .val (.long y3), .second, .val (.long y4), .second, .val (.long y5), .second, .val (.long y6), .second, .val (.long y7), .second, .val (.ref a), .val (.ref b), .val (.ref r), .val (.long t4), .second, .val (.long t7), .second, .val (.long t10), .second, .val (.long t13), .second, .val (.long t15), .second, .val (.long t19), .second, .val (.long t23), .second, .val (.long t27), .second] [(.double q1), (.double r1)])) (fun _ k => XS.l2dS X51.here hx rfl (hb hby at_234) rfl q_q1 k) ?_
  have DQ1 : Core.DInt t19.toInt q1 := DInt_l2d q_q1 (by rw [e_t19]; omega)
  refine Goes.by (T' := T51) (g' := (mkF m 236 #[.val (.int x0), .val (.int x1), .val (.int x2), .val (.int x3), .val (.long y0), .second, .val (.long y1), .second, .val (.long y2), .second, .val (.long y3), .second, .val (.long y4), .second, .val (.long y5), .second, .val (.long y6), .second, .val (.long y7), .second, .val (.ref a), .val (.ref b), .val (.ref r), .val (.long t4), .second, .val (.long t7), .second, .val (.long t10), .second, .val (.long t13), .second, .val (.long t15), .second, .val (.long t19), .second, .val (.long t23), .second, .val (.long t27), .second] [(.int (0 : Int32))])) (fun _ k => XS.dcmpS X51.here hx rfl (hb hby at_235) rfl (cmpD_eq DR1 DQ1 (by rw [e_t19]; omega) _) k) ?_
  refine Goes.by (T' := T51) (g' := (mkF m 239 #[.val (.int x0), .val (.int x1), .val (.int x2), .val (.int x3), .val (.long y0), .second, .val (.long y1), .second, .val (.long y2), .second, .val (.long y3), .second, .val (.long y4), .second, .val (.long y5), .second, .val (.long y6), .second, .val (.long y7), .second, .val (.ref a), .val (.ref b), .val (.ref r), .val (.long t4), .second, .val (.long t7), .second, .val (.long t10), .second, .val (.long t13), .second, .val (.long t15), .second, .val (.long t19), .second, .val (.long t23), .second, .val (.long t27), .second] [])) (fun _ k => XS.ifNo X51.here hx rfl (hb hby at_236) rfl (by decide) k) ?_
  refine Goes.by (T' := T51) (g' := (mkF m 241 #[.val (.int x0), .val (.int x1), .val (.int x2), .val (.int x3), .val (.long y0), .second, .val (.long y1), .second, .val (.long y2), .second, .val (.long y3), .second, .val (.long y4), .second, .val (.long y5), .second, .val (.long y6), .second, .val (.long y7), .second, .val (.ref a), .val (.ref b), .val (.ref r), .val (.long t4), .second, .val (.long t7), .second, .val (.long t10), .second, .val (.long t13), .second, .val (.long t15), .second, .val (.long t19), .second, .val (.long t23), .second, .val (.long t27), .second] [(.ref r)])) (fun _ k => XS.aload X51.here hx rfl (hb hby at_239) rfl rfl k) ?_
  obtain ⟨v52, T52, L52, X52, hQ52, st52⟩ := callV X51 hx hZ (y := (⟨"com/example/attitude_bridge/attitudebridge/Quaternion", "y", "()D"⟩ : MethodName)) hown (hw _ (List.mem_of_getElem? (i := 39) rfl)) (hw _ (List.mem_of_getElem? (i := 40) rfl)) (hw _ (List.mem_of_getElem? (i := 42) rfl)) (hw _ (List.mem_of_getElem? (i := 41) rfl)) (hw _ (List.mem_of_getElem? (i := 43) rfl)) (hw _ (List.mem_of_getElem? (i := 2) rfl)) (by decide) hk51 E_r (argsL := []) (rest := []) (W := 0) (rm_y l Z a0 hw r r2 T49.heap n0 Z0 F_y_r) rfl (by decide) (by decide) (by decide) (by decide) (g := (mkF m 241 #[.val (.int x0), .val (.int x1), .val (.int x2), .val (.int x3), .val (.long y0), .second, .val (.long y1), .second, .val (.long y2), .second, .val (.long y3), .second, .val (.long y4), .second, .val (.long y5), .second, .val (.long y6), .second, .val (.long y7), .second, .val (.ref a), .val (.ref b), .val (.ref r), .val (.long t4), .second, .val (.long t7), .second, .val (.long t10), .second, .val (.long t13), .second, .val (.long t15), .second, .val (.long t19), .second, .val (.long t23), .second, .val (.long t27), .second] [(.ref r)])) rfl (by rw [hml]; rfl) (lenOf pd3 rfl) rfl (by show 2 * 0 + _ ≤ _; exact Nat.le_of_eq rfl) (hb hby at_241)
  obtain ⟨rfl, NL52, hk52⟩ := hQ52
  have N0 := Fr.app N0 NL52
  refine Goes.by (T' := T52) (g' := (mkF m 244 #[.val (.int x0), .val (.int x1), .val (.int x2), .val (.int x3), .val (.long y0), .second, .val (.long y1), .second, .val (.long y2), .second, .val (.long y3), .second, .val (.long y4), .second, .val (.long y5), .second, .val (.long y6), .second, .val (.long y7), .second, .val (.ref a), .val (.ref b), .val (.ref r), .val (.long t4), .second, .val (.long t7), .second, .val (.long t10), .second, .val (.long t13), .second, .val (.long t15), .second, .val (.long t19), .second, .val (.long t23), .second, .val (.long t27), .second] [(.double r2)])) st52 ?_
  refine Goes.by (T' := T52) (g' := (mkF m 246 #[.val (.int x0), .val (.int x1), .val (.int x2), .val (.int x3), .val (.long y0), .second, .val (.long y1), .second, .val (.long y2), .second, .val (.long y3), .second, .val (.long y4), .second, .val (.long y5), .second, .val (.long y6), .second, .val (.long y7), .second, .val (.ref a), .val (.ref b), .val (.ref r), .val (.long t4), .second, .val (.long t7), .second, .val (.long t10), .second, .val (.long t13), .second, .val (.long t15), .second, .val (.long t19), .second, .val (.long t23), .second, .val (.long t27), .second] [(.long t23), (.double r2)])) (fun _ k => XS.lload X52.here hx rfl (hb hby at_244) rfl k) ?_
  obtain ⟨q2, q_q2⟩ : ∃ zz, FP.l2d t23 = zz := ⟨_, rfl⟩
  refine Goes.by (T' := T52) (g' := (mkF m 247 #[.val (.int x0), .val (.int x1), .val (.int x2), .val (.int x3), .val (.long y0), .second, .val (.long y1), .second, .val (.long y2), .second, .val (.long y3), .second, .val (.long y4), .second, .val (.long y5), .second, .val (.long y6), .second, .val (.long y7), .second, .val (.ref a), .val (.ref b), .val (.ref r), .val (.long t4), .second, .val (.long t7), .second, .val (.long t10), .second, .val (.long t13), .second, .val (.long t15), .second, .val (.long t19), .second, .val (.long t23), .second, .val (.long t27), .second] [(.double q2), (.double r2)])) (fun _ k => XS.l2dS X52.here hx rfl (hb hby at_246) rfl q_q2 k) ?_
  have DQ2 : Core.DInt t23.toInt q2 := DInt_l2d q_q2 (by rw [e_t23]; omega)
  refine Goes.by (T' := T52) (g' := (mkF m 248 #[.val (.int x0), .val (.int x1), .val (.int x2), .val (.int x3), .val (.long y0), .second, .val (.long y1), .second, .val (.long y2), .second, .val (.long y3), .second, .val (.long y4), .second, .val (.long y5), .second, .val (.long y6), .second, .val (.long y7), .second, .val (.ref a), .val (.ref b), .val (.ref r), .val (.long t4), .second, .val (.long t7), .second, .val (.long t10), .second, .val (.long t13), .second, .val (.long t15), .second, .val (.long t19), .second, .val (.long t23), .second, .val (.long t27), .second] [(.int (0 : Int32))])) (fun _ k => XS.dcmpS X52.here hx rfl (hb hby at_247) rfl (cmpD_eq DR2 DQ2 (by rw [e_t23]; omega) _) k) ?_
  refine Goes.by (T' := T52) (g' := (mkF m 251 #[.val (.int x0), .val (.int x1), .val (.int x2), .val (.int x3), .val (.long y0), .second, .val (.long y1), .second, .val (.long y2), .second, .val (.long y3), .second, .val (.long y4), .second, .val (.long y5), .second, .val (.long y6), .second, .val (.long y7), .second, .val (.ref a), .val (.ref b), .val (.ref r), .val (.long t4), .second, .val (.long t7), .second, .val (.long t10), .second, .val (.long t13), .second, .val (.long t15), .second, .val (.long t19), .second, .val (.long t23), .second, .val (.long t27), .second] [])) (fun _ k => XS.ifNo X52.here hx rfl (hb hby at_248) rfl (by decide) k) ?_
  refine Goes.by (T' := T52) (g' := (mkF m 253 #[.val (.int x0), .val (.int x1), .val (.int x2), .val (.int x3), .val (.long y0), .second, .val (.long y1), .second, .val (.long y2), .second, .val (.long y3), .second, .val (.long y4), .second, .val (.long y5), .second, .val (.long y6), .second, .val (.long y7), .second, .val (.ref a), .val (.ref b), .val (.ref r), .val (.long t4), .second, .val (.long t7), .second, .val (.long t10), .second, .val (.long t13), .second, .val (.long t15), .second, .val (.long t19), .second, .val (.long t23), .second, .val (.long t27), .second] [(.ref r)])) (fun _ k => XS.aload X52.here hx rfl (hb hby at_251) rfl rfl k) ?_
  obtain ⟨v53, T53, L53, X53, hQ53, st53⟩ := callV X52 hx hZ (y := (⟨"com/example/attitude_bridge/attitudebridge/Quaternion", "z", "()D"⟩ : MethodName)) hown (hw _ (List.mem_of_getElem? (i := 44) rfl)) (hw _ (List.mem_of_getElem? (i := 45) rfl)) (hw _ (List.mem_of_getElem? (i := 47) rfl)) (hw _ (List.mem_of_getElem? (i := 46) rfl)) (hw _ (List.mem_of_getElem? (i := 48) rfl)) (hw _ (List.mem_of_getElem? (i := 2) rfl)) (by decide) hk52 E_r (argsL := []) (rest := []) (W := 0) (rm_z l Z a0 hw r r3 T49.heap n0 Z0 F_z_r) rfl (by decide) (by decide) (by decide) (by decide) (g := (mkF m 253 #[.val (.int x0), .val (.int x1), .val (.int x2), .val (.int x3), .val (.long y0), .second, .val (.long y1), .second, .val (.long y2), .second, .val (.long y3), .second, .val (.long y4), .second, .val (.long y5), .second, .val (.long y6), .second, .val (.long y7), .second, .val (.ref a), .val (.ref b), .val (.ref r), .val (.long t4), .second, .val (.long t7), .second, .val (.long t10), .second, .val (.long t13), .second, .val (.long t15), .second, .val (.long t19), .second, .val (.long t23), .second, .val (.long t27), .second] [(.ref r)])) rfl (by rw [hml]; rfl) (lenOf pd3 rfl) rfl (by show 2 * 0 + _ ≤ _; exact Nat.le_of_eq rfl) (hb hby at_253)
  obtain ⟨rfl, NL53, hk53⟩ := hQ53
  have N0 := Fr.app N0 NL53
  refine Goes.by (T' := T53) (g' := (mkF m 256 #[.val (.int x0), .val (.int x1), .val (.int x2), .val (.int x3), .val (.long y0), .second, .val (.long y1), .second, .val (.long y2), .second, .val (.long y3), .second, .val (.long y4), .second, .val (.long y5), .second, .val (.long y6), .second, .val (.long y7), .second, .val (.ref a), .val (.ref b), .val (.ref r), .val (.long t4), .second, .val (.long t7), .second, .val (.long t10), .second, .val (.long t13), .second, .val (.long t15), .second, .val (.long t19), .second, .val (.long t23), .second, .val (.long t27), .second] [(.double r3)])) st53 ?_
  refine Goes.by (T' := T53) (g' := (mkF m 258 #[.val (.int x0), .val (.int x1), .val (.int x2), .val (.int x3), .val (.long y0), .second, .val (.long y1), .second, .val (.long y2), .second, .val (.long y3), .second, .val (.long y4), .second, .val (.long y5), .second, .val (.long y6), .second, .val (.long y7), .second, .val (.ref a), .val (.ref b), .val (.ref r), .val (.long t4), .second, .val (.long t7), .second, .val (.long t10), .second, .val (.long t13), .second, .val (.long t15), .second, .val (.long t19), .second, .val (.long t23), .second, .val (.long t27), .second] [(.long t27), (.double r3)])) (fun _ k => XS.lload X53.here hx rfl (hb hby at_256) rfl k) ?_
  obtain ⟨q3, q_q3⟩ : ∃ zz, FP.l2d t27 = zz := ⟨_, rfl⟩
  refine Goes.by (T' := T53) (g' := (mkF m 259 #[.val (.int x0), .val (.int x1), .val (.int x2), .val (.int x3), .val (.long y0), .second, .val (.long y1), .second, .val (.long y2), .second, .val (.long y3), .second, .val (.long y4), .second, .val (.long y5), .second, .val (.long y6), .second, .val (.long y7), .second, .val (.ref a), .val (.ref b), .val (.ref r), .val (.long t4), .second, .val (.long t7), .second, .val (.long t10), .second, .val (.long t13), .second, .val (.long t15), .second, .val (.long t19), .second, .val (.long t23), .second, .val (.long t27), .second] [(.double q3), (.double r3)])) (fun _ k => XS.l2dS X53.here hx rfl (hb hby at_258) rfl q_q3 k) ?_
  have DQ3 : Core.DInt t27.toInt q3 := DInt_l2d q_q3 (by rw [e_t27]; omega)
  refine Goes.by (T' := T53) (g' := (mkF m 260 #[.val (.int x0), .val (.int x1), .val (.int x2), .val (.int x3), .val (.long y0), .second, .val (.long y1), .second, .val (.long y2), .second, .val (.long y3), .second, .val (.long y4), .second, .val (.long y5), .second, .val (.long y6), .second, .val (.long y7), .second, .val (.ref a), .val (.ref b), .val (.ref r), .val (.long t4), .second, .val (.long t7), .second, .val (.long t10), .second, .val (.long t13), .second, .val (.long t15), .second, .val (.long t19), .second, .val (.long t23), .second, .val (.long t27), .second] [(.int (0 : Int32))])) (fun _ k => XS.dcmpS X53.here hx rfl (hb hby at_259) rfl (cmpD_eq DR3 DQ3 (by rw [e_t27]; omega) _) k) ?_
  refine Goes.by (T' := T53) (g' := (mkF m 263 #[.val (.int x0), .val (.int x1), .val (.int x2), .val (.int x3), .val (.long y0), .second, .val (.long y1), .second, .val (.long y2), .second, .val (.long y3), .second, .val (.long y4), .second, .val (.long y5), .second, .val (.long y6), .second, .val (.long y7), .second, .val (.ref a), .val (.ref b), .val (.ref r), .val (.long t4), .second, .val (.long t7), .second, .val (.long t10), .second, .val (.long t13), .second, .val (.long t15), .second, .val (.long t19), .second, .val (.long t23), .second, .val (.long t27), .second] [])) (fun _ k => XS.ifNo X53.here hx rfl (hb hby at_260) rfl (by decide) k) ?_
  refine Goes.by (T' := T53) (g' := (mkF m 264 #[.val (.int x0), .val (.int x1), .val (.int x2), .val (.int x3), .val (.long y0), .second, .val (.long y1), .second, .val (.long y2), .second, .val (.long y3), .second, .val (.long y4), .second, .val (.long y5), .second, .val (.long y6), .second, .val (.long y7), .second, .val (.ref a), .val (.ref b), .val (.ref r), .val (.long t4), .second, .val (.long t7), .second, .val (.long t10), .second, .val (.long t13), .second, .val (.long t15), .second, .val (.long t19), .second, .val (.long t23), .second, .val (.long t27), .second] [(.int (1 : Int32))])) (fun _ k => XS.iconst X53.here hx rfl (hb hby at_263)  k) ?_
  refine Goes.by (T' := T53) (g' := (mkF m 268 #[.val (.int x0), .val (.int x1), .val (.int x2), .val (.int x3), .val (.long y0), .second, .val (.long y1), .second, .val (.long y2), .second, .val (.long y3), .second, .val (.long y4), .second, .val (.long y5), .second, .val (.long y6), .second, .val (.long y7), .second, .val (.ref a), .val (.ref b), .val (.ref r), .val (.long t4), .second, .val (.long t7), .second, .val (.long t10), .second, .val (.long t13), .second, .val (.long t15), .second, .val (.long t19), .second, .val (.long t23), .second, .val (.long t27), .second] [(.int (1 : Int32))])) (fun _ k => XS.goto X53.here hx rfl (pc0 := 264) (pc' := 268) rfl (hb hby at_264) (by decide) (by decide) k) ?_
  exact outZ X53 hx hlk hret (hb hby at_268) (by exact ⟨rfl, N0⟩) (by decide) (by decide)
set_option maxRecDepth 65536 in
set_option maxHeartbeats 40000000 in
theorem comes_1 {Post : Tables → Env → Array Value → State → Outcome → State → Prop} (hpost : ∀ tb e args s v u, (limb_1_1.after args s (.returned v) u = true ∧ limb_1_2.after args s (.returned v) u = true ∧ True) → FrameEnd s (.returned v) u (Jvm.fieldLocs frame_1_writes args s ++ Jvm.arrayLocs frame_1_arrays args s ++ Jvm.staticLocs frame_1_statics s) 16 128 → Post tb e args s (.returned v) u) :
    ArmFor flags0 classFile x code maxLocals ret World_1 tables_1 room_1 Calls_1 rest_1 Pre_1 Post := by
  intro l hfl _ _ p e ha hc hk s m args below hf hA hF happ hP
  obtain ⟨hcalls, hrest, hpre⟩ := hP
  obtain ⟨-, -, -, hnamed, -, -, -, hat⟩ := (Spec.applies_iff hf).mp happ
  obtain ⟨hg, hn⟩ := and_e (Cond.before_iff.mp (show (Jvm.Cond.and given_1 narrow_1).before args s = true from hpre))
  obtain ⟨g0, t0⟩ := and_e hg
  obtain ⟨g1, t1⟩ := and_e t0
  obtain ⟨g2, t2⟩ := and_e t1
  obtain ⟨g3, t3⟩ := and_e t2
  obtain ⟨w0, w1, w2, w3, rfl⟩ : ∃ w0 w1 w2 w3 : Value, args = #[w0, w1, w2, w3] := by
    have hs : args.size = 4 := by simpa [Cond.value, given_1] using g0
    obtain ⟨L⟩ := args
    match L, hs with
    | [w0, w1, w2, w3], _ => exact ⟨w0, w1, w2, w3, rfl⟩
  have hw := fun d (hd : d ∈ tables_1) => atoms_spec (ws := Jvm.Cond.code x code maxLocals ret :: tables_1) hat d (List.mem_cons_of_mem _ hd)
  obtain ⟨i0, e0⟩ := is_v g1
  obtain rfl : w0 = (.int i0) := Option.some.inj e0
  obtain ⟨i1, e1⟩ := is_v g2
  obtain rfl : w1 = (.int i1) := Option.some.inj e1
  obtain ⟨i2, e2⟩ := is_v g3
  obtain rfl : w2 = (.int i2) := Option.some.inj e2
  obtain ⟨i3, e3⟩ := is_v t3
  obtain rfl : w3 = (.int i3) := Option.some.inj e3
  obtain ⟨n, o, h1, h2, h3, _, L, rfl, ⟨rfl, N⟩, hq⟩ := rm_law l s _ hw i0 i1 i2 i3 s.heap s.heap.size (Nat.le_refl _)  p e ha hc hk s m _ below hf ((Spec.applies_iff_loose hf).mp happ).1 ⟨rfl, State.Warmed39.refl s, rfl⟩ trivial
  refine ⟨n, _, h1, h2, h3, hpost _ _ _ _ _ _ ⟨Cond.after_iff.mpr rfl, Cond.after_iff.mpr (eq_i res_at (Term.int_eval (1)) rfl), trivial⟩ ⟨hq.1, hq.2.1, (hq.2.2.sift fun y hy => Or.inr (N y hy)).mono (by decide) (by decide)⟩⟩
theorem main_1_1 : Claimed_1_1 := comes_1 fun _ _ _ _ _ _ h hF => ⟨h.1, hF⟩
theorem main_1_2 : Claimed_1_2 := comes_1 fun _ _ _ _ _ _ h hF => ⟨h.2.1, hF⟩
end Jvm.Pilot.@@N@@
namespace Jvm.Pilot.@@N@@
open Jvm Jvm.ClassFile Sem Op Lib Jvm.Free Jvm.Stand Jvm.Pilot.@@N@@.Jvm.D
/-! MADE BY PROGRAM (witnessworld.py) out of the Statement's table words and the real class files: 10 classes; the members and pool entries that the words name. The judged class is class 1, her method 1. -/
namespace start1
open Jvm.ClassFile
def u (s : String) : CpInfo := .utf8 (stringToUtf16 s)
/-- a pool by its gaps: so many unusable entries, then the entry; so many at the end -/
def gap : Nat → List CpInfo → List CpInfo
  | 0, r => r
  | n + 1, r => .unusable :: gap n r
def poolList (es : List (Nat × CpInfo)) (last : Nat) : List CpInfo := es.foldr (fun e r => gap e.1 (e.2 :: r)) (gap last [])
def pool (es : List (Nat × CpInfo)) (last : Nat) : Array CpInfo := ⟨poolList es last⟩
def fileOf (pool : Array CpInfo) (this : Nat) (attrs : Array Attribute := #[]) (ms : Array MethodInfo := #[]) (fl : Nat := 33) (sup : Nat := 0) (ifs : Array Nat := #[]) (fds : Array FieldInfo := #[]) : ClassFile where
  minorVersion := 0
  majorVersion := 65
  constantPool := pool
  accessFlags := fl
  thisClass := this
  superClass := sup
  interfaces := ifs
  fields := fds
  methods := ms
  attributes := attrs
def plain (name : String) (sup : Option ClassId) : Class where
  name := name
  kind := .ordinary
  loader := none
  accessFlags := 33
  super := sup
  interfaces := #[]
  cf := none
  fields := #[]
  methods := #[]
  instanceTypes := #[]
  staticTypes := #[]
  resolved := #[]
  callSites := []
  init := .initialized
  statics := none
  mirror := none

def pool0 : Array CpInfo := pool [(5, u "<init>"), (0, u "()V"), (1, .class_ 10), (1, u "java/lang/Object")] 113

def k0c0 : Code := { maxStack := 0, maxLocals := 1, code := object_method_1_code, exceptionTable := #[], attributes := #[] }
def k0m0 : Method := { name := "<init>", desc := "()V", sig := { parameters := [], returnType := none }, accessFlags := 1, code := some k0c0 }
/-- java/lang/Object -/
def k0 : Class := { plain "java/lang/Object" none with
  accessFlags := 33
  interfaces := #[]
  cf := some (fileOf pool0 8 #[] #[{ accessFlags := 1, nameIndex := 5, descriptorIndex := 6, attributes := #[] }] 33 0 #[] #[])
  fields := #[]
  methods := #[k0m0]
  instanceTypes := #[]
  staticTypes := #[]
  resolved := Array.replicate 124 none
  statics := none }

def pool1 : Array CpInfo := pool [(2, .class_ 4), (1, u "java/lang/Object"), (0, u "<init>"), (0, u "()V"), (0, .class_ 8), (0, u "com/example/attitude_bridge/attitudebridge/Quaternion"), (0, .methodref 7 10), (0, .nameAndType 5 11), (0, u "(DDDD)V"), (0, .methodref 7 13), (0, .nameAndType 14 15), (0, u "times"), (0, u "(Lcom/example/attitude_bridge/attitudebridge/Quaternion;)Lcom/example/attitude_bridge/attitudebridge/Quaternion;"), (0, .methodref 7 17), (0, .nameAndType 18 19), (0, u "w"), (0, u "()D"), (0, .methodref 7 21), (0, .nameAndType 22 19), (0, u "x"), (0, .methodref 7 24), (0, .nameAndType 25 19), (0, u "y"), (0, .methodref 7 27), (0, .nameAndType 28 19), (0, u "z"), (0, .class_ 30), (0, u "com/example/attitude_bridge/attitudebridge/QuaternionTimesPinLaw"), (2, u "law"), (0, u "(IIII)Z")] 3

def k1m0 : Method := { name := "<init>", desc := "()V", sig := { parameters := [], returnType := none }, accessFlags := 1, code := none }
def k1c1 : Code := { maxStack := 10, maxLocals := 39, code := code, exceptionTable := #[], attributes := #[] }
def k1m1 : Method := { name := "law", desc := "(IIII)Z", sig := { parameters := [.int, .int, .int, .int], returnType := some .boolean }, accessFlags := 9, code := some k1c1 }
/-- com/example/attitude_bridge/attitudebridge/QuaternionTimesPinLaw -/
def k1 : Class := { plain "com/example/attitude_bridge/attitudebridge/QuaternionTimesPinLaw" (some 0) with
  accessFlags := 49
  interfaces := #[]
  cf := some (fileOf pool1 29 #[] #[{ accessFlags := 1, nameIndex := 5, descriptorIndex := 6, attributes := #[] }, { accessFlags := 9, nameIndex := 33, descriptorIndex := 34, attributes := #[] }] 49 2 #[] #[])
  fields := #[]
  methods := #[k1m0, k1m1]
  instanceTypes := #[]
  staticTypes := #[]
  resolved := Array.replicate 38 none
  statics := none }

def pool2 : Array CpInfo := pool [(1, .methodref 2 3), (0, .class_ 4), (0, .nameAndType 5 6), (0, u "java/lang/Object"), (0, u "<init>"), (0, u "()V"), (0, .class_ 8), (0, u "java/lang/Record")] 13

def k2c0 : Code := { maxStack := 1, maxLocals := 1, code := jdk_30_method_1_code, exceptionTable := #[], attributes := #[] }
def k2m0 : Method := { name := "<init>", desc := "()V", sig := { parameters := [], returnType := none }, accessFlags := 4, code := some k2c0 }
/-- java/lang/Record -/
def k2 : Class := { plain "java/lang/Record" (some 0) with
  accessFlags := 1057
  interfaces := #[]
  cf := some (fileOf pool2 7 #[] #[{ accessFlags := 4, nameIndex := 5, descriptorIndex := 6, attributes := #[] }] 1057 2 #[] #[])
  fields := #[]
  methods := #[k2m0]
  instanceTypes := #[]
  staticTypes := #[]
  resolved := Array.replicate 22 none
  statics := none }

def pool3 : Array CpInfo := pool [(1, .methodref 2 3), (0, .class_ 4), (0, .nameAndType 5 6), (0, u "java/lang/Record"), (0, u "<init>"), (0, u "()V"), (0, .fieldref 8 9), (0, .class_ 10), (0, .nameAndType 11 12), (0, u "com/example/attitude_bridge/attitudebridge/Quaternion"), (0, u "w"), (0, u "D"), (0, .fieldref 8 14), (0, .nameAndType 15 12), (0, u "x"), (0, .fieldref 8 17), (0, .nameAndType 18 12), (0, u "y"), (0, .fieldref 8 20), (0, .nameAndType 21 12), (0, u "z"), (15, .methodref 8 38), (0, .nameAndType 5 39), (0, u "(DDDD)V"), (5, u "times"), (0, u "(Lcom/example/attitude_bridge/attitudebridge/Quaternion;)Lcom/example/attitude_bridge/attitudebridge/Quaternion;"), (19, u "INFINITE_MAGNITUDE"), (0, u "J"), (44, u "()D"), (21, u "SMALLEST_UNCHECKED"), (48, u "UNIT_TOLERANCE"), (1, u "NEAR_UNIT")] 45

def k3c0 : Code := { maxStack := 3, maxLocals := 9, code := prog_19_method_1_code, exceptionTable := #[], attributes := #[] }
def k3m0 : Method := { name := "<init>", desc := "(DDDD)V", sig := { parameters := [.double, .double, .double, .double], returnType := none }, accessFlags := 1, code := some k3c0 }
def k3c1 : Code := { maxStack := 14, maxLocals := 2, code := prog_19_method_3_code, exceptionTable := #[], attributes := #[] }
def k3m1 : Method := { name := "times", desc := "(Lcom/example/attitude_bridge/attitudebridge/Quaternion;)Lcom/example/attitude_bridge/attitudebridge/Quaternion;", sig := { parameters := [(.object "com/example/attitude_bridge/attitudebridge/Quaternion")], returnType := some (.object "com/example/attitude_bridge/attitudebridge/Quaternion") }, accessFlags := 1, code := some k3c1 }
def k3c2 : Code := { maxStack := 2, maxLocals := 1, code := prog_19_method_25_code, exceptionTable := #[], attributes := #[] }
def k3m2 : Method := { name := "w", desc := "()D", sig := { parameters := [], returnType := some .double }, accessFlags := 1, code := some k3c2 }
def k3c3 : Code := { maxStack := 2, maxLocals := 1, code := prog_19_method_26_code, exceptionTable := #[], attributes := #[] }
def k3m3 : Method := { name := "x", desc := "()D", sig := { parameters := [], returnType := some .double }, accessFlags := 1, code := some k3c3 }
def k3c4 : Code := { maxStack := 2, maxLocals := 1, code := prog_19_method_27_code, exceptionTable := #[], attributes := #[] }
def k3m4 : Method := { name := "y", desc := "()D", sig := { parameters := [], returnType := some .double }, accessFlags := 1, code := some k3c4 }
def k3c5 : Code := { maxStack := 2, maxLocals := 1, code := prog_19_method_28_code, exceptionTable := #[], attributes := #[] }
def k3m5 : Method := { name := "z", desc := "()D", sig := { parameters := [], returnType := some .double }, accessFlags := 1, code := some k3c5 }
/-- com/example/attitude_bridge/attitudebridge/Quaternion -/
def k3 : Class := { plain "com/example/attitude_bridge/attitudebridge/Quaternion" (some 2) with
  accessFlags := 49
  interfaces := #[]
  cf := some (fileOf pool3 8 #[] #[{ accessFlags := 1, nameIndex := 5, descriptorIndex := 39, attributes := #[] }, { accessFlags := 1, nameIndex := 45, descriptorIndex := 46, attributes := #[] }, { accessFlags := 1, nameIndex := 11, descriptorIndex := 112, attributes := #[] }, { accessFlags := 1, nameIndex := 15, descriptorIndex := 112, attributes := #[] }, { accessFlags := 1, nameIndex := 18, descriptorIndex := 112, attributes := #[] }, { accessFlags := 1, nameIndex := 21, descriptorIndex := 112, attributes := #[] }] 49 2 #[] #[{ accessFlags := 18, nameIndex := 11, descriptorIndex := 12, attributes := #[] }, { accessFlags := 18, nameIndex := 15, descriptorIndex := 12, attributes := #[] }, { accessFlags := 18, nameIndex := 18, descriptorIndex := 12, attributes := #[] }, { accessFlags := 18, nameIndex := 21, descriptorIndex := 12, attributes := #[] }, { accessFlags := 26, nameIndex := 183, descriptorIndex := 12, attributes := #[] }, { accessFlags := 26, nameIndex := 66, descriptorIndex := 67, attributes := #[] }, { accessFlags := 26, nameIndex := 185, descriptorIndex := 12, attributes := #[] }, { accessFlags := 26, nameIndex := 134, descriptorIndex := 67, attributes := #[] }])
  fields := #[{ name := "w", type := .double, accessFlags := 18, slot := 0, constantValue := 0 }, { name := "x", type := .double, accessFlags := 18, slot := 1, constantValue := 0 }, { name := "y", type := .double, accessFlags := 18, slot := 2, constantValue := 0 }, { name := "z", type := .double, accessFlags := 18, slot := 3, constantValue := 0 }, { name := "UNIT_TOLERANCE", type := .double, accessFlags := 26, slot := 0, constantValue := 0 }, { name := "INFINITE_MAGNITUDE", type := .long, accessFlags := 26, slot := 1, constantValue := 0 }, { name := "NEAR_UNIT", type := .double, accessFlags := 26, slot := 2, constantValue := 0 }, { name := "SMALLEST_UNCHECKED", type := .long, accessFlags := 26, slot := 3, constantValue := 0 }]
  methods := #[k3m0, k3m1, k3m2, k3m3, k3m4, k3m5]
  instanceTypes := #[.double, .double, .double, .double]
  staticTypes := #[.double, .long, .double, .long]
  resolved := Array.replicate 231 none
  statics := none }

def pool4 : Array CpInfo := pool [(1, u "java/lang/Cloneable"), (0, .class_ 1), (0, u "java/lang/Object"), (0, .class_ 3)] 3

/-- java/lang/Cloneable -/
def k4 : Class := { plain "java/lang/Cloneable" (some 0) with
  accessFlags := 1537
  interfaces := #[]
  cf := some (fileOf pool4 2 #[] #[] 1537 4 #[] #[])
  fields := #[]
  methods := #[]
  instanceTypes := #[]
  staticTypes := #[]
  resolved := Array.replicate 8 none
  statics := none }

def pool5 : Array CpInfo := pool [(1, u "java/io/Serializable"), (0, .class_ 1), (0, u "java/lang/Object"), (0, .class_ 3)] 3

/-- java/io/Serializable -/
def k5 : Class := { plain "java/io/Serializable" (some 0) with
  accessFlags := 1537
  interfaces := #[]
  cf := some (fileOf pool5 2 #[] #[] 1537 4 #[] #[])
  fields := #[]
  methods := #[]
  instanceTypes := #[]
  staticTypes := #[]
  resolved := Array.replicate 8 none
  statics := none }

/-- the primitive byte -/
def k6 : Class := { plain "byte" none with kind := .primitive 'B', accessFlags := 0x411 }
/-- [B -/
def k7 : Class := { plain "[B" (some 0) with kind := .array 6 .byte, interfaces := #[4, 5], accessFlags := 1041 }

/-- the primitive int -/
def k8 : Class := { plain "int" none with kind := .primitive 'I', accessFlags := 0x411 }
/-- [I -/
def k9 : Class := { plain "[I" (some 0) with kind := .array 8 .int, interfaces := #[4, 5], accessFlags := 1041 }

def heap : Heap := #[]
def classes : Array Class := #[k0, k1, k2, k3, k4, k5, k6, k7, k8, k9]
def interned : List (Array UInt16 × Addr) := []
def slotsUsed : Nat := 0
def theMethod : MethodId := ⟨1, 1⟩
def args0 : Array Value := #[.int 5, .int 5, .int 5, .int 5]
def aboutOver (below : List Frame) : State where
  vm := { classes := classes, interned := interned.toArray }
  heap := heap
  slotsUsed := slotsUsed
  threads := #[{ frames := .invoking theMethod args0 :: below }]
def below0 : List Frame := [.native { method := ⟨0, 0⟩, args := #[] }]
def about1 : State := aboutOver below0
def p0 : Program := .bare "" "" ""
def e0 : Env := launch0.env 0 0 0
theorem w_frames : about1.frames = Frame.invoking theMethod args0 :: below0 := rfl
set_option maxRecDepth 65536 in
theorem w_args : argsFit about1.vm theMethod args0 = true := by decide +kernel
set_option maxRecDepth 65536 in
theorem w_heap : heapFits about1 = true := by decide +kernel
set_option maxRecDepth 65536 in
theorem w_runnable : about1.curStatus? = some .runnable := by decide +kernel
set_option maxRecDepth 65536 in
theorem w_alone : about1.alone = true := by decide +kernel
set_option maxRecDepth 65536 in
theorem w_named : about1.methodNamed? x = some theMethod := by decide +kernel
set_option maxRecDepth 65536 in
theorem w_hears : about1.hears theMethod below0 = true := by decide +kernel
set_option maxRecDepth 65536 in
theorem w_ripe : about1.ripe theMethod args0 below0 = true := by decide +kernel
theorem w_running : about1.status = .running := rfl
set_option maxRecDepth 65536 in
theorem w_room : about1.hasRoom e0.platform room_1 = true :=
  launch0.hasRoom_least _ room_1 (by decide +kernel) (by decide +kernel) (by decide +kernel) (by decide +kernel) (by decide +kernel) (by decide +kernel)
theorem allAtoms_all (ts : List Jvm.Cond) (a : Array Jvm.Value) (st : Jvm.State) : (allAtoms ts).before a st = ts.all (fun c => c.before a st) := by
  induction ts with
  | nil => rfl
  | cons c t ih =>
    show (Jvm.Cond.and c (allAtoms t)).before a st = _
    rw [Jvm.Cond.before_and, ih, List.all_cons]
def words1 : List Jvm.Cond := Jvm.Cond.code x code maxLocals ret :: tables_1
/-- a 'code' word, met by the world's own term for the bytes: nothing is compared byte by byte -/
theorem code_word {y : MethodName} {bytes : ByteArray} {mx : Nat} {rt : Option FieldType} {a : Array Value} {s : State} {m : MethodId} {meth : Method} {c : Code} (h1 : s.methodNamed? y = some m) (h2 : s.vm.method? m = some meth) (h3 : meth.code = some c) (h4 : c.code = bytes)
    (h5 : (c.maxLocals == mx && c.exceptionTable.isEmpty && decide (c.maxStack ≤ mostOperands) && decide (meth.sig.returnType = rt) && !meth.locks && decide (parseMethodDescriptor y.desc = some meth.sig)) = true) : (Jvm.Cond.code y bytes mx rt).before a s = true := by
  simp only [Bool.and_eq_true, beq_iff_eq, Bool.not_eq_true', decide_eq_true_eq] at h5
  obtain ⟨⟨⟨⟨⟨g1, g2⟩, g3⟩, g4⟩, g5⟩, g6⟩ := h5
  simp [Cond.before, Cond.holds, Cond.value, h1, h2, h3, h4, g1, g2, g3, g4, g5, g6]
def isCode : Jvm.Cond → Bool
  | .code _ _ _ _ => true
  | _ => false
theorem all_split {L : List Jvm.Cond} {P : Jvm.Cond → Bool} (h1 : L.all (fun c => isCode c || P c) = true) (h2 : ∀ c ∈ L.filter isCode, P c = true) : L.all P = true := by
  refine List.all_eq_true.mpr fun c hc => ?_
  have h := List.all_eq_true.mp h1 c hc
  rcases Bool.eq_false_or_eq_true (isCode c) with hi | hi
  · exact h2 c (List.mem_filter.mpr ⟨hc, hi⟩)
  · simpa [hi] using h
set_option maxRecDepth 65536 in
theorem w_c0 : (Jvm.Cond.code x code maxLocals ret).before args0 about1 = true := code_word (m := ⟨1, 1⟩) (meth := k1m1) (c := k1c1) (by decide +kernel) rfl rfl rfl (by decide +kernel)
set_option maxRecDepth 65536 in
theorem w_c1 : (Jvm.Cond.code ({ cls := "com/example/attitude_bridge/attitudebridge/Quaternion", name := "<init>", desc := "(DDDD)V" } : Jvm.MethodName) prog_19_method_1_code (9 : Nat) (Option.none : Option Jvm.ClassFile.FieldType)).before args0 about1 = true := code_word (m := ⟨3, 0⟩) (meth := k3m0) (c := k3c0) (by decide +kernel) rfl rfl rfl (by decide +kernel)
set_option maxRecDepth 65536 in
theorem w_c2 : (Jvm.Cond.code ({ cls := "java/lang/Record", name := "<init>", desc := "()V" } : Jvm.MethodName) jdk_30_method_1_code (1 : Nat) (Option.none : Option Jvm.ClassFile.FieldType)).before args0 about1 = true := code_word (m := ⟨2, 0⟩) (meth := k2m0) (c := k2c0) (by decide +kernel) rfl rfl rfl (by decide +kernel)
set_option maxRecDepth 65536 in
theorem w_c3 : (Jvm.Cond.code ({ cls := "java/lang/Object", name := "<init>", desc := "()V" } : Jvm.MethodName) object_method_1_code (1 : Nat) (Option.none : Option Jvm.ClassFile.FieldType)).before args0 about1 = true := code_word (m := ⟨0, 0⟩) (meth := k0m0) (c := k0c0) (by decide +kernel) rfl rfl rfl (by decide +kernel)
set_option maxRecDepth 65536 in
theorem w_c4 : (Jvm.Cond.code ({ cls := "com/example/attitude_bridge/attitudebridge/Quaternion", name := "times", desc := "(Lcom/example/attitude_bridge/attitudebridge/Quaternion;)Lcom/example/attitude_bridge/attitudebridge/Quaternion;" } : Jvm.MethodName) prog_19_method_3_code (2 : Nat) (Option.some (Jvm.ClassFile.FieldType.object "com/example/attitude_bridge/attitudebridge/Quaternion"))).before args0 about1 = true := code_word (m := ⟨3, 1⟩) (meth := k3m1) (c := k3c1) (by decide +kernel) rfl rfl rfl (by decide +kernel)
set_option maxRecDepth 65536 in
theorem w_c5 : (Jvm.Cond.code ({ cls := "com/example/attitude_bridge/attitudebridge/Quaternion", name := "w", desc := "()D" } : Jvm.MethodName) prog_19_method_25_code (1 : Nat) (Option.some Jvm.ClassFile.FieldType.double)).before args0 about1 = true := code_word (m := ⟨3, 2⟩) (meth := k3m2) (c := k3c2) (by decide +kernel) rfl rfl rfl (by decide +kernel)
set_option maxRecDepth 65536 in
theorem w_c6 : (Jvm.Cond.code ({ cls := "com/example/attitude_bridge/attitudebridge/Quaternion", name := "x", desc := "()D" } : Jvm.MethodName) prog_19_method_26_code (1 : Nat) (Option.some Jvm.ClassFile.FieldType.double)).before args0 about1 = true := code_word (m := ⟨3, 3⟩) (meth := k3m3) (c := k3c3) (by decide +kernel) rfl rfl rfl (by decide +kernel)
set_option maxRecDepth 65536 in
theorem w_c7 : (Jvm.Cond.code ({ cls := "com/example/attitude_bridge/attitudebridge/Quaternion", name := "y", desc := "()D" } : Jvm.MethodName) prog_19_method_27_code (1 : Nat) (Option.some Jvm.ClassFile.FieldType.double)).before args0 about1 = true := code_word (m := ⟨3, 4⟩) (meth := k3m4) (c := k3c4) (by decide +kernel) rfl rfl rfl (by decide +kernel)
set_option maxRecDepth 65536 in
theorem w_c8 : (Jvm.Cond.code ({ cls := "com/example/attitude_bridge/attitudebridge/Quaternion", name := "z", desc := "()D" } : Jvm.MethodName) prog_19_method_28_code (1 : Nat) (Option.some Jvm.ClassFile.FieldType.double)).before args0 about1 = true := code_word (m := ⟨3, 5⟩) (meth := k3m5) (c := k3c5) (by decide +kernel) rfl rfl rfl (by decide +kernel)
def codes1 : List Jvm.Cond := [Jvm.Cond.code x code maxLocals ret, Jvm.Cond.code ({ cls := "com/example/attitude_bridge/attitudebridge/Quaternion", name := "<init>", desc := "(DDDD)V" } : Jvm.MethodName) prog_19_method_1_code (9 : Nat) (Option.none : Option Jvm.ClassFile.FieldType), Jvm.Cond.code ({ cls := "java/lang/Record", name := "<init>", desc := "()V" } : Jvm.MethodName) jdk_30_method_1_code (1 : Nat) (Option.none : Option Jvm.ClassFile.FieldType), Jvm.Cond.code ({ cls := "java/lang/Object", name := "<init>", desc := "()V" } : Jvm.MethodName) object_method_1_code (1 : Nat) (Option.none : Option Jvm.ClassFile.FieldType), Jvm.Cond.code ({ cls := "com/example/attitude_bridge/attitudebridge/Quaternion", name := "times", desc := "(Lcom/example/attitude_bridge/attitudebridge/Quaternion;)Lcom/example/attitude_bridge/attitudebridge/Quaternion;" } : Jvm.MethodName) prog_19_method_3_code (2 : Nat) (Option.some (Jvm.ClassFile.FieldType.object "com/example/attitude_bridge/attitudebridge/Quaternion")), Jvm.Cond.code ({ cls := "com/example/attitude_bridge/attitudebridge/Quaternion", name := "w", desc := "()D" } : Jvm.MethodName) prog_19_method_25_code (1 : Nat) (Option.some Jvm.ClassFile.FieldType.double), Jvm.Cond.code ({ cls := "com/example/attitude_bridge/attitudebridge/Quaternion", name := "x", desc := "()D" } : Jvm.MethodName) prog_19_method_26_code (1 : Nat) (Option.some Jvm.ClassFile.FieldType.double), Jvm.Cond.code ({ cls := "com/example/attitude_bridge/attitudebridge/Quaternion", name := "y", desc := "()D" } : Jvm.MethodName) prog_19_method_27_code (1 : Nat) (Option.some Jvm.ClassFile.FieldType.double), Jvm.Cond.code ({ cls := "com/example/attitude_bridge/attitudebridge/Quaternion", name := "z", desc := "()D" } : Jvm.MethodName) prog_19_method_28_code (1 : Nat) (Option.some Jvm.ClassFile.FieldType.double)]
set_option maxRecDepth 65536 in
theorem codes_eq : words1.filter isCode = codes1 := rfl
theorem w_codes : ∀ c ∈ words1.filter isCode, c.before args0 about1 = true := by
  rw [codes_eq]
  intro c hc
  simp only [codes1, List.mem_cons, List.not_mem_nil, or_false] at hc
  rcases hc with rfl | rfl | rfl | rfl | rfl | rfl | rfl | rfl | rfl
  · exact w_c0
  · exact w_c1
  · exact w_c2
  · exact w_c3
  · exact w_c4
  · exact w_c5
  · exact w_c6
  · exact w_c7
  · exact w_c8
set_option maxRecDepth 65536 in
theorem w_t1 : (words1.take 24).all (fun c => isCode c || c.before args0 about1) = true := by decide +kernel
set_option maxRecDepth 65536 in
theorem w_t2 : ((words1.drop 24).take 24).all (fun c => isCode c || c.before args0 about1) = true := by decide +kernel
set_option maxRecDepth 65536 in
theorem w_t3 : ((words1.drop 24).drop 24).all (fun c => isCode c || c.before args0 about1) = true := by decide +kernel
theorem w_tables : (allAtoms (Jvm.Cond.code x code maxLocals ret :: tables_1)).before args0 about1 = true := by
  rw [allAtoms_all]
  show words1.all (fun c => c.before args0 about1) = true
  refine all_split ?_ w_codes
  rw [← List.take_append_drop 24 words1, List.all_append, w_t1, ← List.take_append_drop 24 (words1.drop 24), List.all_append, w_t2, w_t3]
  rfl
set_option maxRecDepth 65536 in
theorem w_case : (Jvm.Cond.and given_1 narrow_1).before args0 about1 = true := by decide +kernel
theorem w_applies : (headSpec (Jvm.Cond.code x code maxLocals ret :: tables_1) room_1).applies x e0.platform about1 = true :=
  (Spec.applies_iff w_frames).mpr ⟨w_running, w_runnable, w_alone, w_named, w_hears, w_ripe, w_room, w_tables⟩
theorem atStart : AtStart classFile x code maxLocals ret World_1 tables_1 room_1 Calls_1 rest_1 Pre_1 launch0 p0 e0 about1 theMethod args0 below0 :=
  ⟨lists_1, trivial, launch0.admits_env _ _ _, launch0.least_env, fairChoices_fair.cas, fairChoices_fair.clock, w_frames, w_args, w_heap, w_applies, trivial, trivial, w_case⟩
end start1
theorem witness_1 : WitnessClaimed_1 := ⟨start1.p0, start1.e0, start1.about1, start1.theMethod, start1.args0, start1.below0, start1.atStart⟩
end Jvm.Pilot.@@N@@
