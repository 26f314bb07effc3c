import JvmDerived
import JvmDerived.Pilot.@@N@@Statement
import JvmDerived.Pilot.@@N@@Code
set_option linter.unusedVariables false
set_option linter.unusedSimpArgs false
namespace Jvm.RoadKit
open Sem ClassFile Op Lib Jvm.Stand Jvm.Free Jvm.LawKit
/-! own_: walks written forward: 'Goes P T g': from the frame g at T the run comes to a state that P takes. -/
def Goes (p : Program) (e : Env) (below : List Frame) (P : State → Prop) (T : State) (g : JFrame) : Prop := ∃ t, Steps p.tables e below (T.setTop g) t ∧ P t
/-- how a body ends: it returned v, and Q holds of v, the heap and the places written -/
def Fin1 (below : List Frame) (s : State) (rm : Room) (Q : Option Value → Heap → List Loc → Prop) (t : State) : Prop :=
  ∃ o, t.status = .running ∧ Ended t below o ∧ ∃ v L, o = .returned v ∧ Q v t.heap L ∧ FrameEnd s o t L rm.cells rm.slots
/-- a body's contract -/
def Does (l : Launch) (y : MethodName) (bytes : ByteArray) (maxL : Nat) (ret : Option FieldType) (ws : List Cond) (rm : Room) (Z : State) (as' : Array Value) (h : Heap) (Q : Option Value → Heap → List Loc → Prop) : Prop :=
  MetFree l y (head1 (Cond.code y bytes maxL ret :: ws) rm) (fun a U => a = as' ∧ Z.Warmed39 U.vm ∧ U.heap = h) (fun _ _ _ _ _ => True) (fun _ U o U' => ∃ v L, o = .returned v ∧ Q v U'.heap L ∧ FrameEnd U o U' L rm.cells rm.slots)
section Own
variable {p : Program} {l : Launch} {e : Env} {R : Room} {s : State} {m : MethodId} {args : Array Value} {below : List Frame} {meth : Method} {c : Code} {T T' : State} {locs : List Loc} {cells slots : Nat} {Z : State} {a0 : Array Value} {h h' : Heap} {g g' : JFrame} {P : State → Prop}
theorem Goes.by (st : ∀ target, Steps p.tables e below (T'.setTop g') target → Steps p.tables e below (T.setTop g) target) (k : Goes p e below P T' g') : Goes p e below P T g := by
  obtain ⟨t, h1, h2⟩ := k
  exact ⟨t, st _ h1, h2⟩
theorem Goes.cast (q : g = g') (k : Goes p e below P T g') : Goes p e below P T g := q ▸ k
theorem Does.of {y : MethodName} {bytes : ByteArray} {maxL : Nat} {ret : Option FieldType} {ws : List Cond} {rm : Room} {as' : Array Value} {Q : Option Value → Heap → List Loc → Prop} (hp : plainFor y = true)
    (body : ∀ (p : Program) (e : Env) (s : State) (m : MethodId) (below : List Frame) (meth : Method) (c : Code) (s₁ : State), p.tables.exec = Jvm.exec → c.code = bytes → c.maxLocals = maxL → meth.sig.returnType = ret → meth.locks = false → Z.Warmed39 s.vm → s.vm.findClass y.cls = some m.cls → meth.name = y.name → Stand p l e rm s m as' below meth c s₁ [] 0 0 → s₁.heap = h →
      Goes p e below (Fin1 below s rm Q) s₁ (entryFrame m as' maxL)) : Does l y bytes maxL ret ws rm Z as' h Q := by
  refine MetFree.of_bodySF hp hisR ?_
  intro p e s m args below meth c s₁ Bd hml0 hP hK
  obtain ⟨rfl, hZ, hh⟩ := hP
  have e0 : s₁.heap = h := by rw [← hh, Bd.state]; rfl
  obtain ⟨t, h1, o, h2⟩ := body p e s m below meth c s₁ Bd.exec Bd.bytes hml0 Bd.returns Bd.notSynchronized hZ (findClass_of_methodNamed Bd.named) ((name_of_methodNamed Bd.named Bd.method).1) (Stand.of_body Bd) e0
  exact ⟨t, o, h1, h2⟩
theorem fin_of {rm : Room} {Q : Option Value → Heap → List Loc → Prop} {v : Option Value} (X : Stand p l e R s m args below meth c T locs cells slots) (hlk : meth.locks = false) (hv : meth.sig.returnType = none → v = none) (hQ : Q v T.heap locs) (hc : cells ≤ rm.cells) (hs : slots ≤ rm.slots)
    (st : ∀ fs, (∀ (f : JFrame) (acts : List Action), f.method = m → f.locked = none → f.entered = [] → (doReturn e (T.setTop f) acts v).1 = T.setFrames fs) → Steps p.tables e below (T.setTop g) (T.setFrames fs)) : Goes p e below (Fin1 below s rm Q) T g := by
  obtain ⟨fs, hr, hrun, hended, hW, hsame⟩ := X.leave (v := v) hv hlk
  exact ⟨_, st fs hr, _, hrun, hended, _, _, rfl, hQ, ⟨_, rfl⟩, hW, hsame.mono hc hs⟩
theorem outV {rm : Room} {Q : Option Value → Heap → List Loc → Prop} {pc : Nat} {Ls : Array Slot} (X : Stand p l e R s m args below meth c T locs cells slots) (hx : p.tables.exec = Jvm.exec) (hlk : meth.locks = false) (hret : meth.sig.returnType = none) (hd : decode c.code pc = .ok (.return_, 1)) (hQ : Q none T.heap locs) (hc : cells ≤ rm.cells) (hs : slots ≤ rm.slots) : Goes p e below (Fin1 below s rm Q) T (mkF m pc Ls []) :=
  fin_of X hlk (fun _ => rfl) hQ hc hs fun fs hr => X.returnOut hx hret hd hr
theorem outZ {rm : Room} {Q : Option Value → Heap → List Loc → Prop} {pc : Nat} {Ls : Array Slot} {z : Int32} {rest : List Value} (X : Stand p l e R s m args below meth c T locs cells slots) (hx : p.tables.exec = Jvm.exec) (hlk : meth.locks = false) (hret : meth.sig.returnType = some .boolean) (hd : decode c.code pc = .ok (.ireturn, 1)) (hQ : Q (some (.int (nar .boolean z))) T.heap locs) (hc : cells ≤ rm.cells) (hs : slots ≤ rm.slots) : Goes p e below (Fin1 below s rm Q) T (mkF m pc Ls (.int z :: rest)) :=
  fin_of X hlk (fun h => by rw [hret] at h; cases h) hQ hc hs fun fs hr => retN X hx (t := .boolean) hret (by simp) hd hr
theorem outO {rm : Room} {Q : Option Value → Heap → List Loc → Prop} {pc : Nat} {Ls : Array Slot} {w : Value} {t : FieldType} {i : Instr} {rest : List Value} (X : Stand p l e R s m args below meth c T locs cells slots) (hx : p.tables.exec = Jvm.exec) (hlk : meth.locks = false) (hret : meth.sig.returnType = some t) (hn : narrow t w = w)
    (hi : (i = .ireturn ∧ (t = .int ∨ t = .boolean ∨ t = .byte ∨ t = .char ∨ t = .short) ∧ ∃ z, w = .int z) ∨ (i = .lreturn ∧ t = .long ∧ ∃ z, w = .long z) ∨ (i = .dreturn ∧ t = .double ∧ ∃ z, w = .double z) ∨ (i = .freturn ∧ t = .float ∧ ∃ z, w = .float z) ∨ (i = .areturn ∧ t.isReference = true ∧ w.isRef = true))
    (hd : decode c.code pc = .ok (i, 1)) (hQ : Q (some w) T.heap locs) (hc : cells ≤ rm.cells) (hs : slots ≤ rm.slots) : Goes p e below (Fin1 below s rm Q) T (mkF m pc Ls (w :: rest)) :=
  fin_of X hlk (fun h => by rw [hret] at h; cases h) hQ hc hs fun fs hr => retOut X hx hret hn hi hd hr
theorem outI {rm : Room} {Q : Option Value → Heap → List Loc → Prop} {pc : Nat} {Ls : Array Slot} {z : Int32} {rest : List Value} (X : Stand p l e R s m args below meth c T locs cells slots) (hx : p.tables.exec = Jvm.exec) (hlk : meth.locks = false) (hret : meth.sig.returnType = some .int) (hd : decode c.code pc = .ok (.ireturn, 1)) (hQ : Q (some (.int z)) T.heap locs) (hc : cells ≤ rm.cells) (hs : slots ≤ rm.slots) : Goes p e below (Fin1 below s rm Q) T (mkF m pc Ls (.int z :: rest)) :=
  outO X hx hlk hret rfl (Or.inl ⟨rfl, Or.inl rfl, _, rfl⟩) hd hQ hc hs
theorem outJ {rm : Room} {Q : Option Value → Heap → List Loc → Prop} {pc : Nat} {Ls : Array Slot} {z : Int64} {rest : List Value} (X : Stand p l e R s m args below meth c T locs cells slots) (hx : p.tables.exec = Jvm.exec) (hlk : meth.locks = false) (hret : meth.sig.returnType = some .long) (hd : decode c.code pc = .ok (.lreturn, 1)) (hQ : Q (some (.long z)) T.heap locs) (hc : cells ≤ rm.cells) (hs : slots ≤ rm.slots) : Goes p e below (Fin1 below s rm Q) T (mkF m pc Ls (.long z :: rest)) :=
  outO X hx hlk hret rfl (Or.inr (Or.inl ⟨rfl, rfl, _, rfl⟩)) hd hQ hc hs
theorem outD {rm : Room} {Q : Option Value → Heap → List Loc → Prop} {pc : Nat} {Ls : Array Slot} {z : UInt64} {rest : List Value} (X : Stand p l e R s m args below meth c T locs cells slots) (hx : p.tables.exec = Jvm.exec) (hlk : meth.locks = false) (hret : meth.sig.returnType = some .double) (hd : decode c.code pc = .ok (.dreturn, 1)) (hQ : Q (some (.double z)) T.heap locs) (hc : cells ≤ rm.cells) (hs : slots ≤ rm.slots) : Goes p e below (Fin1 below s rm Q) T (mkF m pc Ls (.double z :: rest)) :=
  outO X hx hlk hret rfl (Or.inr (Or.inr (Or.inl ⟨rfl, rfl, _, rfl⟩))) hd hQ hc hs
theorem outA {rm : Room} {Q : Option Value → Heap → List Loc → Prop} {pc : Nat} {Ls : Array Slot} {w : Value} {t : FieldType} {rest : List Value} (X : Stand p l e R s m args below meth c T locs cells slots) (hx : p.tables.exec = Jvm.exec) (hlk : meth.locks = false) (hret : meth.sig.returnType = some t) (ht : t.isReference = true) (hw : w.isRef = true) (hn : narrow t w = w) (hd : decode c.code pc = .ok (.areturn, 1)) (hQ : Q (some w) T.heap locs) (hc : cells ≤ rm.cells) (hs : slots ≤ rm.slots) : Goes p e below (Fin1 below s rm Q) T (mkF m pc Ls (w :: rest)) :=
  outO X hx hlk hret hn (Or.inr (Or.inr (Or.inr (Or.inr ⟨rfl, ht, hw⟩)))) hd hQ hc hs
/-! calls by a contract -/
theorem callI (X : Stand p l e R s m args below meth c T locs cells slots) (hx : p.tables.exec = Jvm.exec) (hZ : Z.Warmed39 s.vm) {own : String} {index : Nat} {y : MethodName} (hy1 : y.name = "<init>") (hown : s.vm.findClass own = some m.cls) {bytes : ByteArray} {maxL : Nat} {rm : Room}
    (w1 : (Cond.methodLink own index y).before a0 Z = true) (w2 : (Cond.instanceMethod y).before a0 Z = true) (w3 : (Cond.code y bytes maxL none).before a0 Z = true) (w4 : (Cond.initialized y.cls).before a0 Z = true) (hy : y.cls ≠ "java/lang/invoke/MethodHandle" ∧ y.cls ≠ "java/lang/invoke/VarHandle")
    (eT : T.heap = h) {a : Addr} {argsL rest : List Value} {as' : Array Value} {Q : Option Value → Heap → List Loc → Prop} {W : Nat} (hM : Does l y bytes maxL none [] rm Z as' h Q) (has : (.ref a :: argsL).toArray = as') (hf : rm.frames + 1 ≤ R.frames) (hl : W + (maxL + 11) + rm.locals ≤ R.locals)
    (hcc : cells + rm.cells ≤ R.cells) (hss : slots + rm.slots ≤ R.slots) {g : JFrame} (hg : g.method = m) (hsize : g.locals.size = c.maxLocals) (hlen : ∀ sig, parseMethodDescriptor y.desc = some sig → argsL.length = sig.parameters.length) (hst : g.stack = argsL.reverse ++ .ref a :: rest) (hW : 2 * g.monitorRoom + (rest.map fun v => v.category).sum ≤ W) (hd : decode c.code g.pc = .ok (.invokespecial index, 3)) :
    ∃ v T' L, Stand p l e R s m args below meth c T' (locs ++ L) (cells + rm.cells) (slots + rm.slots) ∧ Q v T'.heap L ∧ ∀ target, Steps p.tables e below (T'.setTop { g with pc := g.pc + 3, stack := v.toList ++ rest }) target → Steps p.tables e below (T.setTop g) target := by
  obtain ⟨v, vm1, ⟨T', L', k', n'⟩, -, X', ⟨L, hQ, e1, e2, e3⟩, st⟩ := X.specialBack hx (y := y) hy1 hown (mvT hZ w1) (mvT hZ w2) (mvT hZ w3) hy (backOf (W := W) hM hZ w3 w4 hf hl) hg hsize (Steps.refl _) hlen hst hW hd (fun _ _ => ⟨has, eT, hcc, hss⟩)
  dsimp only [Pt.U, Pt.locs, Pt.cells, Pt.slots] at X' e1 e2 e3 st hQ
  subst e1 e2 e3
  exact ⟨v, T', L, X', hQ, fun t k => st.trans k⟩
theorem callV (X : Stand p l e R s m args below meth c T locs cells slots) (hx : p.tables.exec = Jvm.exec) (hZ : Z.Warmed39 s.vm) {own C : String} {index : Nat} {y : MethodName} (hown : s.vm.findClass own = some m.cls) {bytes : ByteArray} {maxL : Nat} {ret : Option FieldType} {rm : Room}
    (w1 : (Cond.methodLink own index y).before a0 Z = true) (w2 : (Cond.declares y).before a0 Z = true) (w3 : (Cond.selects C y y).before a0 Z = true) (w4 : (Cond.instanceMethod y).before a0 Z = true) (w5 : (Cond.code y bytes maxL ret).before a0 Z = true) (w6 : (Cond.initialized y.cls).before a0 Z = true) (hy : y.cls ≠ "java/lang/invoke/MethodHandle" ∧ y.cls ≠ "java/lang/invoke/VarHandle")
    (eT : T.heap = h) {a : Addr} (E : Exa Z h a C) {argsL rest : List Value} {as' : Array Value} {Q : Option Value → Heap → List Loc → Prop} {W : Nat} (hM : Does l y bytes maxL ret [] rm Z as' h Q) (has : (.ref a :: argsL).toArray = as') (hf : rm.frames + 1 ≤ R.frames) (hl : W + (maxL + 11) + rm.locals ≤ R.locals)
    (hcc : cells + rm.cells ≤ R.cells) (hss : slots + rm.slots ≤ R.slots) {g : JFrame} (hg : g.method = m) (hsize : g.locals.size = c.maxLocals) (hlen : ∀ sig, parseMethodDescriptor y.desc = some sig → argsL.length = sig.parameters.length) (hst : g.stack = argsL.reverse ++ .ref a :: rest) (hW : 2 * g.monitorRoom + (rest.map fun v => v.category).sum ≤ W) (hd : decode c.code g.pc = .ok (.invokevirtual index, 3)) :
    ∃ v T' L, Stand p l e R s m args below meth c T' (locs ++ L) (cells + rm.cells) (slots + rm.slots) ∧ Q v T'.heap L ∧ ∀ target, Steps p.tables e below (T'.setTop { g with pc := g.pc + 3, stack := v.toList ++ rest }) target → Steps p.tables e below (T.setTop g) target := by
  obtain ⟨cB, kB, q1, q2, q3⟩ := isOf hZ eT E
  obtain ⟨v, vm1, ⟨T', L', k', n'⟩, -, X', ⟨L, hQ, e1, e2, e3⟩, st⟩ := X.virtualBack hx (y := y) (z := y) hown (mvT hZ w1) (mvT hZ w2) (notFace_of_selects (args := args) (mvT hZ w3)) (mvT hZ w3) (mvT hZ w4) hy (backOf (W := W) hM hZ w5 w6 hf hl) q1 q3 hg hsize (Steps.refl _) hlen hst hW hd (fun _ _ => ⟨has, eT, hcc, hss⟩)
  dsimp only [Pt.U, Pt.locs, Pt.cells, Pt.slots] at X' e1 e2 e3 st hQ
  subst e1 e2 e3
  exact ⟨v, T', L, X', hQ, fun t k => st.trans k⟩
theorem callC (X : Stand p l e R s m args below meth c T locs cells slots) (hx : p.tables.exec = Jvm.exec) (hZ : Z.Warmed39 s.vm) {own : String} {index : Nat} {y : MethodName} (hown : s.vm.findClass own = some m.cls) {bytes : ByteArray} {maxL : Nat} {ret : Option FieldType} {rm : Room}
    (w1 : (Cond.methodLink own index y).before a0 Z = true) (w2 : (Cond.static y).before a0 Z = true) (w3 : (Cond.code y bytes maxL ret).before a0 Z = true) (w4 : (Cond.initialized y.cls).before a0 Z = true) (hy : y.cls ≠ "java/lang/invoke/MethodHandle" ∧ y.cls ≠ "java/lang/invoke/VarHandle")
    (eT : T.heap = h) {argsL rest : List Value} {as' : Array Value} {Q : Option Value → Heap → List Loc → Prop} {W : Nat} (hM : Does l y bytes maxL ret [] rm Z as' h Q) (has : argsL.toArray = as') (hf : rm.frames + 1 ≤ R.frames) (hl : W + (maxL + 11) + rm.locals ≤ R.locals)
    (hcc : cells + rm.cells ≤ R.cells) (hss : slots + rm.slots ≤ R.slots) {g : JFrame} (hg : g.method = m) (hsize : g.locals.size = c.maxLocals) (hlen : ∀ sig, parseMethodDescriptor y.desc = some sig → argsL.length = sig.parameters.length) (hst : g.stack = argsL.reverse ++ rest) (hW : 2 * g.monitorRoom + (rest.map fun v => v.category).sum ≤ W) (hd : decode c.code g.pc = .ok (.invokestatic index, 3)) :
    ∃ v T' L, Stand p l e R s m args below meth c T' (locs ++ L) (cells + rm.cells) (slots + rm.slots) ∧ Q v T'.heap L ∧ ∀ target, Steps p.tables e below (T'.setTop { g with pc := g.pc + 3, stack := v.toList ++ rest }) target → Steps p.tables e below (T.setTop g) target := by
  obtain ⟨v, vm1, ⟨T', L', k', n'⟩, -, X', ⟨L, hQ, e1, e2, e3⟩, st⟩ := Jvm.LawKit.callS X hx (y := y) hown (mvT hZ w1) (mvT hZ w2) (mvT hZ w4) (mvT hZ w3) hy (backOf (W := W) hM hZ w3 w4 hf hl) hg hsize hlen hst hW hd (fun _ _ => ⟨has, eT, hcc, hss⟩)
  dsimp only [Pt.U, Pt.locs, Pt.cells, Pt.slots] at X' e1 e2 e3 st hQ
  subst e1 e2 e3
  exact ⟨v, T', L, X', hQ, st⟩
end Own
end Jvm.RoadKit
namespace Jvm.Free.XS
open Sem ClassFile Op Lib
theorem lcmpS {tb : Tables} [Ours tb] {e : Env} {below : List Frame} {T target : State} {m : MethodId} {c : Code} {g : JFrame} (h : At T m c below) (hx : tb.exec = Jvm.exec) (hg : g.method = m) {x y : Int64} {v : Int32} {rest : List Value} (hd : decode c.code g.pc = .ok (.lcmp, 1)) (hs : g.stack = .long y :: .long x :: rest) (hv : Jvm.RoadKit.lcmpW x y = v)
    (hr : Steps tb e below (T.setTop { g with pc := g.pc + 1, stack := .int v :: rest }) target) : Steps tb e below (T.setTop g) target := by
  subst hv
  exact lcmp h hx hg hd hs hr
end Jvm.Free.XS
namespace Jvm.RoadKit
open Sem ClassFile Op Lib Jvm.Stand Jvm.Free Jvm.LawKit Jvm.FP Jvm.Free.Fl
section OwnD
theorem own_cmp (i j : Int) : compare i j = if i < j then Ordering.lt else if i = j then Ordering.eq else Ordering.gt := rfl
theorem cmpL_lt {x y : Int64} (h : x < y) : lcmpW x y = -1 := by
  have h' := Int64.lt_iff_toInt_lt.mp h
  show (if y < x then (1 : Int32) else if x = y then 0 else -1) = -1
  rw [if_neg (fun q => by have := Int64.lt_iff_toInt_lt.mp q; omega), if_neg (fun q => by rw [q] at h'; omega)]
theorem cmpL_eq {x y : Int64} (h : x = y) : lcmpW x y = 0 := by
  subst h
  show (if x < x then (1 : Int32) else if x = x then 0 else -1) = 0
  rw [if_neg (fun q => by have := Int64.lt_iff_toInt_lt.mp q; omega), if_pos rfl]
theorem cmpL_gt {x y : Int64} (h : y < x) : lcmpW x y = 1 := by
  show (if y < x then (1 : Int32) else if x = y then 0 else -1) = 1
  rw [if_pos h]
theorem DInt_nn {i : Int} {x : UInt64} (h : Core.DInt i x) : NoNaN64 x := val64_no.mpr (Core.DInt_ne_nan h)
theorem DInt_fin {i : Int} {x : UInt64} (h : Core.DInt i x) : Fin64 x := fin64_core.mpr (by
  have h' : Core.Whole i (Core.val64 x) := h
  cases q : Core.val64 x with
  | nan => rw [q] at h'; exact h'.elim
  | inf s => rw [q] at h'; exact h'.elim
  | fin s c e => exact ⟨s, c, e, q⟩)
theorem cmpD_lt {i j : Int} {x y : UInt64} (hx : Core.DInt i x) (hy : Core.DInt j y) (h : i < j) (o : CmpOp) : cmpValue (FP.dcmp x y) o = -1 := by
  rw [show FP.dcmp x y = _ from Core.dcmp_int hx hy, own_cmp, if_pos h]; rfl
theorem cmpD_eq {i j : Int} {x y : UInt64} (hx : Core.DInt i x) (hy : Core.DInt j y) (h : i = j) (o : CmpOp) : cmpValue (FP.dcmp x y) o = 0 := by
  rw [show FP.dcmp x y = _ from Core.dcmp_int hx hy, own_cmp, if_neg (by omega), if_pos h]; rfl
theorem cmpD_gt {i j : Int} {x y : UInt64} (hx : Core.DInt i x) (hy : Core.DInt j y) (h : j < i) (o : CmpOp) : cmpValue (FP.dcmp x y) o = 1 := by
  rw [show FP.dcmp x y = _ from Core.dcmp_int hx hy, own_cmp, if_neg (by omega), if_neg (by omega)]; rfl
theorem DInt_zero : Core.DInt 0 0 := by
  have h := Core.l2d_int (a := 0) (by decide)
  rw [show Core.l2d 0 = 0 from l2d_zero] at h
  exact h
theorem DInt_i2d {x : Int32} {d : UInt64} (q : FP.i2d x = d) : Core.DInt x.toInt d := q ▸ Core.i2d_int x
theorem DInt_l2d {x : Int64} {d : UInt64} (q : FP.l2d x = d) (h : x.toInt.natAbs ≤ 2 ^ 53) : Core.DInt x.toInt d := q ▸ Core.l2d_int h
theorem DInt_add {i j : Int} {a b d : UInt64} (q : FP.dadd a b = d) (ha : Core.DInt i a) (hb : Core.DInt j b) (h : (i + j).natAbs ≤ 2 ^ 53) : Core.DInt (i + j) d := q ▸ Core.dadd_int ha hb h
theorem DInt_sub {i j : Int} {a b d : UInt64} (q : FP.dsub a b = d) (ha : Core.DInt i a) (hb : Core.DInt j b) (h : (i - j).natAbs ≤ 2 ^ 53) : Core.DInt (i - j) d := q ▸ Core.dsub_int ha hb h
theorem DInt_mul {i j : Int} {a b d : UInt64} (q : FP.dmul a b = d) (ha : Core.DInt i a) (hb : Core.DInt j b) (h : (i * j).natAbs ≤ 2 ^ 53) : Core.DInt (i * j) d := q ▸ Core.dmul_int ha hb h
end OwnD
/-! an array by the list of its values -/
def Sar (Z : State) (h : Heap) (a : Addr) (ty : FieldType) (vs : List Value) : Prop := ∃ c : Cell, Arr Z h a c ty ∧ c.slots = vs.toArray
section OwnA
variable {p : Program} {l : Launch} {e : Env} {R : Room} {s : State} {m : MethodId} {args : Array Value} {below : List Frame} {meth : Method} {c : Code} {T : State} {locs : List Loc} {cells slots : Nat} {Z : State} {a0 : Array Value} {h h' : Heap} {a b : Addr} {ty : FieldType} {vs : List Value} {sl : Nat} {v : Value} {ws : List Addr}
theorem Sar.lt (F : Sar Z h a ty vs) : a < h.size := by obtain ⟨c, A, -⟩ := F; exact A.lt
theorem Sar.ext (F : Sar Z h a ty vs) (E : Ext h h') : Sar Z h' a ty vs := by obtain ⟨c, A, r⟩ := F; exact ⟨c, A.ext E, r⟩
theorem Sar.other (F : Sar Z h b ty vs) (W : Wr h h' a sl v) (q : b ≠ a) : Sar Z h' b ty vs := by obtain ⟨c, A, r⟩ := F; exact ⟨c, A.other W q, r⟩
theorem Sar.keep (F : Sar Z h a ty vs) (K : Keep h h' ws) (q : a ∉ ws) : Sar Z h' a ty vs := by obtain ⟨c, A, r⟩ := F; exact ⟨c, ⟨K.2.1 a c A.1 q, A.2⟩, r⟩
theorem Sar.new {k : ClassId} {z : Int32} {n : Nat} (A : Arr Z h a (newA k ty z) ty) (hn : z.toNatClampNeg = n) : Sar Z h a ty (List.replicate n (defaultValue ty)) := ⟨_, A, by subst hn; show Array.replicate _ _ = _; simp⟩
theorem Sar.in {cl : Cell} {j : Int32} {i : Nat} (S : cl.slots = vs.toArray) (hj : j.toInt = i) (hi : i < vs.length) : ¬ (j < 0 ∨ cl.slots.size ≤ j.toNatClampNeg) := by
  rw [S]
  have q : j.toNatClampNeg = i := by show j.toInt.toNat = i; omega
  have r : ¬ j < 0 := fun z => by have z' := Int32.lt_iff_toInt_lt.mp z; rw [hj] at z'; simp at z'; omega
  rw [q]
  simp only [List.size_toArray]
  intro z
  rcases z with z | z
  · exact r z
  · omega
theorem Sar.nat {j : Int32} {i : Nat} (hj : j.toInt = i) : j.toNatClampNeg = i := by show j.toInt.toNat = i; omega
theorem stDS (X : Stand p l e R s m args below meth c T locs cells slots) (hx : p.tables.exec = Jvm.exec) (hZ : Z.Warmed39 s.vm) (eT : T.heap = h) (V : Sar Z h a .double vs) {j : Int32} {x : UInt64} (i : Nat) (hj : j.toInt = i) (hi : i < vs.length) {g : JFrame} (hg : g.method = m) {rest : List Value} (hs : g.stack = .double x :: .int j :: .ref a :: rest) (hd : decode c.code g.pc = .ok (.dastore, 1)) :
    ∃ T' h', Stand p l e R s m args below meth c T' (locs ++ [⟨a, i⟩]) cells slots ∧ T'.heap = h' ∧ Wr h h' a i (.double x) ∧ Sar Z h' a .double (vs.set i (.double x)) ∧ ∀ target, Steps p.tables e below (T'.setTop { g with pc := g.pc + 1, stack := rest }) target → Steps p.tables e below (T.setTop g) target := by
  obtain ⟨cl, A, S⟩ := V
  obtain ⟨T', h', X', e', W, st⟩ := stD X hx hZ eT A (Sar.in S hj hi) hg hs hd
  rw [Sar.nat hj] at X' W
  exact ⟨T', h', X', e', W, ⟨_, A.same W, by show cl.slots.setIfInBounds _ _ = _; rw [S]; simp⟩, st⟩
theorem stIS (X : Stand p l e R s m args below meth c T locs cells slots) (hx : p.tables.exec = Jvm.exec) (hZ : Z.Warmed39 s.vm) (eT : T.heap = h) (V : Sar Z h a .int vs) {j : Int32} {x : Int32} (i : Nat) (hj : j.toInt = i) (hi : i < vs.length) {g : JFrame} (hg : g.method = m) {rest : List Value} (hs : g.stack = .int x :: .int j :: .ref a :: rest) (hd : decode c.code g.pc = .ok (.iastore, 1)) :
    ∃ T' h', Stand p l e R s m args below meth c T' (locs ++ [⟨a, i⟩]) cells slots ∧ T'.heap = h' ∧ Wr h h' a i (.int x) ∧ Sar Z h' a .int (vs.set i (.int x)) ∧ ∀ target, Steps p.tables e below (T'.setTop { g with pc := g.pc + 1, stack := rest }) target → Steps p.tables e below (T.setTop g) target := by
  obtain ⟨cl, A, S⟩ := V
  obtain ⟨T', h', X', e', W, st⟩ := stI X hx hZ eT A (Sar.in S hj hi) hg hs hd
  rw [Sar.nat hj] at X' W
  exact ⟨T', h', X', e', W, ⟨_, A.same W, by show cl.slots.setIfInBounds _ _ = _; rw [S]; simp⟩, st⟩
theorem ldDS (X : Stand p l e R s m args below meth c T locs cells slots) (hx : p.tables.exec = Jvm.exec) (hZ : Z.Warmed39 s.vm) (eT : T.heap = h) (V : Sar Z h a .double vs) {j : Int32} (i : Nat) (hj : j.toInt = i) (hv : vs[i]? = some v) {g : JFrame} (hg : g.method = m) {rest : List Value} (hs : g.stack = .int j :: .ref a :: rest) (hd : decode c.code g.pc = .ok (.daload, 1)) :
    ∀ target, Steps p.tables e below (T.setTop { g with pc := g.pc + 1, stack := v :: rest }) target → Steps p.tables e below (T.setTop g) target := by
  obtain ⟨cl, A, S⟩ := V
  have hi : i < vs.length := (List.getElem?_eq_some_iff.mp hv).1
  exact X.daload hx (by rw [eT]; exact A.1) (State.isArrayOf_alike hZ.alike A.2.1) A.2.2 (Sar.in S hj hi) (by rw [S, Sar.nat hj]; simpa using hv) hg hs hd
theorem ldIS (X : Stand p l e R s m args below meth c T locs cells slots) (hx : p.tables.exec = Jvm.exec) (hZ : Z.Warmed39 s.vm) (eT : T.heap = h) (V : Sar Z h a .int vs) {j : Int32} (i : Nat) (hj : j.toInt = i) (hv : vs[i]? = some v) {g : JFrame} (hg : g.method = m) {rest : List Value} (hs : g.stack = .int j :: .ref a :: rest) (hd : decode c.code g.pc = .ok (.iaload, 1)) :
    ∀ target, Steps p.tables e below (T.setTop { g with pc := g.pc + 1, stack := v :: rest }) target → Steps p.tables e below (T.setTop g) target := by
  obtain ⟨cl, A, S⟩ := V
  have hi : i < vs.length := (List.getElem?_eq_some_iff.mp hv).1
  exact X.iaload hx (by rw [eT]; exact A.1) (State.isArrayOf_alike hZ.alike A.2.1) A.2.2 (Sar.in S hj hi) (by rw [S, Sar.nat hj]; simpa using hv) hg hs hd
theorem lenS (X : Stand p l e R s m args below meth c T locs cells slots) (hx : p.tables.exec = Jvm.exec) (hZ : Z.Warmed39 s.vm) (eT : T.heap = h) (V : Sar Z h a ty vs) {n : Int32} (hn : vs.length.toInt32 = n) {g : JFrame} (hg : g.method = m) {rest : List Value} (hs : g.stack = .ref a :: rest) (hd : decode c.code g.pc = .ok (.arraylength, 1)) :
    ∀ target, Steps p.tables e below (T.setTop { g with pc := g.pc + 1, stack := .int n :: rest }) target → Steps p.tables e below (T.setTop g) target := by
  obtain ⟨cl, A, S⟩ := V
  intro target k
  refine X.arraylength hx (by rw [eT]; exact A.1) (State.isArrayOf_alike hZ.alike A.2.1) hg hs hd target ?_
  rw [S]
  simp only [List.size_toArray, hn]
  exact k
end OwnA
end Jvm.RoadKit
namespace Jvm.RoadKit
open Jvm.FP Jvm.Free.Fl
theorem DInt_nz {i : Int} {x : UInt64} (h : Core.DInt i x) (hi : i ≠ 0) : Nz64 x := nz64_core.mpr fun z => by
  obtain ⟨s, q, e⟩ := z
  have h' : Core.Whole i (Core.val64 x) := h
  rw [e] at h'
  exact hi ((Core.whole_zero h').mp rfl)
theorem DInt_one : Core.DInt 1 4607182418800017408 := Core.dint_one
end Jvm.RoadKit
namespace Jvm.RoadKit
open Jvm.FP Jvm.Free.Fl Op
theorem cmpD_le {i j : Int} {x y : UInt64} (hx : Core.DInt i x) (hy : Core.DInt j y) (h : i ≤ j) (o : ClassFile.CmpOp) : ∃ v : Int32, cmpValue (FP.dcmp x y) o = v ∧ ¬ (0 : Int32) < v := by
  by_cases q : i < j
  · exact ⟨-1, cmpD_lt hx hy q o, by decide⟩
  · exact ⟨0, cmpD_eq hx hy (by omega) o, by decide⟩
theorem cmpD_ge {i j : Int} {x y : UInt64} (hx : Core.DInt i x) (hy : Core.DInt j y) (h : j ≤ i) (o : ClassFile.CmpOp) : ∃ v : Int32, cmpValue (FP.dcmp x y) o = v ∧ ¬ v < (0 : Int32) := by
  by_cases q : j < i
  · exact ⟨1, cmpD_gt hx hy q o, by decide⟩
  · exact ⟨0, cmpD_eq hx hy (by omega) o, by decide⟩
end Jvm.RoadKit
namespace Jvm.RoadKit
open Jvm.Free
theorem cmpL_le {x y : Int64} (h : ¬ y.toInt < x.toInt) : ∃ v : Int32, lcmpW x y = v ∧ ¬ (0 : Int32) < v := by
  by_cases q : x.toInt < y.toInt
  · exact ⟨-1, cmpL_lt (Int64.lt_iff_toInt_lt.mpr q), by decide⟩
  · exact ⟨0, cmpL_eq (Int64.toInt_inj.mp (by omega)), by decide⟩
theorem cmpL_gtI {x y : Int64} (h : y.toInt < x.toInt) : lcmpW x y = 1 := cmpL_gt (Int64.lt_iff_toInt_lt.mpr h)
end Jvm.RoadKit
namespace Jvm.RoadKit
open Jvm.Free
theorem cmpL_ge {x y : Int64} (h : ¬ x.toInt < y.toInt) : ∃ v : Int32, lcmpW x y = v ∧ ¬ v < (0 : Int32) := by
  by_cases q : y.toInt < x.toInt
  · exact ⟨1, cmpL_gtI q, by decide⟩
  · exact ⟨0, cmpL_eq (Int64.toInt_inj.mp (by omega)), by decide⟩
end Jvm.RoadKit
namespace Jvm.RoadKit
section OwnN
theorem own_mb {i j : Int} {A B : Nat} (hi : i.natAbs ≤ A) (hj : j.natAbs ≤ B) : (i * j).natAbs ≤ A * B := by rw [Int.natAbs_mul]; exact Nat.mul_le_mul hi hj
theorem own_mb2 {i j : Int} {A B : Nat} (hi : -(A : Int) ≤ i ∧ i ≤ A) (hj : -(B : Int) ≤ j ∧ j ≤ B) : -((A * B : Nat) : Int) ≤ i * j ∧ i * j ≤ ((A * B : Nat) : Int) := by
  have h := own_mb (i := i) (j := j) (A := A) (B := B) (by omega) (by omega)
  omega
theorem own_ladd {a b : Int64} (h1 : -9223372036854775808 ≤ a.toInt + b.toInt) (h2 : a.toInt + b.toInt < 9223372036854775808) : (a + b).toInt = a.toInt + b.toInt := by
  have := c_ladd a b; have := rng64 (a + b); omega
theorem own_lsub {a b : Int64} (h1 : -9223372036854775808 ≤ a.toInt - b.toInt) (h2 : a.toInt - b.toInt < 9223372036854775808) : (a - b).toInt = a.toInt - b.toInt := by
  have := c_lsub a b; have := rng64 (a - b); omega
theorem own_lmul {a b : Int64} (h : (a.toInt * b.toInt).natAbs < 9223372036854775808) : (a * b).toInt = a.toInt * b.toInt := by
  have := c_lmul a b; have := rng64 (a * b); omega
theorem own_short (x : Int32) : (x.toInt16.toInt32).toInt.natAbs ≤ 32768 := by
  have := c_i2s x; omega
theorem own_and3 (x : Int32) : (x &&& 3) = 0 ∨ (x &&& 3) = 1 ∨ (x &&& 3) = 2 ∨ (x &&& 3) = 3 := by
  have h := c_and x 3 (by decide)
  have e : (3 : Int32).toInt = 3 := by decide
  simp only [← Int32.toInt_inj]
  rw [show (0 : Int32).toInt = 0 from by decide, show (1 : Int32).toInt = 1 from by decide, show (2 : Int32).toInt = 2 from by decide, e]
  omega
end OwnN
end Jvm.RoadKit
namespace Jvm.Pilot.@@N@@
open Jvm Jvm.ClassFile Sem Op Lib Jvm.Free Jvm.Stand Jvm.LawKit Jvm.RoadKit Jvm.FP Jvm.Free.Fl Bundle Jvm.Pilot.@@N@@.Jvm.D
theorem d1_0 : decode prog_37_method_2_code 0 = .ok (.dconst 0, 1) := by decide +kernel
theorem d1_1 : decode prog_37_method_2_code 1 = .ok (.dstore_n 2, 1) := by decide +kernel
theorem d1_2 : decode prog_37_method_2_code 2 = .ok (.iconst 0, 1) := by decide +kernel
theorem d1_3 : decode prog_37_method_2_code 3 = .ok (.istore 4, 2) := by decide +kernel
theorem d1_5 : decode prog_37_method_2_code 5 = .ok (.iload 4, 2) := by decide +kernel
theorem d1_7 : decode prog_37_method_2_code 7 = .ok (.aload_n 0, 1) := by decide +kernel
theorem d1_8 : decode prog_37_method_2_code 8 = .ok (.arraylength, 1) := by decide +kernel
theorem d1_9 : decode prog_37_method_2_code 9 = .ok (.if_icmp .ge 21, 3) := by decide +kernel
theorem d1_12 : decode prog_37_method_2_code 12 = .ok (.dload_n 2, 1) := by decide +kernel
theorem d1_13 : decode prog_37_method_2_code 13 = .ok (.aload_n 0, 1) := by decide +kernel
theorem d1_14 : decode prog_37_method_2_code 14 = .ok (.iload 4, 2) := by decide +kernel
theorem d1_16 : decode prog_37_method_2_code 16 = .ok (.daload, 1) := by decide +kernel
theorem d1_17 : decode prog_37_method_2_code 17 = .ok (.aload_n 1, 1) := by decide +kernel
theorem d1_18 : decode prog_37_method_2_code 18 = .ok (.iload 4, 2) := by decide +kernel
theorem d1_20 : decode prog_37_method_2_code 20 = .ok (.daload, 1) := by decide +kernel
theorem d1_21 : decode prog_37_method_2_code 21 = .ok (.dmul, 1) := by decide +kernel
theorem d1_22 : decode prog_37_method_2_code 22 = .ok (.dadd, 1) := by decide +kernel
theorem d1_23 : decode prog_37_method_2_code 23 = .ok (.dstore_n 2, 1) := by decide +kernel
theorem d1_24 : decode prog_37_method_2_code 24 = .ok (.iinc 4 1, 3) := by decide +kernel
theorem d1_27 : decode prog_37_method_2_code 27 = .ok (.goto (-22), 3) := by decide +kernel
theorem d1_30 : decode prog_37_method_2_code 30 = .ok (.dload_n 2, 1) := by decide +kernel
theorem d1_31 : decode prog_37_method_2_code 31 = .ok (.dreturn, 1) := by decide +kernel
theorem pn0 : plainName "com/example/adhoq/adhoq/Vectors" = true := by first | (simp [plainName, overriddenIn]; done) | decide +kernel
theorem pd0 : parseMethodDescriptor "([D[D)D" = some ⟨[(.array .double), (.array .double)], some .double⟩ := by decide +kernel
theorem ef_rm_dot0 (m : MethodId) (x0 : Addr) (x1 : Addr) : entryFrame m #[(.ref x0), (.ref x1)] 5 = mkF m 0 #[.val (.ref x0), .val (.ref x1), .unset, .unset, .unset] [] := by first | (simp [entryFrame, mkF, argsToLocals, Value.category, maxLocals]; done) | rfl
set_option maxRecDepth 65536 in
set_option maxHeartbeats 40000000 in
theorem rm_dot0 (l : Launch) (Z : State) (a0 : Array Value) (hw : ∀ d ∈ tables_1, d.before a0 Z = true) (a b : Addr)  (h0 : Heap) (n0 : Nat) (Z0 : n0 ≤ h0.size) (VA : Sar Z h0 a .double []) (VB : Sar Z h0 b .double [])  :
    Does l (⟨"com/example/adhoq/adhoq/Vectors", "dot", "([D[D)D"⟩ : MethodName) prog_37_method_2_code 5 (some .double) [] ({ frames := 0, cells := 0, slots := 0, locals := 0 } : Room) Z #[(.ref a), (.ref b)] h0 (fun v h L => (∃ d, v = some (.double d) ∧ Core.DInt 0 d) ∧ Fr n0 L ∧ h = h0) := by
  refine Does.of (plainFor_of_name pn0) ?_
  intro p e s m below meth c s₁ hx hby hml hret hlk hZ hown hnm X0 e0
  have N0 := Fr.nil n0
  refine Goes.cast (g' := mkF m 0 #[.val (.ref a), .val (.ref b), .unset, .unset, .unset] []) (ef_rm_dot0 m a b) ?_
  refine Goes.by (T' := s₁) (g' := (mkF m 1 #[.val (.ref a), .val (.ref b), .unset, .unset, .unset] [(.double (0 : UInt64))])) (fun _ k => XS.dconst0 X0.here hx rfl (hb hby d1_0) rfl k) ?_
  refine Goes.by (T' := s₁) (g' := (mkF m 2 #[.val (.ref a), .val (.ref b), .val (.double (0 : UInt64)), .second, .unset] [])) (fun _ k => XS.dstoreN X0.here hx rfl (hb hby d1_1) rfl (l' := #[.val (.ref a), .val (.ref b), .val (.double (0 : UInt64)), .second, .unset]) rfl k) ?_
  refine Goes.by (T' := s₁) (g' := (mkF m 3 #[.val (.ref a), .val (.ref b), .val (.double (0 : UInt64)), .second, .unset] [(.int (0 : Int32))])) (fun _ k => XS.iconst X0.here hx rfl (hb hby d1_2)  k) ?_
  refine Goes.by (T' := s₁) (g' := (mkF m 5 #[.val (.ref a), .val (.ref b), .val (.double (0 : UInt64)), .second, .val (.int (0 : Int32))] [])) (fun _ k => XS.istore X0.here hx rfl (hb hby d1_3) rfl (l' := #[.val (.ref a), .val (.ref b), .val (.double (0 : UInt64)), .second, .val (.int (0 : Int32))]) rfl k) ?_
  refine Goes.by (T' := s₁) (g' := (mkF m 7 #[.val (.ref a), .val (.ref b), .val (.double (0 : UInt64)), .second, .val (.int (0 : Int32))] [(.int (0 : Int32))])) (fun _ k => XS.iload X0.here hx rfl (hb hby d1_5) rfl k) ?_
  refine Goes.by (T' := s₁) (g' := (mkF m 8 #[.val (.ref a), .val (.ref b), .val (.double (0 : UInt64)), .second, .val (.int (0 : Int32))] [(.ref a), (.int (0 : Int32))])) (fun _ k => XS.aloadN X0.here hx rfl (hb hby d1_7) rfl rfl k) ?_
  refine Goes.by (T' := s₁) (g' := (mkF m 9 #[.val (.ref a), .val (.ref b), .val (.double (0 : UInt64)), .second, .val (.int (0 : Int32))] [(.int (0 : Int32)), (.int (0 : Int32))])) (lenS X0 hx hZ e0 VA (n := (0 : Int32)) rfl (g := (mkF m 8 #[.val (.ref a), .val (.ref b), .val (.double (0 : UInt64)), .second, .val (.int (0 : Int32))] [(.ref a), (.int (0 : Int32))])) rfl rfl (hb hby d1_8)) ?_
  refine Goes.by (T' := s₁) (g' := (mkF m 30 #[.val (.ref a), .val (.ref b), .val (.double (0 : UInt64)), .second, .val (.int (0 : Int32))] [])) (fun _ k => XS.icmpYes X0.here hx rfl (pc0 := 9) (pc' := 30) rfl (hb hby d1_9) rfl (by decide) (by decide) (by decide) k) ?_
  refine Goes.by (T' := s₁) (g' := (mkF m 31 #[.val (.ref a), .val (.ref b), .val (.double (0 : UInt64)), .second, .val (.int (0 : Int32))] [(.double (0 : UInt64))])) (fun _ k => XS.dloadN X0.here hx rfl (hb hby d1_30) rfl k) ?_
  exact outD X0 hx hlk hret (hb hby d1_31) (by rw [e0]; exact ⟨⟨_, rfl, by simpa using DInt_zero⟩, N0, rfl⟩) (by decide) (by decide)
theorem ef_rm_dot1 (m : MethodId) (x0 : Addr) (x1 : Addr) : entryFrame m #[(.ref x0), (.ref x1)] 5 = mkF m 0 #[.val (.ref x0), .val (.ref x1), .unset, .unset, .unset] [] := by first | (simp [entryFrame, mkF, argsToLocals, Value.category, maxLocals]; done) | rfl
set_option maxRecDepth 65536 in
set_option maxHeartbeats 40000000 in
theorem rm_dot1 (l : Launch) (Z : State) (a0 : Array Value) (hw : ∀ d ∈ tables_1, d.before a0 Z = true) (a b : Addr) (u0 v0 : UInt64) (i0 j0 : Int)  (h0 : Heap) (n0 : Nat) (Z0 : n0 ≤ h0.size) (VA : Sar Z h0 a .double [(.double u0)]) (VB : Sar Z h0 b .double [(.double v0)]) (I0 : Core.DInt i0 u0) (J0 : Core.DInt j0 v0) (bi0 : i0.natAbs ≤ 32768) (bj0 : j0.natAbs ≤ 32768)  :
    Does l (⟨"com/example/adhoq/adhoq/Vectors", "dot", "([D[D)D"⟩ : MethodName) prog_37_method_2_code 5 (some .double) [] ({ frames := 0, cells := 0, slots := 0, locals := 0 } : Room) Z #[(.ref a), (.ref b)] h0 (fun v h L => (∃ d, v = some (.double d) ∧ Core.DInt (0 + i0 * j0) d) ∧ Fr n0 L ∧ h = h0) := by
  refine Does.of (plainFor_of_name pn0) ?_
  intro p e s m below meth c s₁ hx hby hml hret hlk hZ hown hnm X0 e0
  have N0 := Fr.nil n0
  refine Goes.cast (g' := mkF m 0 #[.val (.ref a), .val (.ref b), .unset, .unset, .unset] []) (ef_rm_dot1 m a b) ?_
  refine Goes.by (T' := s₁) (g' := (mkF m 1 #[.val (.ref a), .val (.ref b), .unset, .unset, .unset] [(.double (0 : UInt64))])) (fun _ k => XS.dconst0 X0.here hx rfl (hb hby d1_0) rfl k) ?_
  refine Goes.by (T' := s₁) (g' := (mkF m 2 #[.val (.ref a), .val (.ref b), .val (.double (0 : UInt64)), .second, .unset] [])) (fun _ k => XS.dstoreN X0.here hx rfl (hb hby d1_1) rfl (l' := #[.val (.ref a), .val (.ref b), .val (.double (0 : UInt64)), .second, .unset]) rfl k) ?_
  refine Goes.by (T' := s₁) (g' := (mkF m 3 #[.val (.ref a), .val (.ref b), .val (.double (0 : UInt64)), .second, .unset] [(.int (0 : Int32))])) (fun _ k => XS.iconst X0.here hx rfl (hb hby d1_2)  k) ?_
  refine Goes.by (T' := s₁) (g' := (mkF m 5 #[.val (.ref a), .val (.ref b), .val (.double (0 : UInt64)), .second, .val (.int (0 : Int32))] [])) (fun _ k => XS.istore X0.here hx rfl (hb hby d1_3) rfl (l' := #[.val (.ref a), .val (.ref b), .val (.double (0 : UInt64)), .second, .val (.int (0 : Int32))]) rfl k) ?_
  refine Goes.by (T' := s₁) (g' := (mkF m 7 #[.val (.ref a), .val (.ref b), .val (.double (0 : UInt64)), .second, .val (.int (0 : Int32))] [(.int (0 : Int32))])) (fun _ k => XS.iload X0.here hx rfl (hb hby d1_5) rfl k) ?_
  refine Goes.by (T' := s₁) (g' := (mkF m 8 #[.val (.ref a), .val (.ref b), .val (.double (0 : UInt64)), .second, .val (.int (0 : Int32))] [(.ref a), (.int (0 : Int32))])) (fun _ k => XS.aloadN X0.here hx rfl (hb hby d1_7) rfl rfl k) ?_
  refine Goes.by (T' := s₁) (g' := (mkF m 9 #[.val (.ref a), .val (.ref b), .val (.double (0 : UInt64)), .second, .val (.int (0 : Int32))] [(.int (1 : Int32)), (.int (0 : Int32))])) (lenS X0 hx hZ e0 VA (n := (1 : Int32)) rfl (g := (mkF m 8 #[.val (.ref a), .val (.ref b), .val (.double (0 : UInt64)), .second, .val (.int (0 : Int32))] [(.ref a), (.int (0 : Int32))])) rfl rfl (hb hby d1_8)) ?_
  refine Goes.by (T' := s₁) (g' := (mkF m 12 #[.val (.ref a), .val (.ref b), .val (.double (0 : UInt64)), .second, .val (.int (0 : Int32))] [])) (fun _ k => XS.icmpNo X0.here hx rfl (hb hby d1_9) rfl (by decide) k) ?_
  refine Goes.by (T' := s₁) (g' := (mkF m 13 #[.val (.ref a), .val (.ref b), .val (.double (0 : UInt64)), .second, .val (.int (0 : Int32))] [(.double (0 : UInt64))])) (fun _ k => XS.dloadN X0.here hx rfl (hb hby d1_12) rfl k) ?_
  refine Goes.by (T' := s₁) (g' := (mkF m 14 #[.val (.ref a), .val (.ref b), .val (.double (0 : UInt64)), .second, .val (.int (0 : Int32))] [(.ref a), (.double (0 : UInt64))])) (fun _ k => XS.aloadN X0.here hx rfl (hb hby d1_13) rfl rfl k) ?_
  refine Goes.by (T' := s₁) (g' := (mkF m 16 #[.val (.ref a), .val (.ref b), .val (.double (0 : UInt64)), .second, .val (.int (0 : Int32))] [(.int (0 : Int32)), (.ref a), (.double (0 : UInt64))])) (fun _ k => XS.iload X0.here hx rfl (hb hby d1_14) rfl k) ?_
  refine Goes.by (T' := s₁) (g' := (mkF m 17 #[.val (.ref a), .val (.ref b), .val (.double (0 : UInt64)), .second, .val (.int (0 : Int32))] [(.double u0), (.double (0 : UInt64))])) (ldDS X0 hx hZ e0 VA (v := (.double u0)) (j := (0 : Int32)) 0 (by decide) rfl (g := (mkF m 16 #[.val (.ref a), .val (.ref b), .val (.double (0 : UInt64)), .second, .val (.int (0 : Int32))] [(.int (0 : Int32)), (.ref a), (.double (0 : UInt64))])) rfl rfl (hb hby d1_16)) ?_
  refine Goes.by (T' := s₁) (g' := (mkF m 18 #[.val (.ref a), .val (.ref b), .val (.double (0 : UInt64)), .second, .val (.int (0 : Int32))] [(.ref b), (.double u0), (.double (0 : UInt64))])) (fun _ k => XS.aloadN X0.here hx rfl (hb hby d1_17) rfl rfl k) ?_
  refine Goes.by (T' := s₁) (g' := (mkF m 20 #[.val (.ref a), .val (.ref b), .val (.double (0 : UInt64)), .second, .val (.int (0 : Int32))] [(.int (0 : Int32)), (.ref b), (.double u0), (.double (0 : UInt64))])) (fun _ k => XS.iload X0.here hx rfl (hb hby d1_18) rfl k) ?_
  refine Goes.by (T' := s₁) (g' := (mkF m 21 #[.val (.ref a), .val (.ref b), .val (.double (0 : UInt64)), .second, .val (.int (0 : Int32))] [(.double v0), (.double u0), (.double (0 : UInt64))])) (ldDS X0 hx hZ e0 VB (v := (.double v0)) (j := (0 : Int32)) 0 (by decide) rfl (g := (mkF m 20 #[.val (.ref a), .val (.ref b), .val (.double (0 : UInt64)), .second, .val (.int (0 : Int32))] [(.int (0 : Int32)), (.ref b), (.double u0), (.double (0 : UInt64))])) rfl rfl (hb hby d1_20)) ?_
  obtain ⟨p0, hp0⟩ : ∃ z : Int, z = i0 * j0 := ⟨_, rfl⟩
  have bp0 : p0.natAbs ≤ 32768 * 32768 := by rw [hp0]; exact own_mb bi0 bj0
  obtain ⟨m0, q_m0⟩ : ∃ zz, FP.dmul u0 v0 = zz := ⟨_, rfl⟩
  have DM0 : Core.DInt p0 m0 := by rw [hp0]; exact DInt_mul q_m0 I0 J0 (by rw [← hp0]; omega)
  refine Goes.by (T' := s₁) (g' := (mkF m 22 #[.val (.ref a), .val (.ref b), .val (.double (0 : UInt64)), .second, .val (.int (0 : Int32))] [(.double m0), (.double (0 : UInt64))])) (fun _ k => XS.dmulS X0.here hx rfl (hb hby d1_21) rfl (by rw [q_m0]; exact DInt_nn DM0) q_m0 k) ?_
  obtain ⟨s0, q_s0⟩ : ∃ zz, FP.dadd (0 : UInt64) m0 = zz := ⟨_, rfl⟩
  have DS0 := DInt_add q_s0 DInt_zero DM0 (by omega)
  refine Goes.by (T' := s₁) (g' := (mkF m 23 #[.val (.ref a), .val (.ref b), .val (.double (0 : UInt64)), .second, .val (.int (0 : Int32))] [(.double s0)])) (fun _ k => XS.daddS X0.here hx rfl (hb hby d1_22) rfl (by rw [q_s0]; exact DInt_nn DS0) q_s0 k) ?_
  refine Goes.by (T' := s₁) (g' := (mkF m 24 #[.val (.ref a), .val (.ref b), .val (.double s0), .second, .val (.int (0 : Int32))] [])) (fun _ k => XS.dstoreN X0.here hx rfl (hb hby d1_23) rfl (l' := #[.val (.ref a), .val (.ref b), .val (.double s0), .second, .val (.int (0 : Int32))]) rfl k) ?_
  refine Goes.by (T' := s₁) (g' := (mkF m 27 #[.val (.ref a), .val (.ref b), .val (.double s0), .second, .val (.int (1 : Int32))] [])) (fun _ k => XS.iinc X0.here hx rfl (hb hby d1_24) rfl (l' := #[.val (.ref a), .val (.ref b), .val (.double s0), .second, .val (.int (1 : Int32))]) rfl k) ?_
  refine Goes.by (T' := s₁) (g' := (mkF m 5 #[.val (.ref a), .val (.ref b), .val (.double s0), .second, .val (.int (1 : Int32))] [])) (fun _ k => XS.goto X0.here hx rfl (pc0 := 27) (pc' := 5) rfl (hb hby d1_27) (by decide) (by decide) k) ?_
  refine Goes.by (T' := s₁) (g' := (mkF m 7 #[.val (.ref a), .val (.ref b), .val (.double s0), .second, .val (.int (1 : Int32))] [(.int (1 : Int32))])) (fun _ k => XS.iload X0.here hx rfl (hb hby d1_5) rfl k) ?_
  refine Goes.by (T' := s₁) (g' := (mkF m 8 #[.val (.ref a), .val (.ref b), .val (.double s0), .second, .val (.int (1 : Int32))] [(.ref a), (.int (1 : Int32))])) (fun _ k => XS.aloadN X0.here hx rfl (hb hby d1_7) rfl rfl k) ?_
  refine Goes.by (T' := s₁) (g' := (mkF m 9 #[.val (.ref a), .val (.ref b), .val (.double s0), .second, .val (.int (1 : Int32))] [(.int (1 : Int32)), (.int (1 : Int32))])) (lenS X0 hx hZ e0 VA (n := (1 : Int32)) rfl (g := (mkF m 8 #[.val (.ref a), .val (.ref b), .val (.double s0), .second, .val (.int (1 : Int32))] [(.ref a), (.int (1 : Int32))])) rfl rfl (hb hby d1_8)) ?_
  refine Goes.by (T' := s₁) (g' := (mkF m 30 #[.val (.ref a), .val (.ref b), .val (.double s0), .second, .val (.int (1 : Int32))] [])) (fun _ k => XS.icmpYes X0.here hx rfl (pc0 := 9) (pc' := 30) rfl (hb hby d1_9) rfl (by decide) (by decide) (by decide) k) ?_
  refine Goes.by (T' := s₁) (g' := (mkF m 31 #[.val (.ref a), .val (.ref b), .val (.double s0), .second, .val (.int (1 : Int32))] [(.double s0)])) (fun _ k => XS.dloadN X0.here hx rfl (hb hby d1_30) rfl k) ?_
  exact outD X0 hx hlk hret (hb hby d1_31) (by rw [e0]; exact ⟨⟨_, rfl, by subst hp0; exact DS0⟩, N0, rfl⟩) (by decide) (by decide)
theorem ef_rm_dot2 (m : MethodId) (x0 : Addr) (x1 : Addr) : entryFrame m #[(.ref x0), (.ref x1)] 5 = mkF m 0 #[.val (.ref x0), .val (.ref x1), .unset, .unset, .unset] [] := by first | (simp [entryFrame, mkF, argsToLocals, Value.category, maxLocals]; done) | rfl
set_option maxRecDepth 65536 in
set_option maxHeartbeats 40000000 in
theorem rm_dot2 (l : Launch) (Z : State) (a0 : Array Value) (hw : ∀ d ∈ tables_1, d.before a0 Z = true) (a b : Addr) (u0 v0 : UInt64) (i0 j0 : Int) (u1 v1 : UInt64) (i1 j1 : Int)  (h0 : Heap) (n0 : Nat) (Z0 : n0 ≤ h0.size) (VA : Sar Z h0 a .double [(.double u0), (.double u1)]) (VB : Sar Z h0 b .double [(.double v0), (.double v1)]) (I0 : Core.DInt i0 u0) (J0 : Core.DInt j0 v0) (bi0 : i0.natAbs ≤ 32768) (bj0 : j0.natAbs ≤ 32768) (I1 : Core.DInt i1 u1) (J1 : Core.DInt j1 v1) (bi1 : i1.natAbs ≤ 32768) (bj1 : j1.natAbs ≤ 32768)  :
    Does l (⟨"com/example/adhoq/adhoq/Vectors", "dot", "([D[D)D"⟩ : MethodName) prog_37_method_2_code 5 (some .double) [] ({ frames := 0, cells := 0, slots := 0, locals := 0 } : Room) Z #[(.ref a), (.ref b)] h0 (fun v h L => (∃ d, v = some (.double d) ∧ Core.DInt ((0 + i0 * j0) + i1 * j1) d) ∧ Fr n0 L ∧ h = h0) := by
  refine Does.of (plainFor_of_name pn0) ?_
  intro p e s m below meth c s₁ hx hby hml hret hlk hZ hown hnm X0 e0
  have N0 := Fr.nil n0
  refine Goes.cast (g' := mkF m 0 #[.val (.ref a), .val (.ref b), .unset, .unset, .unset] []) (ef_rm_dot2 m a b) ?_
  refine Goes.by (T' := s₁) (g' := (mkF m 1 #[.val (.ref a), .val (.ref b), .unset, .unset, .unset] [(.double (0 : UInt64))])) (fun _ k => XS.dconst0 X0.here hx rfl (hb hby d1_0) rfl k) ?_
  refine Goes.by (T' := s₁) (g' := (mkF m 2 #[.val (.ref a), .val (.ref b), .val (.double (0 : UInt64)), .second, .unset] [])) (fun _ k => XS.dstoreN X0.here hx rfl (hb hby d1_1) rfl (l' := #[.val (.ref a), .val (.ref b), .val (.double (0 : UInt64)), .second, .unset]) rfl k) ?_
  refine Goes.by (T' := s₁) (g' := (mkF m 3 #[.val (.ref a), .val (.ref b), .val (.double (0 : UInt64)), .second, .unset] [(.int (0 : Int32))])) (fun _ k => XS.iconst X0.here hx rfl (hb hby d1_2)  k) ?_
  refine Goes.by (T' := s₁) (g' := (mkF m 5 #[.val (.ref a), .val (.ref b), .val (.double (0 : UInt64)), .second, .val (.int (0 : Int32))] [])) (fun _ k => XS.istore X0.here hx rfl (hb hby d1_3) rfl (l' := #[.val (.ref a), .val (.ref b), .val (.double (0 : UInt64)), .second, .val (.int (0 : Int32))]) rfl k) ?_
  refine Goes.by (T' := s₁) (g' := (mkF m 7 #[.val (.ref a), .val (.ref b), .val (.double (0 : UInt64)), .second, .val (.int (0 : Int32))] [(.int (0 : Int32))])) (fun _ k => XS.iload X0.here hx rfl (hb hby d1_5) rfl k) ?_
  refine Goes.by (T' := s₁) (g' := (mkF m 8 #[.val (.ref a), .val (.ref b), .val (.double (0 : UInt64)), .second, .val (.int (0 : Int32))] [(.ref a), (.int (0 : Int32))])) (fun _ k => XS.aloadN X0.here hx rfl (hb hby d1_7) rfl rfl k) ?_
  refine Goes.by (T' := s₁) (g' := (mkF m 9 #[.val (.ref a), .val (.ref b), .val (.double (0 : UInt64)), .second, .val (.int (0 : Int32))] [(.int (2 : Int32)), (.int (0 : Int32))])) (lenS X0 hx hZ e0 VA (n := (2 : Int32)) rfl (g := (mkF m 8 #[.val (.ref a), .val (.ref b), .val (.double (0 : UInt64)), .second, .val (.int (0 : Int32))] [(.ref a), (.int (0 : Int32))])) rfl rfl (hb hby d1_8)) ?_
  refine Goes.by (T' := s₁) (g' := (mkF m 12 #[.val (.ref a), .val (.ref b), .val (.double (0 : UInt64)), .second, .val (.int (0 : Int32))] [])) (fun _ k => XS.icmpNo X0.here hx rfl (hb hby d1_9) rfl (by decide) k) ?_
  refine Goes.by (T' := s₁) (g' := (mkF m 13 #[.val (.ref a), .val (.ref b), .val (.double (0 : UInt64)), .second, .val (.int (0 : Int32))] [(.double (0 : UInt64))])) (fun _ k => XS.dloadN X0.here hx rfl (hb hby d1_12) rfl k) ?_
  refine Goes.by (T' := s₁) (g' := (mkF m 14 #[.val (.ref a), .val (.ref b), .val (.double (0 : UInt64)), .second, .val (.int (0 : Int32))] [(.ref a), (.double (0 : UInt64))])) (fun _ k => XS.aloadN X0.here hx rfl (hb hby d1_13) rfl rfl k) ?_
  refine Goes.by (T' := s₁) (g' := (mkF m 16 #[.val (.ref a), .val (.ref b), .val (.double (0 : UInt64)), .second, .val (.int (0 : Int32))] [(.int (0 : Int32)), (.ref a), (.double (0 : UInt64))])) (fun _ k => XS.iload X0.here hx rfl (hb hby d1_14) rfl k) ?_
  refine Goes.by (T' := s₁) (g' := (mkF m 17 #[.val (.ref a), .val (.ref b), .val (.double (0 : UInt64)), .second, .val (.int (0 : Int32))] [(.double u0), (.double (0 : UInt64))])) (ldDS X0 hx hZ e0 VA (v := (.double u0)) (j := (0 : Int32)) 0 (by decide) rfl (g := (mkF m 16 #[.val (.ref a), .val (.ref b), .val (.double (0 : UInt64)), .second, .val (.int (0 : Int32))] [(.int (0 : Int32)), (.ref a), (.double (0 : UInt64))])) rfl rfl (hb hby d1_16)) ?_
  refine Goes.by (T' := s₁) (g' := (mkF m 18 #[.val (.ref a), .val (.ref b), .val (.double (0 : UInt64)), .second, .val (.int (0 : Int32))] [(.ref b), (.double u0), (.double (0 : UInt64))])) (fun _ k => XS.aloadN X0.here hx rfl (hb hby d1_17) rfl rfl k) ?_
  refine Goes.by (T' := s₁) (g' := (mkF m 20 #[.val (.ref a), .val (.ref b), .val (.double (0 : UInt64)), .second, .val (.int (0 : Int32))] [(.int (0 : Int32)), (.ref b), (.double u0), (.double (0 : UInt64))])) (fun _ k => XS.iload X0.here hx rfl (hb hby d1_18) rfl k) ?_
  refine Goes.by (T' := s₁) (g' := (mkF m 21 #[.val (.ref a), .val (.ref b), .val (.double (0 : UInt64)), .second, .val (.int (0 : Int32))] [(.double v0), (.double u0), (.double (0 : UInt64))])) (ldDS X0 hx hZ e0 VB (v := (.double v0)) (j := (0 : Int32)) 0 (by decide) rfl (g := (mkF m 20 #[.val (.ref a), .val (.ref b), .val (.double (0 : UInt64)), .second, .val (.int (0 : Int32))] [(.int (0 : Int32)), (.ref b), (.double u0), (.double (0 : UInt64))])) rfl rfl (hb hby d1_20)) ?_
  obtain ⟨p0, hp0⟩ : ∃ z : Int, z = i0 * j0 := ⟨_, rfl⟩
  have bp0 : p0.natAbs ≤ 32768 * 32768 := by rw [hp0]; exact own_mb bi0 bj0
  obtain ⟨m0, q_m0⟩ : ∃ zz, FP.dmul u0 v0 = zz := ⟨_, rfl⟩
  have DM0 : Core.DInt p0 m0 := by rw [hp0]; exact DInt_mul q_m0 I0 J0 (by rw [← hp0]; omega)
  refine Goes.by (T' := s₁) (g' := (mkF m 22 #[.val (.ref a), .val (.ref b), .val (.double (0 : UInt64)), .second, .val (.int (0 : Int32))] [(.double m0), (.double (0 : UInt64))])) (fun _ k => XS.dmulS X0.here hx rfl (hb hby d1_21) rfl (by rw [q_m0]; exact DInt_nn DM0) q_m0 k) ?_
  obtain ⟨s0, q_s0⟩ : ∃ zz, FP.dadd (0 : UInt64) m0 = zz := ⟨_, rfl⟩
  have DS0 := DInt_add q_s0 DInt_zero DM0 (by omega)
  refine Goes.by (T' := s₁) (g' := (mkF m 23 #[.val (.ref a), .val (.ref b), .val (.double (0 : UInt64)), .second, .val (.int (0 : Int32))] [(.double s0)])) (fun _ k => XS.daddS X0.here hx rfl (hb hby d1_22) rfl (by rw [q_s0]; exact DInt_nn DS0) q_s0 k) ?_
  refine Goes.by (T' := s₁) (g' := (mkF m 24 #[.val (.ref a), .val (.ref b), .val (.double s0), .second, .val (.int (0 : Int32))] [])) (fun _ k => XS.dstoreN X0.here hx rfl (hb hby d1_23) rfl (l' := #[.val (.ref a), .val (.ref b), .val (.double s0), .second, .val (.int (0 : Int32))]) rfl k) ?_
  refine Goes.by (T' := s₁) (g' := (mkF m 27 #[.val (.ref a), .val (.ref b), .val (.double s0), .second, .val (.int (1 : Int32))] [])) (fun _ k => XS.iinc X0.here hx rfl (hb hby d1_24) rfl (l' := #[.val (.ref a), .val (.ref b), .val (.double s0), .second, .val (.int (1 : Int32))]) rfl k) ?_
  refine Goes.by (T' := s₁) (g' := (mkF m 5 #[.val (.ref a), .val (.ref b), .val (.double s0), .second, .val (.int (1 : Int32))] [])) (fun _ k => XS.goto X0.here hx rfl (pc0 := 27) (pc' := 5) rfl (hb hby d1_27) (by decide) (by decide) k) ?_
  refine Goes.by (T' := s₁) (g' := (mkF m 7 #[.val (.ref a), .val (.ref b), .val (.double s0), .second, .val (.int (1 : Int32))] [(.int (1 : Int32))])) (fun _ k => XS.iload X0.here hx rfl (hb hby d1_5) rfl k) ?_
  refine Goes.by (T' := s₁) (g' := (mkF m 8 #[.val (.ref a), .val (.ref b), .val (.double s0), .second, .val (.int (1 : Int32))] [(.ref a), (.int (1 : Int32))])) (fun _ k => XS.aloadN X0.here hx rfl (hb hby d1_7) rfl rfl k) ?_
  refine Goes.by (T' := s₁) (g' := (mkF m 9 #[.val (.ref a), .val (.ref b), .val (.double s0), .second, .val (.int (1 : Int32))] [(.int (2 : Int32)), (.int (1 : Int32))])) (lenS X0 hx hZ e0 VA (n := (2 : Int32)) rfl (g := (mkF m 8 #[.val (.ref a), .val (.ref b), .val (.double s0), .second, .val (.int (1 : Int32))] [(.ref a), (.int (1 : Int32))])) rfl rfl (hb hby d1_8)) ?_
  refine Goes.by (T' := s₁) (g' := (mkF m 12 #[.val (.ref a), .val (.ref b), .val (.double s0), .second, .val (.int (1 : Int32))] [])) (fun _ k => XS.icmpNo X0.here hx rfl (hb hby d1_9) rfl (by decide) k) ?_
  refine Goes.by (T' := s₁) (g' := (mkF m 13 #[.val (.ref a), .val (.ref b), .val (.double s0), .second, .val (.int (1 : Int32))] [(.double s0)])) (fun _ k => XS.dloadN X0.here hx rfl (hb hby d1_12) rfl k) ?_
  refine Goes.by (T' := s₁) (g' := (mkF m 14 #[.val (.ref a), .val (.ref b), .val (.double s0), .second, .val (.int (1 : Int32))] [(.ref a), (.double s0)])) (fun _ k => XS.aloadN X0.here hx rfl (hb hby d1_13) rfl rfl k) ?_
  refine Goes.by (T' := s₁) (g' := (mkF m 16 #[.val (.ref a), .val (.ref b), .val (.double s0), .second, .val (.int (1 : Int32))] [(.int (1 : Int32)), (.ref a), (.double s0)])) (fun _ k => XS.iload X0.here hx rfl (hb hby d1_14) rfl k) ?_
  refine Goes.by (T' := s₁) (g' := (mkF m 17 #[.val (.ref a), .val (.ref b), .val (.double s0), .second, .val (.int (1 : Int32))] [(.double u1), (.double s0)])) (ldDS X0 hx hZ e0 VA (v := (.double u1)) (j := (1 : Int32)) 1 (by decide) rfl (g := (mkF m 16 #[.val (.ref a), .val (.ref b), .val (.double s0), .second, .val (.int (1 : Int32))] [(.int (1 : Int32)), (.ref a), (.double s0)])) rfl rfl (hb hby d1_16)) ?_
  refine Goes.by (T' := s₁) (g' := (mkF m 18 #[.val (.ref a), .val (.ref b), .val (.double s0), .second, .val (.int (1 : Int32))] [(.ref b), (.double u1), (.double s0)])) (fun _ k => XS.aloadN X0.here hx rfl (hb hby d1_17) rfl rfl k) ?_
  refine Goes.by (T' := s₁) (g' := (mkF m 20 #[.val (.ref a), .val (.ref b), .val (.double s0), .second, .val (.int (1 : Int32))] [(.int (1 : Int32)), (.ref b), (.double u1), (.double s0)])) (fun _ k => XS.iload X0.here hx rfl (hb hby d1_18) rfl k) ?_
  refine Goes.by (T' := s₁) (g' := (mkF m 21 #[.val (.ref a), .val (.ref b), .val (.double s0), .second, .val (.int (1 : Int32))] [(.double v1), (.double u1), (.double s0)])) (ldDS X0 hx hZ e0 VB (v := (.double v1)) (j := (1 : Int32)) 1 (by decide) rfl (g := (mkF m 20 #[.val (.ref a), .val (.ref b), .val (.double s0), .second, .val (.int (1 : Int32))] [(.int (1 : Int32)), (.ref b), (.double u1), (.double s0)])) rfl rfl (hb hby d1_20)) ?_
  obtain ⟨p1, hp1⟩ : ∃ z : Int, z = i1 * j1 := ⟨_, rfl⟩
  have bp1 : p1.natAbs ≤ 32768 * 32768 := by rw [hp1]; exact own_mb bi1 bj1
  obtain ⟨m1, q_m1⟩ : ∃ zz, FP.dmul u1 v1 = zz := ⟨_, rfl⟩
  have DM1 : Core.DInt p1 m1 := by rw [hp1]; exact DInt_mul q_m1 I1 J1 (by rw [← hp1]; omega)
  refine Goes.by (T' := s₁) (g' := (mkF m 22 #[.val (.ref a), .val (.ref b), .val (.double s0), .second, .val (.int (1 : Int32))] [(.double m1), (.double s0)])) (fun _ k => XS.dmulS X0.here hx rfl (hb hby d1_21) rfl (by rw [q_m1]; exact DInt_nn DM1) q_m1 k) ?_
  obtain ⟨s1, q_s1⟩ : ∃ zz, FP.dadd s0 m1 = zz := ⟨_, rfl⟩
  have DS1 := DInt_add q_s1 DS0 DM1 (by omega)
  refine Goes.by (T' := s₁) (g' := (mkF m 23 #[.val (.ref a), .val (.ref b), .val (.double s0), .second, .val (.int (1 : Int32))] [(.double s1)])) (fun _ k => XS.daddS X0.here hx rfl (hb hby d1_22) rfl (by rw [q_s1]; exact DInt_nn DS1) q_s1 k) ?_
  refine Goes.by (T' := s₁) (g' := (mkF m 24 #[.val (.ref a), .val (.ref b), .val (.double s1), .second, .val (.int (1 : Int32))] [])) (fun _ k => XS.dstoreN X0.here hx rfl (hb hby d1_23) rfl (l' := #[.val (.ref a), .val (.ref b), .val (.double s1), .second, .val (.int (1 : Int32))]) rfl k) ?_
  refine Goes.by (T' := s₁) (g' := (mkF m 27 #[.val (.ref a), .val (.ref b), .val (.double s1), .second, .val (.int (2 : Int32))] [])) (fun _ k => XS.iinc X0.here hx rfl (hb hby d1_24) rfl (l' := #[.val (.ref a), .val (.ref b), .val (.double s1), .second, .val (.int (2 : Int32))]) rfl k) ?_
  refine Goes.by (T' := s₁) (g' := (mkF m 5 #[.val (.ref a), .val (.ref b), .val (.double s1), .second, .val (.int (2 : Int32))] [])) (fun _ k => XS.goto X0.here hx rfl (pc0 := 27) (pc' := 5) rfl (hb hby d1_27) (by decide) (by decide) k) ?_
  refine Goes.by (T' := s₁) (g' := (mkF m 7 #[.val (.ref a), .val (.ref b), .val (.double s1), .second, .val (.int (2 : Int32))] [(.int (2 : Int32))])) (fun _ k => XS.iload X0.here hx rfl (hb hby d1_5) rfl k) ?_
  refine Goes.by (T' := s₁) (g' := (mkF m 8 #[.val (.ref a), .val (.ref b), .val (.double s1), .second, .val (.int (2 : Int32))] [(.ref a), (.int (2 : Int32))])) (fun _ k => XS.aloadN X0.here hx rfl (hb hby d1_7) rfl rfl k) ?_
  refine Goes.by (T' := s₁) (g' := (mkF m 9 #[.val (.ref a), .val (.ref b), .val (.double s1), .second, .val (.int (2 : Int32))] [(.int (2 : Int32)), (.int (2 : Int32))])) (lenS X0 hx hZ e0 VA (n := (2 : Int32)) rfl (g := (mkF m 8 #[.val (.ref a), .val (.ref b), .val (.double s1), .second, .val (.int (2 : Int32))] [(.ref a), (.int (2 : Int32))])) rfl rfl (hb hby d1_8)) ?_
  refine Goes.by (T' := s₁) (g' := (mkF m 30 #[.val (.ref a), .val (.ref b), .val (.double s1), .second, .val (.int (2 : Int32))] [])) (fun _ k => XS.icmpYes X0.here hx rfl (pc0 := 9) (pc' := 30) rfl (hb hby d1_9) rfl (by decide) (by decide) (by decide) k) ?_
  refine Goes.by (T' := s₁) (g' := (mkF m 31 #[.val (.ref a), .val (.ref b), .val (.double s1), .second, .val (.int (2 : Int32))] [(.double s1)])) (fun _ k => XS.dloadN X0.here hx rfl (hb hby d1_30) rfl k) ?_
  exact outD X0 hx hlk hret (hb hby d1_31) (by rw [e0]; exact ⟨⟨_, rfl, by subst hp0 hp1; exact DS1⟩, N0, rfl⟩) (by decide) (by decide)
theorem ef_rm_dot3 (m : MethodId) (x0 : Addr) (x1 : Addr) : entryFrame m #[(.ref x0), (.ref x1)] 5 = mkF m 0 #[.val (.ref x0), .val (.ref x1), .unset, .unset, .unset] [] := by first | (simp [entryFrame, mkF, argsToLocals, Value.category, maxLocals]; done) | rfl
set_option maxRecDepth 65536 in
set_option maxHeartbeats 40000000 in
theorem rm_dot3 (l : Launch) (Z : State) (a0 : Array Value) (hw : ∀ d ∈ tables_1, d.before a0 Z = true) (a b : Addr) (u0 v0 : UInt64) (i0 j0 : Int) (u1 v1 : UInt64) (i1 j1 : Int) (u2 v2 : UInt64) (i2 j2 : Int)  (h0 : Heap) (n0 : Nat) (Z0 : n0 ≤ h0.size) (VA : Sar Z h0 a .double [(.double u0), (.double u1), (.double u2)]) (VB : Sar Z h0 b .double [(.double v0), (.double v1), (.double v2)]) (I0 : Core.DInt i0 u0) (J0 : Core.DInt j0 v0) (bi0 : i0.natAbs ≤ 32768) (bj0 : j0.natAbs ≤ 32768) (I1 : Core.DInt i1 u1) (J1 : Core.DInt j1 v1) (bi1 : i1.natAbs ≤ 32768) (bj1 : j1.natAbs ≤ 32768) (I2 : Core.DInt i2 u2) (J2 : Core.DInt j2 v2) (bi2 : i2.natAbs ≤ 32768) (bj2 : j2.natAbs ≤ 32768)  :
    Does l (⟨"com/example/adhoq/adhoq/Vectors", "dot", "([D[D)D"⟩ : MethodName) prog_37_method_2_code 5 (some .double) [] ({ frames := 0, cells := 0, slots := 0, locals := 0 } : Room) Z #[(.ref a), (.ref b)] h0 (fun v h L => (∃ d, v = some (.double d) ∧ Core.DInt (((0 + i0 * j0) + i1 * j1) + i2 * j2) d) ∧ Fr n0 L ∧ h = h0) := by
  refine Does.of (plainFor_of_name pn0) ?_
  intro p e s m below meth c s₁ hx hby hml hret hlk hZ hown hnm X0 e0
  have N0 := Fr.nil n0
  refine Goes.cast (g' := mkF m 0 #[.val (.ref a), .val (.ref b), .unset, .unset, .unset] []) (ef_rm_dot3 m a b) ?_
  refine Goes.by (T' := s₁) (g' := (mkF m 1 #[.val (.ref a), .val (.ref b), .unset, .unset, .unset] [(.double (0 : UInt64))])) (fun _ k => XS.dconst0 X0.here hx rfl (hb hby d1_0) rfl k) ?_
  refine Goes.by (T' := s₁) (g' := (mkF m 2 #[.val (.ref a), .val (.ref b), .val (.double (0 : UInt64)), .second, .unset] [])) (fun _ k => XS.dstoreN X0.here hx rfl (hb hby d1_1) rfl (l' := #[.val (.ref a), .val (.ref b), .val (.double (0 : UInt64)), .second, .unset]) rfl k) ?_
  refine Goes.by (T' := s₁) (g' := (mkF m 3 #[.val (.ref a), .val (.ref b), .val (.double (0 : UInt64)), .second, .unset] [(.int (0 : Int32))])) (fun _ k => XS.iconst X0.here hx rfl (hb hby d1_2)  k) ?_
  refine Goes.by (T' := s₁) (g' := (mkF m 5 #[.val (.ref a), .val (.ref b), .val (.double (0 : UInt64)), .second, .val (.int (0 : Int32))] [])) (fun _ k => XS.istore X0.here hx rfl (hb hby d1_3) rfl (l' := #[.val (.ref a), .val (.ref b), .val (.double (0 : UInt64)), .second, .val (.int (0 : Int32))]) rfl k) ?_
  refine Goes.by (T' := s₁) (g' := (mkF m 7 #[.val (.ref a), .val (.ref b), .val (.double (0 : UInt64)), .second, .val (.int (0 : Int32))] [(.int (0 : Int32))])) (fun _ k => XS.iload X0.here hx rfl (hb hby d1_5) rfl k) ?_
  refine Goes.by (T' := s₁) (g' := (mkF m 8 #[.val (.ref a), .val (.ref b), .val (.double (0 : UInt64)), .second, .val (.int (0 : Int32))] [(.ref a), (.int (0 : Int32))])) (fun _ k => XS.aloadN X0.here hx rfl (hb hby d1_7) rfl rfl k) ?_
  refine Goes.by (T' := s₁) (g' := (mkF m 9 #[.val (.ref a), .val (.ref b), .val (.double (0 : UInt64)), .second, .val (.int (0 : Int32))] [(.int (3 : Int32)), (.int (0 : Int32))])) (lenS X0 hx hZ e0 VA (n := (3 : Int32)) rfl (g := (mkF m 8 #[.val (.ref a), .val (.ref b), .val (.double (0 : UInt64)), .second, .val (.int (0 : Int32))] [(.ref a), (.int (0 : Int32))])) rfl rfl (hb hby d1_8)) ?_
  refine Goes.by (T' := s₁) (g' := (mkF m 12 #[.val (.ref a), .val (.ref b), .val (.double (0 : UInt64)), .second, .val (.int (0 : Int32))] [])) (fun _ k => XS.icmpNo X0.here hx rfl (hb hby d1_9) rfl (by decide) k) ?_
  refine Goes.by (T' := s₁) (g' := (mkF m 13 #[.val (.ref a), .val (.ref b), .val (.double (0 : UInt64)), .second, .val (.int (0 : Int32))] [(.double (0 : UInt64))])) (fun _ k => XS.dloadN X0.here hx rfl (hb hby d1_12) rfl k) ?_
  refine Goes.by (T' := s₁) (g' := (mkF m 14 #[.val (.ref a), .val (.ref b), .val (.double (0 : UInt64)), .second, .val (.int (0 : Int32))] [(.ref a), (.double (0 : UInt64))])) (fun _ k => XS.aloadN X0.here hx rfl (hb hby d1_13) rfl rfl k) ?_
  refine Goes.by (T' := s₁) (g' := (mkF m 16 #[.val (.ref a), .val (.ref b), .val (.double (0 : UInt64)), .second, .val (.int (0 : Int32))] [(.int (0 : Int32)), (.ref a), (.double (0 : UInt64))])) (fun _ k => XS.iload X0.here hx rfl (hb hby d1_14) rfl k) ?_
  refine Goes.by (T' := s₁) (g' := (mkF m 17 #[.val (.ref a), .val (.ref b), .val (.double (0 : UInt64)), .second, .val (.int (0 : Int32))] [(.double u0), (.double (0 : UInt64))])) (ldDS X0 hx hZ e0 VA (v := (.double u0)) (j := (0 : Int32)) 0 (by decide) rfl (g := (mkF m 16 #[.val (.ref a), .val (.ref b), .val (.double (0 : UInt64)), .second, .val (.int (0 : Int32))] [(.int (0 : Int32)), (.ref a), (.double (0 : UInt64))])) rfl rfl (hb hby d1_16)) ?_
  refine Goes.by (T' := s₁) (g' := (mkF m 18 #[.val (.ref a), .val (.ref b), .val (.double (0 : UInt64)), .second, .val (.int (0 : Int32))] [(.ref b), (.double u0), (.double (0 : UInt64))])) (fun _ k => XS.aloadN X0.here hx rfl (hb hby d1_17) rfl rfl k) ?_
  refine Goes.by (T' := s₁) (g' := (mkF m 20 #[.val (.ref a), .val (.ref b), .val (.double (0 : UInt64)), .second, .val (.int (0 : Int32))] [(.int (0 : Int32)), (.ref b), (.double u0), (.double (0 : UInt64))])) (fun _ k => XS.iload X0.here hx rfl (hb hby d1_18) rfl k) ?_
  refine Goes.by (T' := s₁) (g' := (mkF m 21 #[.val (.ref a), .val (.ref b), .val (.double (0 : UInt64)), .second, .val (.int (0 : Int32))] [(.double v0), (.double u0), (.double (0 : UInt64))])) (ldDS X0 hx hZ e0 VB (v := (.double v0)) (j := (0 : Int32)) 0 (by decide) rfl (g := (mkF m 20 #[.val (.ref a), .val (.ref b), .val (.double (0 : UInt64)), .second, .val (.int (0 : Int32))] [(.int (0 : Int32)), (.ref b), (.double u0), (.double (0 : UInt64))])) rfl rfl (hb hby d1_20)) ?_
  obtain ⟨p0, hp0⟩ : ∃ z : Int, z = i0 * j0 := ⟨_, rfl⟩
  have bp0 : p0.natAbs ≤ 32768 * 32768 := by rw [hp0]; exact own_mb bi0 bj0
  obtain ⟨m0, q_m0⟩ : ∃ zz, FP.dmul u0 v0 = zz := ⟨_, rfl⟩
  have DM0 : Core.DInt p0 m0 := by rw [hp0]; exact DInt_mul q_m0 I0 J0 (by rw [← hp0]; omega)
  refine Goes.by (T' := s₁) (g' := (mkF m 22 #[.val (.ref a), .val (.ref b), .val (.double (0 : UInt64)), .second, .val (.int (0 : Int32))] [(.double m0), (.double (0 : UInt64))])) (fun _ k => XS.dmulS X0.here hx rfl (hb hby d1_21) rfl (by rw [q_m0]; exact DInt_nn DM0) q_m0 k) ?_
  obtain ⟨s0, q_s0⟩ : ∃ zz, FP.dadd (0 : UInt64) m0 = zz := ⟨_, rfl⟩
  have DS0 := DInt_add q_s0 DInt_zero DM0 (by omega)
  refine Goes.by (T' := s₁) (g' := (mkF m 23 #[.val (.ref a), .val (.ref b), .val (.double (0 : UInt64)), .second, .val (.int (0 : Int32))] [(.double s0)])) (fun _ k => XS.daddS X0.here hx rfl (hb hby d1_22) rfl (by rw [q_s0]; exact DInt_nn DS0) q_s0 k) ?_
  refine Goes.by (T' := s₁) (g' := (mkF m 24 #[.val (.ref a), .val (.ref b), .val (.double s0), .second, .val (.int (0 : Int32))] [])) (fun _ k => XS.dstoreN X0.here hx rfl (hb hby d1_23) rfl (l' := #[.val (.ref a), .val (.ref b), .val (.double s0), .second, .val (.int (0 : Int32))]) rfl k) ?_
  refine Goes.by (T' := s₁) (g' := (mkF m 27 #[.val (.ref a), .val (.ref b), .val (.double s0), .second, .val (.int (1 : Int32))] [])) (fun _ k => XS.iinc X0.here hx rfl (hb hby d1_24) rfl (l' := #[.val (.ref a), .val (.ref b), .val (.double s0), .second, .val (.int (1 : Int32))]) rfl k) ?_
  refine Goes.by (T' := s₁) (g' := (mkF m 5 #[.val (.ref a), .val (.ref b), .val (.double s0), .second, .val (.int (1 : Int32))] [])) (fun _ k => XS.goto X0.here hx rfl (pc0 := 27) (pc' := 5) rfl (hb hby d1_27) (by decide) (by decide) k) ?_
  refine Goes.by (T' := s₁) (g' := (mkF m 7 #[.val (.ref a), .val (.ref b), .val (.double s0), .second, .val (.int (1 : Int32))] [(.int (1 : Int32))])) (fun _ k => XS.iload X0.here hx rfl (hb hby d1_5) rfl k) ?_
  refine Goes.by (T' := s₁) (g' := (mkF m 8 #[.val (.ref a), .val (.ref b), .val (.double s0), .second, .val (.int (1 : Int32))] [(.ref a), (.int (1 : Int32))])) (fun _ k => XS.aloadN X0.here hx rfl (hb hby d1_7) rfl rfl k) ?_
  refine Goes.by (T' := s₁) (g' := (mkF m 9 #[.val (.ref a), .val (.ref b), .val (.double s0), .second, .val (.int (1 : Int32))] [(.int (3 : Int32)), (.int (1 : Int32))])) (lenS X0 hx hZ e0 VA (n := (3 : Int32)) rfl (g := (mkF m 8 #[.val (.ref a), .val (.ref b), .val (.double s0), .second, .val (.int (1 : Int32))] [(.ref a), (.int (1 : Int32))])) rfl rfl (hb hby d1_8)) ?_
  refine Goes.by (T' := s₁) (g' := (mkF m 12 #[.val (.ref a), .val (.ref b), .val (.double s0), .second, .val (.int (1 : Int32))] [])) (fun _ k => XS.icmpNo X0.here hx rfl (hb hby d1_9) rfl (by decide) k) ?_
  refine Goes.by (T' := s₁) (g' := (mkF m 13 #[.val (.ref a), .val (.ref b), .val (.double s0), .second, .val (.int (1 : Int32))] [(.double s0)])) (fun _ k => XS.dloadN X0.here hx rfl (hb hby d1_12) rfl k) ?_
  refine Goes.by (T' := s₁) (g' := (mkF m 14 #[.val (.ref a), .val (.ref b), .val (.double s0), .second, .val (.int (1 : Int32))] [(.ref a), (.double s0)])) (fun _ k => XS.aloadN X0.here hx rfl (hb hby d1_13) rfl rfl k) ?_
  refine Goes.by (T' := s₁) (g' := (mkF m 16 #[.val (.ref a), .val (.ref b), .val (.double s0), .second, .val (.int (1 : Int32))] [(.int (1 : Int32)), (.ref a), (.double s0)])) (fun _ k => XS.iload X0.here hx rfl (hb hby d1_14) rfl k) ?_
  refine Goes.by (T' := s₁) (g' := (mkF m 17 #[.val (.ref a), .val (.ref b), .val (.double s0), .second, .val (.int (1 : Int32))] [(.double u1), (.double s0)])) (ldDS X0 hx hZ e0 VA (v := (.double u1)) (j := (1 : Int32)) 1 (by decide) rfl (g := (mkF m 16 #[.val (.ref a), .val (.ref b), .val (.double s0), .second, .val (.int (1 : Int32))] [(.int (1 : Int32)), (.ref a), (.double s0)])) rfl rfl (hb hby d1_16)) ?_
  refine Goes.by (T' := s₁) (g' := (mkF m 18 #[.val (.ref a), .val (.ref b), .val (.double s0), .second, .val (.int (1 : Int32))] [(.ref b), (.double u1), (.double s0)])) (fun _ k => XS.aloadN X0.here hx rfl (hb hby d1_17) rfl rfl k) ?_
  refine Goes.by (T' := s₁) (g' := (mkF m 20 #[.val (.ref a), .val (.ref b), .val (.double s0), .second, .val (.int (1 : Int32))] [(.int (1 : Int32)), (.ref b), (.double u1), (.double s0)])) (fun _ k => XS.iload X0.here hx rfl (hb hby d1_18) rfl k) ?_
  refine Goes.by (T' := s₁) (g' := (mkF m 21 #[.val (.ref a), .val (.ref b), .val (.double s0), .second, .val (.int (1 : Int32))] [(.double v1), (.double u1), (.double s0)])) (ldDS X0 hx hZ e0 VB (v := (.double v1)) (j := (1 : Int32)) 1 (by decide) rfl (g := (mkF m 20 #[.val (.ref a), .val (.ref b), .val (.double s0), .second, .val (.int (1 : Int32))] [(.int (1 : Int32)), (.ref b), (.double u1), (.double s0)])) rfl rfl (hb hby d1_20)) ?_
  obtain ⟨p1, hp1⟩ : ∃ z : Int, z = i1 * j1 := ⟨_, rfl⟩
  have bp1 : p1.natAbs ≤ 32768 * 32768 := by rw [hp1]; exact own_mb bi1 bj1
  obtain ⟨m1, q_m1⟩ : ∃ zz, FP.dmul u1 v1 = zz := ⟨_, rfl⟩
  have DM1 : Core.DInt p1 m1 := by rw [hp1]; exact DInt_mul q_m1 I1 J1 (by rw [← hp1]; omega)
  refine Goes.by (T' := s₁) (g' := (mkF m 22 #[.val (.ref a), .val (.ref b), .val (.double s0), .second, .val (.int (1 : Int32))] [(.double m1), (.double s0)])) (fun _ k => XS.dmulS X0.here hx rfl (hb hby d1_21) rfl (by rw [q_m1]; exact DInt_nn DM1) q_m1 k) ?_
  obtain ⟨s1, q_s1⟩ : ∃ zz, FP.dadd s0 m1 = zz := ⟨_, rfl⟩
  have DS1 := DInt_add q_s1 DS0 DM1 (by omega)
  refine Goes.by (T' := s₁) (g' := (mkF m 23 #[.val (.ref a), .val (.ref b), .val (.double s0), .second, .val (.int (1 : Int32))] [(.double s1)])) (fun _ k => XS.daddS X0.here hx rfl (hb hby d1_22) rfl (by rw [q_s1]; exact DInt_nn DS1) q_s1 k) ?_
  refine Goes.by (T' := s₁) (g' := (mkF m 24 #[.val (.ref a), .val (.ref b), .val (.double s1), .second, .val (.int (1 : Int32))] [])) (fun _ k => XS.dstoreN X0.here hx rfl (hb hby d1_23) rfl (l' := #[.val (.ref a), .val (.ref b), .val (.double s1), .second, .val (.int (1 : Int32))]) rfl k) ?_
  refine Goes.by (T' := s₁) (g' := (mkF m 27 #[.val (.ref a), .val (.ref b), .val (.double s1), .second, .val (.int (2 : Int32))] [])) (fun _ k => XS.iinc X0.here hx rfl (hb hby d1_24) rfl (l' := #[.val (.ref a), .val (.ref b), .val (.double s1), .second, .val (.int (2 : Int32))]) rfl k) ?_
  refine Goes.by (T' := s₁) (g' := (mkF m 5 #[.val (.ref a), .val (.ref b), .val (.double s1), .second, .val (.int (2 : Int32))] [])) (fun _ k => XS.goto X0.here hx rfl (pc0 := 27) (pc' := 5) rfl (hb hby d1_27) (by decide) (by decide) k) ?_
  refine Goes.by (T' := s₁) (g' := (mkF m 7 #[.val (.ref a), .val (.ref b), .val (.double s1), .second, .val (.int (2 : Int32))] [(.int (2 : Int32))])) (fun _ k => XS.iload X0.here hx rfl (hb hby d1_5) rfl k) ?_
  refine Goes.by (T' := s₁) (g' := (mkF m 8 #[.val (.ref a), .val (.ref b), .val (.double s1), .second, .val (.int (2 : Int32))] [(.ref a), (.int (2 : Int32))])) (fun _ k => XS.aloadN X0.here hx rfl (hb hby d1_7) rfl rfl k) ?_
  refine Goes.by (T' := s₁) (g' := (mkF m 9 #[.val (.ref a), .val (.ref b), .val (.double s1), .second, .val (.int (2 : Int32))] [(.int (3 : Int32)), (.int (2 : Int32))])) (lenS X0 hx hZ e0 VA (n := (3 : Int32)) rfl (g := (mkF m 8 #[.val (.ref a), .val (.ref b), .val (.double s1), .second, .val (.int (2 : Int32))] [(.ref a), (.int (2 : Int32))])) rfl rfl (hb hby d1_8)) ?_
  refine Goes.by (T' := s₁) (g' := (mkF m 12 #[.val (.ref a), .val (.ref b), .val (.double s1), .second, .val (.int (2 : Int32))] [])) (fun _ k => XS.icmpNo X0.here hx rfl (hb hby d1_9) rfl (by decide) k) ?_
  refine Goes.by (T' := s₁) (g' := (mkF m 13 #[.val (.ref a), .val (.ref b), .val (.double s1), .second, .val (.int (2 : Int32))] [(.double s1)])) (fun _ k => XS.dloadN X0.here hx rfl (hb hby d1_12) rfl k) ?_
  refine Goes.by (T' := s₁) (g' := (mkF m 14 #[.val (.ref a), .val (.ref b), .val (.double s1), .second, .val (.int (2 : Int32))] [(.ref a), (.double s1)])) (fun _ k => XS.aloadN X0.here hx rfl (hb hby d1_13) rfl rfl k) ?_
  refine Goes.by (T' := s₁) (g' := (mkF m 16 #[.val (.ref a), .val (.ref b), .val (.double s1), .second, .val (.int (2 : Int32))] [(.int (2 : Int32)), (.ref a), (.double s1)])) (fun _ k => XS.iload X0.here hx rfl (hb hby d1_14) rfl k) ?_
  refine Goes.by (T' := s₁) (g' := (mkF m 17 #[.val (.ref a), .val (.ref b), .val (.double s1), .second, .val (.int (2 : Int32))] [(.double u2), (.double s1)])) (ldDS X0 hx hZ e0 VA (v := (.double u2)) (j := (2 : Int32)) 2 (by decide) rfl (g := (mkF m 16 #[.val (.ref a), .val (.ref b), .val (.double s1), .second, .val (.int (2 : Int32))] [(.int (2 : Int32)), (.ref a), (.double s1)])) rfl rfl (hb hby d1_16)) ?_
  refine Goes.by (T' := s₁) (g' := (mkF m 18 #[.val (.ref a), .val (.ref b), .val (.double s1), .second, .val (.int (2 : Int32))] [(.ref b), (.double u2), (.double s1)])) (fun _ k => XS.aloadN X0.here hx rfl (hb hby d1_17) rfl rfl k) ?_
  refine Goes.by (T' := s₁) (g' := (mkF m 20 #[.val (.ref a), .val (.ref b), .val (.double s1), .second, .val (.int (2 : Int32))] [(.int (2 : Int32)), (.ref b), (.double u2), (.double s1)])) (fun _ k => XS.iload X0.here hx rfl (hb hby d1_18) rfl k) ?_
  refine Goes.by (T' := s₁) (g' := (mkF m 21 #[.val (.ref a), .val (.ref b), .val (.double s1), .second, .val (.int (2 : Int32))] [(.double v2), (.double u2), (.double s1)])) (ldDS X0 hx hZ e0 VB (v := (.double v2)) (j := (2 : Int32)) 2 (by decide) rfl (g := (mkF m 20 #[.val (.ref a), .val (.ref b), .val (.double s1), .second, .val (.int (2 : Int32))] [(.int (2 : Int32)), (.ref b), (.double u2), (.double s1)])) rfl rfl (hb hby d1_20)) ?_
  obtain ⟨p2, hp2⟩ : ∃ z : Int, z = i2 * j2 := ⟨_, rfl⟩
  have bp2 : p2.natAbs ≤ 32768 * 32768 := by rw [hp2]; exact own_mb bi2 bj2
  obtain ⟨m2, q_m2⟩ : ∃ zz, FP.dmul u2 v2 = zz := ⟨_, rfl⟩
  have DM2 : Core.DInt p2 m2 := by rw [hp2]; exact DInt_mul q_m2 I2 J2 (by rw [← hp2]; omega)
  refine Goes.by (T' := s₁) (g' := (mkF m 22 #[.val (.ref a), .val (.ref b), .val (.double s1), .second, .val (.int (2 : Int32))] [(.double m2), (.double s1)])) (fun _ k => XS.dmulS X0.here hx rfl (hb hby d1_21) rfl (by rw [q_m2]; exact DInt_nn DM2) q_m2 k) ?_
  obtain ⟨s2, q_s2⟩ : ∃ zz, FP.dadd s1 m2 = zz := ⟨_, rfl⟩
  have DS2 := DInt_add q_s2 DS1 DM2 (by omega)
  refine Goes.by (T' := s₁) (g' := (mkF m 23 #[.val (.ref a), .val (.ref b), .val (.double s1), .second, .val (.int (2 : Int32))] [(.double s2)])) (fun _ k => XS.daddS X0.here hx rfl (hb hby d1_22) rfl (by rw [q_s2]; exact DInt_nn DS2) q_s2 k) ?_
  refine Goes.by (T' := s₁) (g' := (mkF m 24 #[.val (.ref a), .val (.ref b), .val (.double s2), .second, .val (.int (2 : Int32))] [])) (fun _ k => XS.dstoreN X0.here hx rfl (hb hby d1_23) rfl (l' := #[.val (.ref a), .val (.ref b), .val (.double s2), .second, .val (.int (2 : Int32))]) rfl k) ?_
  refine Goes.by (T' := s₁) (g' := (mkF m 27 #[.val (.ref a), .val (.ref b), .val (.double s2), .second, .val (.int (3 : Int32))] [])) (fun _ k => XS.iinc X0.here hx rfl (hb hby d1_24) rfl (l' := #[.val (.ref a), .val (.ref b), .val (.double s2), .second, .val (.int (3 : Int32))]) rfl k) ?_
  refine Goes.by (T' := s₁) (g' := (mkF m 5 #[.val (.ref a), .val (.ref b), .val (.double s2), .second, .val (.int (3 : Int32))] [])) (fun _ k => XS.goto X0.here hx rfl (pc0 := 27) (pc' := 5) rfl (hb hby d1_27) (by decide) (by decide) k) ?_
  refine Goes.by (T' := s₁) (g' := (mkF m 7 #[.val (.ref a), .val (.ref b), .val (.double s2), .second, .val (.int (3 : Int32))] [(.int (3 : Int32))])) (fun _ k => XS.iload X0.here hx rfl (hb hby d1_5) rfl k) ?_
  refine Goes.by (T' := s₁) (g' := (mkF m 8 #[.val (.ref a), .val (.ref b), .val (.double s2), .second, .val (.int (3 : Int32))] [(.ref a), (.int (3 : Int32))])) (fun _ k => XS.aloadN X0.here hx rfl (hb hby d1_7) rfl rfl k) ?_
  refine Goes.by (T' := s₁) (g' := (mkF m 9 #[.val (.ref a), .val (.ref b), .val (.double s2), .second, .val (.int (3 : Int32))] [(.int (3 : Int32)), (.int (3 : Int32))])) (lenS X0 hx hZ e0 VA (n := (3 : Int32)) rfl (g := (mkF m 8 #[.val (.ref a), .val (.ref b), .val (.double s2), .second, .val (.int (3 : Int32))] [(.ref a), (.int (3 : Int32))])) rfl rfl (hb hby d1_8)) ?_
  refine Goes.by (T' := s₁) (g' := (mkF m 30 #[.val (.ref a), .val (.ref b), .val (.double s2), .second, .val (.int (3 : Int32))] [])) (fun _ k => XS.icmpYes X0.here hx rfl (pc0 := 9) (pc' := 30) rfl (hb hby d1_9) rfl (by decide) (by decide) (by decide) k) ?_
  refine Goes.by (T' := s₁) (g' := (mkF m 31 #[.val (.ref a), .val (.ref b), .val (.double s2), .second, .val (.int (3 : Int32))] [(.double s2)])) (fun _ k => XS.dloadN X0.here hx rfl (hb hby d1_30) rfl k) ?_
  exact outD X0 hx hlk hret (hb hby d1_31) (by rw [e0]; exact ⟨⟨_, rfl, by subst hp0 hp1 hp2; exact DS2⟩, N0, rfl⟩) (by decide) (by decide)
theorem pn1 : plainName "com/example/adhoq/adhoq/VectorsDotPinLaw" = true := by first | (simp [plainName, overriddenIn]; done) | decide +kernel
theorem ef_rm_law (m : MethodId) (x0 : Int32) (x1 : Int32) (x2 : Int32) (x3 : Int32) : entryFrame m #[(.int x0), (.int x1), (.int x2), (.int x3)] maxLocals = mkF m 0 #[.val (.int x0), .val (.int x1), .val (.int x2), .val (.int x3), .unset, .unset, .unset, .unset, .unset, .unset, .unset, .unset, .unset, .unset, .unset, .unset, .unset] [] := by first | (simp [entryFrame, mkF, argsToLocals, Value.category, maxLocals]; done) | rfl
set_option maxRecDepth 65536 in
set_option maxHeartbeats 40000000 in
theorem rm_law (l : Launch) (Z : State) (a0 : Array Value) (hw : ∀ d ∈ tables_1, d.before a0 Z = true) (x0 x1 x2 x3 : Int32) (h0 : Heap) (n0 : Nat) (Z0 : n0 ≤ h0.size)  :
    Does l x code maxLocals ret tables_1 room_1 Z #[(.int x0), (.int x1), (.int x2), (.int x3)] h0 (fun v h L => v = some (.int 1) ∧ Fr n0 L) := by
  refine Does.of (plainFor_of_name pn1) ?_
  intro p e s m below meth c s₁ hx hby hml hret hlk hZ hown hnm X0 e0
  have N0 := Fr.nil n0
  refine Goes.cast (g' := mkF m 0 #[.val (.int x0), .val (.int x1), .val (.int x2), .val (.int x3), .unset, .unset, .unset, .unset, .unset, .unset, .unset, .unset, .unset, .unset, .unset, .unset, .unset] []) (ef_rm_law m x0 x1 x2 x3) ?_
  refine Goes.by (T' := s₁) (g' := (mkF m 1 #[.val (.int x0), .val (.int x1), .val (.int x2), .val (.int x3), .unset, .unset, .unset, .unset, .unset, .unset, .unset, .unset, .unset, .unset, .unset, .unset, .unset] [(.int x0)])) (fun _ k => XS.iloadN X0.here hx rfl (hb hby at_0) rfl k) ?_
  refine Goes.by (T' := s₁) (g' := (mkF m 2 #[.val (.int x0), .val (.int x1), .val (.int x2), .val (.int x3), .unset, .unset, .unset, .unset, .unset, .unset, .unset, .unset, .unset, .unset, .unset, .unset, .unset] [(.int (3 : Int32)), (.int x0)])) (fun _ k => XS.iconst X0.here hx rfl (hb hby at_1)  k) ?_
  refine Goes.by (T' := s₁) (g' := (mkF m 3 #[.val (.int x0), .val (.int x1), .val (.int x2), .val (.int x3), .unset, .unset, .unset, .unset, .unset, .unset, .unset, .unset, .unset, .unset, .unset, .unset, .unset] [(.int (x0 &&& (3 : Int32)))])) (fun _ k => XS.iand X0.here hx rfl (hb hby at_2) rfl k) ?_
  obtain ⟨n, q_n⟩ : ∃ zz : Int32, zz = (x0 &&& (3 : Int32)) := ⟨_, rfl⟩
  rw [← q_n]
  refine Goes.by (T' := s₁) (g' := (mkF m 5 #[.val (.int x0), .val (.int x1), .val (.int x2), .val (.int x3), .val (.int n), .unset, .unset, .unset, .unset, .unset, .unset, .unset, .unset, .unset, .unset, .unset, .unset] [])) (fun _ k => XS.istore X0.here hx rfl (hb hby at_3) rfl (l' := #[.val (.int x0), .val (.int x1), .val (.int x2), .val (.int x3), .val (.int n), .unset, .unset, .unset, .unset, .unset, .unset, .unset, .unset, .unset, .unset, .unset, .unset]) rfl k) ?_
  refine Goes.by (T' := s₁) (g' := (mkF m 6 #[.val (.int x0), .val (.int x1), .val (.int x2), .val (.int x3), .val (.int n), .unset, .unset, .unset, .unset, .unset, .unset, .unset, .unset, .unset, .unset, .unset, .unset] [(.int x1)])) (fun _ k => XS.iloadN X0.here hx rfl (hb hby at_5) rfl k) ?_
  refine Goes.by (T' := s₁) (g' := (mkF m 7 #[.val (.int x0), .val (.int x1), .val (.int x2), .val (.int x3), .val (.int n), .unset, .unset, .unset, .unset, .unset, .unset, .unset, .unset, .unset, .unset, .unset, .unset] [(.int ((x1).toInt16.toInt32))])) (fun _ k => XS.i2s X0.here hx rfl (hb hby at_6) rfl k) ?_
  obtain ⟨y0, q_y0⟩ : ∃ zz : Int32, zz = ((x1).toInt16.toInt32) := ⟨_, rfl⟩
  rw [← q_y0]
  refine Goes.by (T' := s₁) (g' := (mkF m 9 #[.val (.int x0), .val (.int x1), .val (.int x2), .val (.int x3), .val (.int n), .val (.int y0), .unset, .unset, .unset, .unset, .unset, .unset, .unset, .unset, .unset, .unset, .unset] [])) (fun _ k => XS.istore X0.here hx rfl (hb hby at_7) rfl (l' := #[.val (.int x0), .val (.int x1), .val (.int x2), .val (.int x3), .val (.int n), .val (.int y0), .unset, .unset, .unset, .unset, .unset, .unset, .unset, .unset, .unset, .unset, .unset]) rfl k) ?_
  refine Goes.by (T' := s₁) (g' := (mkF m 10 #[.val (.int x0), .val (.int x1), .val (.int x2), .val (.int x3), .val (.int n), .val (.int y0), .unset, .unset, .unset, .unset, .unset, .unset, .unset, .unset, .unset, .unset, .unset] [(.int x1)])) (fun _ k => XS.iloadN X0.here hx rfl (hb hby at_9) rfl k) ?_
  refine Goes.by (T' := s₁) (g' := (mkF m 12 #[.val (.int x0), .val (.int x1), .val (.int x2), .val (.int x3), .val (.int n), .val (.int y0), .unset, .unset, .unset, .unset, .unset, .unset, .unset, .unset, .unset, .unset, .unset] [(.int (16 : Int32)), (.int x1)])) (fun _ k => XS.bipush X0.here hx rfl (hb hby at_10)  k) ?_
  refine Goes.by (T' := s₁) (g' := (mkF m 13 #[.val (.int x0), .val (.int x1), .val (.int x2), .val (.int x3), .val (.int n), .val (.int y0), .unset, .unset, .unset, .unset, .unset, .unset, .unset, .unset, .unset, .unset, .unset] [(.int (x1 >>> ((16 : Int32) &&& 31)))])) (fun _ k => XS.ishr X0.here hx rfl (hb hby at_12) rfl k) ?_
  refine Goes.by (T' := s₁) (g' := (mkF m 14 #[.val (.int x0), .val (.int x1), .val (.int x2), .val (.int x3), .val (.int n), .val (.int y0), .unset, .unset, .unset, .unset, .unset, .unset, .unset, .unset, .unset, .unset, .unset] [(.int (((x1 >>> ((16 : Int32) &&& 31))).toInt16.toInt32))])) (fun _ k => XS.i2s X0.here hx rfl (hb hby at_13) rfl k) ?_
  obtain ⟨y1, q_y1⟩ : ∃ zz : Int32, zz = (((x1 >>> ((16 : Int32) &&& 31))).toInt16.toInt32) := ⟨_, rfl⟩
  rw [← q_y1]
  refine Goes.by (T' := s₁) (g' := (mkF m 16 #[.val (.int x0), .val (.int x1), .val (.int x2), .val (.int x3), .val (.int n), .val (.int y0), .val (.int y1), .unset, .unset, .unset, .unset, .unset, .unset, .unset, .unset, .unset, .unset] [])) (fun _ k => XS.istore X0.here hx rfl (hb hby at_14) rfl (l' := #[.val (.int x0), .val (.int x1), .val (.int x2), .val (.int x3), .val (.int n), .val (.int y0), .val (.int y1), .unset, .unset, .unset, .unset, .unset, .unset, .unset, .unset, .unset, .unset]) rfl k) ?_
  refine Goes.by (T' := s₁) (g' := (mkF m 17 #[.val (.int x0), .val (.int x1), .val (.int x2), .val (.int x3), .val (.int n), .val (.int y0), .val (.int y1), .unset, .unset, .unset, .unset, .unset, .unset, .unset, .unset, .unset, .unset] [(.int x2)])) (fun _ k => XS.iloadN X0.here hx rfl (hb hby at_16) rfl k) ?_
  refine Goes.by (T' := s₁) (g' := (mkF m 18 #[.val (.int x0), .val (.int x1), .val (.int x2), .val (.int x3), .val (.int n), .val (.int y0), .val (.int y1), .unset, .unset, .unset, .unset, .unset, .unset, .unset, .unset, .unset, .unset] [(.int ((x2).toInt16.toInt32))])) (fun _ k => XS.i2s X0.here hx rfl (hb hby at_17) rfl k) ?_
  obtain ⟨y2, q_y2⟩ : ∃ zz : Int32, zz = ((x2).toInt16.toInt32) := ⟨_, rfl⟩
  rw [← q_y2]
  refine Goes.by (T' := s₁) (g' := (mkF m 20 #[.val (.int x0), .val (.int x1), .val (.int x2), .val (.int x3), .val (.int n), .val (.int y0), .val (.int y1), .val (.int y2), .unset, .unset, .unset, .unset, .unset, .unset, .unset, .unset, .unset] [])) (fun _ k => XS.istore X0.here hx rfl (hb hby at_18) rfl (l' := #[.val (.int x0), .val (.int x1), .val (.int x2), .val (.int x3), .val (.int n), .val (.int y0), .val (.int y1), .val (.int y2), .unset, .unset, .unset, .unset, .unset, .unset, .unset, .unset, .unset]) rfl k) ?_
  refine Goes.by (T' := s₁) (g' := (mkF m 21 #[.val (.int x0), .val (.int x1), .val (.int x2), .val (.int x3), .val (.int n), .val (.int y0), .val (.int y1), .val (.int y2), .unset, .unset, .unset, .unset, .unset, .unset, .unset, .unset, .unset] [(.int x2)])) (fun _ k => XS.iloadN X0.here hx rfl (hb hby at_20) rfl k) ?_
  refine Goes.by (T' := s₁) (g' := (mkF m 23 #[.val (.int x0), .val (.int x1), .val (.int x2), .val (.int x3), .val (.int n), .val (.int y0), .val (.int y1), .val (.int y2), .unset, .unset, .unset, .unset, .unset, .unset, .unset, .unset, .unset] [(.int (16 : Int32)), (.int x2)])) (fun _ k => XS.bipush X0.here hx rfl (hb hby at_21)  k) ?_
  refine Goes.by (T' := s₁) (g' := (mkF m 24 #[.val (.int x0), .val (.int x1), .val (.int x2), .val (.int x3), .val (.int n), .val (.int y0), .val (.int y1), .val (.int y2), .unset, .unset, .unset, .unset, .unset, .unset, .unset, .unset, .unset] [(.int (x2 >>> ((16 : Int32) &&& 31)))])) (fun _ k => XS.ishr X0.here hx rfl (hb hby at_23) rfl k) ?_
  refine Goes.by (T' := s₁) (g' := (mkF m 25 #[.val (.int x0), .val (.int x1), .val (.int x2), .val (.int x3), .val (.int n), .val (.int y0), .val (.int y1), .val (.int y2), .unset, .unset, .unset, .unset, .unset, .unset, .unset, .unset, .unset] [(.int (((x2 >>> ((16 : Int32) &&& 31))).toInt16.toInt32))])) (fun _ k => XS.i2s X0.here hx rfl (hb hby at_24) rfl k) ?_
  obtain ⟨y3, q_y3⟩ : ∃ zz : Int32, zz = (((x2 >>> ((16 : Int32) &&& 31))).toInt16.toInt32) := ⟨_, rfl⟩
  rw [← q_y3]
  refine Goes.by (T' := s₁) (g' := (mkF m 27 #[.val (.int x0), .val (.int x1), .val (.int x2), .val (.int x3), .val (.int n), .val (.int y0), .val (.int y1), .val (.int y2), .val (.int y3), .unset, .unset, .unset, .unset, .unset, .unset, .unset, .unset] [])) (fun _ k => XS.istore X0.here hx rfl (hb hby at_25) rfl (l' := #[.val (.int x0), .val (.int x1), .val (.int x2), .val (.int x3), .val (.int n), .val (.int y0), .val (.int y1), .val (.int y2), .val (.int y3), .unset, .unset, .unset, .unset, .unset, .unset, .unset, .unset]) rfl k) ?_
  refine Goes.by (T' := s₁) (g' := (mkF m 28 #[.val (.int x0), .val (.int x1), .val (.int x2), .val (.int x3), .val (.int n), .val (.int y0), .val (.int y1), .val (.int y2), .val (.int y3), .unset, .unset, .unset, .unset, .unset, .unset, .unset, .unset] [(.int x3)])) (fun _ k => XS.iloadN X0.here hx rfl (hb hby at_27) rfl k) ?_
  refine Goes.by (T' := s₁) (g' := (mkF m 29 #[.val (.int x0), .val (.int x1), .val (.int x2), .val (.int x3), .val (.int n), .val (.int y0), .val (.int y1), .val (.int y2), .val (.int y3), .unset, .unset, .unset, .unset, .unset, .unset, .unset, .unset] [(.int ((x3).toInt16.toInt32))])) (fun _ k => XS.i2s X0.here hx rfl (hb hby at_28) rfl k) ?_
  obtain ⟨y4, q_y4⟩ : ∃ zz : Int32, zz = ((x3).toInt16.toInt32) := ⟨_, rfl⟩
  rw [← q_y4]
  refine Goes.by (T' := s₁) (g' := (mkF m 31 #[.val (.int x0), .val (.int x1), .val (.int x2), .val (.int x3), .val (.int n), .val (.int y0), .val (.int y1), .val (.int y2), .val (.int y3), .val (.int y4), .unset, .unset, .unset, .unset, .unset, .unset, .unset] [])) (fun _ k => XS.istore X0.here hx rfl (hb hby at_29) rfl (l' := #[.val (.int x0), .val (.int x1), .val (.int x2), .val (.int x3), .val (.int n), .val (.int y0), .val (.int y1), .val (.int y2), .val (.int y3), .val (.int y4), .unset, .unset, .unset, .unset, .unset, .unset, .unset]) rfl k) ?_
  refine Goes.by (T' := s₁) (g' := (mkF m 32 #[.val (.int x0), .val (.int x1), .val (.int x2), .val (.int x3), .val (.int n), .val (.int y0), .val (.int y1), .val (.int y2), .val (.int y3), .val (.int y4), .unset, .unset, .unset, .unset, .unset, .unset, .unset] [(.int x3)])) (fun _ k => XS.iloadN X0.here hx rfl (hb hby at_31) rfl k) ?_
  refine Goes.by (T' := s₁) (g' := (mkF m 34 #[.val (.int x0), .val (.int x1), .val (.int x2), .val (.int x3), .val (.int n), .val (.int y0), .val (.int y1), .val (.int y2), .val (.int y3), .val (.int y4), .unset, .unset, .unset, .unset, .unset, .unset, .unset] [(.int (16 : Int32)), (.int x3)])) (fun _ k => XS.bipush X0.here hx rfl (hb hby at_32)  k) ?_
  refine Goes.by (T' := s₁) (g' := (mkF m 35 #[.val (.int x0), .val (.int x1), .val (.int x2), .val (.int x3), .val (.int n), .val (.int y0), .val (.int y1), .val (.int y2), .val (.int y3), .val (.int y4), .unset, .unset, .unset, .unset, .unset, .unset, .unset] [(.int (x3 >>> ((16 : Int32) &&& 31)))])) (fun _ k => XS.ishr X0.here hx rfl (hb hby at_34) rfl k) ?_
  refine Goes.by (T' := s₁) (g' := (mkF m 36 #[.val (.int x0), .val (.int x1), .val (.int x2), .val (.int x3), .val (.int n), .val (.int y0), .val (.int y1), .val (.int y2), .val (.int y3), .val (.int y4), .unset, .unset, .unset, .unset, .unset, .unset, .unset] [(.int (((x3 >>> ((16 : Int32) &&& 31))).toInt16.toInt32))])) (fun _ k => XS.i2s X0.here hx rfl (hb hby at_35) rfl k) ?_
  obtain ⟨y5, q_y5⟩ : ∃ zz : Int32, zz = (((x3 >>> ((16 : Int32) &&& 31))).toInt16.toInt32) := ⟨_, rfl⟩
  rw [← q_y5]
  refine Goes.by (T' := s₁) (g' := (mkF m 38 #[.val (.int x0), .val (.int x1), .val (.int x2), .val (.int x3), .val (.int n), .val (.int y0), .val (.int y1), .val (.int y2), .val (.int y3), .val (.int y4), .val (.int y5), .unset, .unset, .unset, .unset, .unset, .unset] [])) (fun _ k => XS.istore X0.here hx rfl (hb hby at_36) rfl (l' := #[.val (.int x0), .val (.int x1), .val (.int x2), .val (.int x3), .val (.int n), .val (.int y0), .val (.int y1), .val (.int y2), .val (.int y3), .val (.int y4), .val (.int y5), .unset, .unset, .unset, .unset, .unset, .unset]) rfl k) ?_
  refine Goes.by (T' := s₁) (g' := (mkF m 40 #[.val (.int x0), .val (.int x1), .val (.int x2), .val (.int x3), .val (.int n), .val (.int y0), .val (.int y1), .val (.int y2), .val (.int y3), .val (.int y4), .val (.int y5), .unset, .unset, .unset, .unset, .unset, .unset] [(.int n)])) (fun _ k => XS.iload X0.here hx rfl (hb hby at_38) rfl k) ?_
  have by0 : y0.toInt.natAbs ≤ 32768 := by rw [q_y0]; exact own_short _
  have by1 : y1.toInt.natAbs ≤ 32768 := by rw [q_y1]; exact own_short _
  have by2 : y2.toInt.natAbs ≤ 32768 := by rw [q_y2]; exact own_short _
  have by3 : y3.toInt.natAbs ≤ 32768 := by rw [q_y3]; exact own_short _
  have by4 : y4.toInt.natAbs ≤ 32768 := by rw [q_y4]; exact own_short _
  have by5 : y5.toInt.natAbs ≤ 32768 := by rw [q_y5]; exact own_short _
  rcases (q_n ▸ own_and3 x0 : n = 0 ∨ n = 1 ∨ n = 2 ∨ n = 3) with hn | hn | hn | hn
  · subst hn
    obtain ⟨T1, h1, k1, X1, e1, E1, A1, st1⟩ := newP X0 hx hZ (hw _ (List.mem_of_getElem? (i := 0) rfl)) e0 (g := (mkF m 40 #[.val (.int x0), .val (.int x1), .val (.int x2), .val (.int x3), .val (.int (0 : Int32)), .val (.int y0), .val (.int y1), .val (.int y2), .val (.int y3), .val (.int y4), .val (.int y5), .unset, .unset, .unset, .unset, .unset, .unset] [(.int (0 : Int32))])) rfl (hb hby at_40) rfl (by decide) (cap := 0) (by decide) (by decide) (by decide) (by decide)
    obtain ⟨ba, g1⟩ : ∃ z, z = h0.size := ⟨_, rfl⟩
    rw [← g1] at A1 st1
    have ge_ba : n0 ≤ ba := Nat.le_trans Z0 (Nat.le_of_eq g1.symm)
    have Z0 := Nat.le_trans Z0 E1.1
    have V_ba : Sar Z h1 ba .double [] := Sar.new (n := 0) A1 (by decide)
    refine Goes.by (T' := T1) (g' := (mkF m 42 #[.val (.int x0), .val (.int x1), .val (.int x2), .val (.int x3), .val (.int (0 : Int32)), .val (.int y0), .val (.int y1), .val (.int y2), .val (.int y3), .val (.int y4), .val (.int y5), .unset, .unset, .unset, .unset, .unset, .unset] [(.ref ba)])) st1 ?_
    refine Goes.by (T' := T1) (g' := (mkF m 44 #[.val (.int x0), .val (.int x1), .val (.int x2), .val (.int x3), .val (.int (0 : Int32)), .val (.int y0), .val (.int y1), .val (.int y2), .val (.int y3), .val (.int y4), .val (.int y5), .val (.ref ba), .unset, .unset, .unset, .unset, .unset] [])) (fun _ k => XS.astore X1.here hx rfl (hb hby at_42) rfl rfl (l' := #[.val (.int x0), .val (.int x1), .val (.int x2), .val (.int x3), .val (.int (0 : Int32)), .val (.int y0), .val (.int y1), .val (.int y2), .val (.int y3), .val (.int y4), .val (.int y5), .val (.ref ba), .unset, .unset, .unset, .unset, .unset]) rfl k) ?_
    refine Goes.by (T' := T1) (g' := (mkF m 46 #[.val (.int x0), .val (.int x1), .val (.int x2), .val (.int x3), .val (.int (0 : Int32)), .val (.int y0), .val (.int y1), .val (.int y2), .val (.int y3), .val (.int y4), .val (.int y5), .val (.ref ba), .unset, .unset, .unset, .unset, .unset] [(.int (0 : Int32))])) (fun _ k => XS.iload X1.here hx rfl (hb hby at_44) rfl k) ?_
    obtain ⟨T2, h2, k2, X2, e2, E2, A2, st2⟩ := newP X1 hx hZ (hw _ (List.mem_of_getElem? (i := 0) rfl)) e1 (g := (mkF m 46 #[.val (.int x0), .val (.int x1), .val (.int x2), .val (.int x3), .val (.int (0 : Int32)), .val (.int y0), .val (.int y1), .val (.int y2), .val (.int y3), .val (.int y4), .val (.int y5), .val (.ref ba), .unset, .unset, .unset, .unset, .unset] [(.int (0 : Int32))])) rfl (hb hby at_46) rfl (by decide) (cap := 0) (by decide) (by decide) (by decide) (by decide)
    obtain ⟨bb, g2⟩ : ∃ z, z = h1.size := ⟨_, rfl⟩
    rw [← g2] at A2 st2
    have ne_ba_bb : ba ≠ bb := fun q => Nat.lt_irrefl _ (Nat.lt_of_lt_of_eq V_ba.lt (g2.symm.trans q.symm))
    have ge_bb : n0 ≤ bb := Nat.le_trans Z0 (Nat.le_of_eq g2.symm)
    have V_ba := V_ba.ext E2
    have Z0 := Nat.le_trans Z0 E2.1
    have V_bb : Sar Z h2 bb .double [] := Sar.new (n := 0) A2 (by decide)
    refine Goes.by (T' := T2) (g' := (mkF m 48 #[.val (.int x0), .val (.int x1), .val (.int x2), .val (.int x3), .val (.int (0 : Int32)), .val (.int y0), .val (.int y1), .val (.int y2), .val (.int y3), .val (.int y4), .val (.int y5), .val (.ref ba), .unset, .unset, .unset, .unset, .unset] [(.ref bb)])) st2 ?_
    refine Goes.by (T' := T2) (g' := (mkF m 50 #[.val (.int x0), .val (.int x1), .val (.int x2), .val (.int x3), .val (.int (0 : Int32)), .val (.int y0), .val (.int y1), .val (.int y2), .val (.int y3), .val (.int y4), .val (.int y5), .val (.ref ba), .val (.ref bb), .unset, .unset, .unset, .unset] [])) (fun _ k => XS.astore X2.here hx rfl (hb hby at_48) rfl rfl (l' := #[.val (.int x0), .val (.int x1), .val (.int x2), .val (.int x3), .val (.int (0 : Int32)), .val (.int y0), .val (.int y1), .val (.int y2), .val (.int y3), .val (.int y4), .val (.int y5), .val (.ref ba), .val (.ref bb), .unset, .unset, .unset, .unset]) rfl k) ?_
    refine Goes.by (T' := T2) (g' := (mkF m 51 #[.val (.int x0), .val (.int x1), .val (.int x2), .val (.int x3), .val (.int (0 : Int32)), .val (.int y0), .val (.int y1), .val (.int y2), .val (.int y3), .val (.int y4), .val (.int y5), .val (.ref ba), .val (.ref bb), .unset, .unset, .unset, .unset] [(.long (0 : Int64))])) (fun _ k => XS.lconst X2.here hx rfl (hb hby at_50)  k) ?_
    refine Goes.by (T' := T2) (g' := (mkF m 53 #[.val (.int x0), .val (.int x1), .val (.int x2), .val (.int x3), .val (.int (0 : Int32)), .val (.int y0), .val (.int y1), .val (.int y2), .val (.int y3), .val (.int y4), .val (.int y5), .val (.ref ba), .val (.ref bb), .val (.long (0 : Int64)), .second, .unset, .unset] [])) (fun _ k => XS.lstore X2.here hx rfl (hb hby at_51) rfl (l' := #[.val (.int x0), .val (.int x1), .val (.int x2), .val (.int x3), .val (.int (0 : Int32)), .val (.int y0), .val (.int y1), .val (.int y2), .val (.int y3), .val (.int y4), .val (.int y5), .val (.ref ba), .val (.ref bb), .val (.long (0 : Int64)), .second, .unset, .unset]) rfl k) ?_
    refine Goes.by (T' := T2) (g' := (mkF m 55 #[.val (.int x0), .val (.int x1), .val (.int x2), .val (.int x3), .val (.int (0 : Int32)), .val (.int y0), .val (.int y1), .val (.int y2), .val (.int y3), .val (.int y4), .val (.int y5), .val (.ref ba), .val (.ref bb), .val (.long (0 : Int64)), .second, .unset, .unset] [(.int (0 : Int32))])) (fun _ k => XS.iload X2.here hx rfl (hb hby at_53) rfl k) ?_
    refine Goes.by (T' := T2) (g' := (mkF m 84 #[.val (.int x0), .val (.int x1), .val (.int x2), .val (.int x3), .val (.int (0 : Int32)), .val (.int y0), .val (.int y1), .val (.int y2), .val (.int y3), .val (.int y4), .val (.int y5), .val (.ref ba), .val (.ref bb), .val (.long (0 : Int64)), .second, .unset, .unset] [])) (fun _ k => XS.ifYes X2.here hx rfl (pc0 := 55) (pc' := 84) rfl (hb hby at_55) rfl (by decide) (by decide) (by decide) k) ?_
    refine Goes.by (T' := T2) (g' := (mkF m 86 #[.val (.int x0), .val (.int x1), .val (.int x2), .val (.int x3), .val (.int (0 : Int32)), .val (.int y0), .val (.int y1), .val (.int y2), .val (.int y3), .val (.int y4), .val (.int y5), .val (.ref ba), .val (.ref bb), .val (.long (0 : Int64)), .second, .unset, .unset] [(.int (0 : Int32))])) (fun _ k => XS.iload X2.here hx rfl (hb hby at_84) rfl k) ?_
    refine Goes.by (T' := T2) (g' := (mkF m 87 #[.val (.int x0), .val (.int x1), .val (.int x2), .val (.int x3), .val (.int (0 : Int32)), .val (.int y0), .val (.int y1), .val (.int y2), .val (.int y3), .val (.int y4), .val (.int y5), .val (.ref ba), .val (.ref bb), .val (.long (0 : Int64)), .second, .unset, .unset] [(.int (1 : Int32)), (.int (0 : Int32))])) (fun _ k => XS.iconst X2.here hx rfl (hb hby at_86)  k) ?_
    refine Goes.by (T' := T2) (g' := (mkF m 116 #[.val (.int x0), .val (.int x1), .val (.int x2), .val (.int x3), .val (.int (0 : Int32)), .val (.int y0), .val (.int y1), .val (.int y2), .val (.int y3), .val (.int y4), .val (.int y5), .val (.ref ba), .val (.ref bb), .val (.long (0 : Int64)), .second, .unset, .unset] [])) (fun _ k => XS.icmpYes X2.here hx rfl (pc0 := 87) (pc' := 116) rfl (hb hby at_87) rfl (by decide) (by decide) (by decide) k) ?_
    refine Goes.by (T' := T2) (g' := (mkF m 118 #[.val (.int x0), .val (.int x1), .val (.int x2), .val (.int x3), .val (.int (0 : Int32)), .val (.int y0), .val (.int y1), .val (.int y2), .val (.int y3), .val (.int y4), .val (.int y5), .val (.ref ba), .val (.ref bb), .val (.long (0 : Int64)), .second, .unset, .unset] [(.int (0 : Int32))])) (fun _ k => XS.iload X2.here hx rfl (hb hby at_116) rfl k) ?_
    refine Goes.by (T' := T2) (g' := (mkF m 119 #[.val (.int x0), .val (.int x1), .val (.int x2), .val (.int x3), .val (.int (0 : Int32)), .val (.int y0), .val (.int y1), .val (.int y2), .val (.int y3), .val (.int y4), .val (.int y5), .val (.ref ba), .val (.ref bb), .val (.long (0 : Int64)), .second, .unset, .unset] [(.int (2 : Int32)), (.int (0 : Int32))])) (fun _ k => XS.iconst X2.here hx rfl (hb hby at_118)  k) ?_
    refine Goes.by (T' := T2) (g' := (mkF m 148 #[.val (.int x0), .val (.int x1), .val (.int x2), .val (.int x3), .val (.int (0 : Int32)), .val (.int y0), .val (.int y1), .val (.int y2), .val (.int y3), .val (.int y4), .val (.int y5), .val (.ref ba), .val (.ref bb), .val (.long (0 : Int64)), .second, .unset, .unset] [])) (fun _ k => XS.icmpYes X2.here hx rfl (pc0 := 119) (pc' := 148) rfl (hb hby at_119) rfl (by decide) (by decide) (by decide) k) ?_
    refine Goes.by (T' := T2) (g' := (mkF m 150 #[.val (.int x0), .val (.int x1), .val (.int x2), .val (.int x3), .val (.int (0 : Int32)), .val (.int y0), .val (.int y1), .val (.int y2), .val (.int y3), .val (.int y4), .val (.int y5), .val (.ref ba), .val (.ref bb), .val (.long (0 : Int64)), .second, .unset, .unset] [(.ref ba)])) (fun _ k => XS.aload X2.here hx rfl (hb hby at_148) rfl rfl k) ?_
    refine Goes.by (T' := T2) (g' := (mkF m 152 #[.val (.int x0), .val (.int x1), .val (.int x2), .val (.int x3), .val (.int (0 : Int32)), .val (.int y0), .val (.int y1), .val (.int y2), .val (.int y3), .val (.int y4), .val (.int y5), .val (.ref ba), .val (.ref bb), .val (.long (0 : Int64)), .second, .unset, .unset] [(.ref bb), (.ref ba)])) (fun _ k => XS.aload X2.here hx rfl (hb hby at_150) rfl rfl k) ?_
    obtain ⟨v3, T3, L3, X3, hQ3, st3⟩ := callC X2 hx hZ (y := (⟨"com/example/adhoq/adhoq/Vectors", "dot", "([D[D)D"⟩ : MethodName)) hown (hw _ (List.mem_of_getElem? (i := 1) rfl)) (hw _ (List.mem_of_getElem? (i := 2) rfl)) (hw _ (List.mem_of_getElem? (i := 4) rfl)) (hw _ (List.mem_of_getElem? (i := 3) rfl)) (by decide) e2 (argsL := [(.ref ba), (.ref bb)]) (rest := []) (W := 0) (rm_dot0 l Z a0 hw ba bb  h2 n0 Z0 V_ba V_bb ) rfl (by decide) (by decide) (by decide) (by decide) (g := (mkF m 152 #[.val (.int x0), .val (.int x1), .val (.int x2), .val (.int x3), .val (.int (0 : Int32)), .val (.int y0), .val (.int y1), .val (.int y2), .val (.int y3), .val (.int y4), .val (.int y5), .val (.ref ba), .val (.ref bb), .val (.long (0 : Int64)), .second, .unset, .unset] [(.ref bb), (.ref ba)])) rfl (by rw [hml]; rfl) (lenOf pd0 rfl) rfl (by show 2 * 0 + _ ≤ _; exact Nat.le_of_eq rfl) (hb hby at_152)
    obtain ⟨⟨dg, rfl, DG⟩, NL3, hk3⟩ := hQ3
    have N0 := Fr.app N0 NL3
    refine Goes.by (T' := T3) (g' := (mkF m 155 #[.val (.int x0), .val (.int x1), .val (.int x2), .val (.int x3), .val (.int (0 : Int32)), .val (.int y0), .val (.int y1), .val (.int y2), .val (.int y3), .val (.int y4), .val (.int y5), .val (.ref ba), .val (.ref bb), .val (.long (0 : Int64)), .second, .unset, .unset] [(.double dg)])) st3 ?_
    refine Goes.by (T' := T3) (g' := (mkF m 157 #[.val (.int x0), .val (.int x1), .val (.int x2), .val (.int x3), .val (.int (0 : Int32)), .val (.int y0), .val (.int y1), .val (.int y2), .val (.int y3), .val (.int y4), .val (.int y5), .val (.ref ba), .val (.ref bb), .val (.long (0 : Int64)), .second, .val (.double dg), .second] [])) (fun _ k => XS.dstore X3.here hx rfl (hb hby at_155) rfl (l' := #[.val (.int x0), .val (.int x1), .val (.int x2), .val (.int x3), .val (.int (0 : Int32)), .val (.int y0), .val (.int y1), .val (.int y2), .val (.int y3), .val (.int y4), .val (.int y5), .val (.ref ba), .val (.ref bb), .val (.long (0 : Int64)), .second, .val (.double dg), .second]) rfl k) ?_
    refine Goes.by (T' := T3) (g' := (mkF m 159 #[.val (.int x0), .val (.int x1), .val (.int x2), .val (.int x3), .val (.int (0 : Int32)), .val (.int y0), .val (.int y1), .val (.int y2), .val (.int y3), .val (.int y4), .val (.int y5), .val (.ref ba), .val (.ref bb), .val (.long (0 : Int64)), .second, .val (.double dg), .second] [(.double dg)])) (fun _ k => XS.dload X3.here hx rfl (hb hby at_157) rfl k) ?_
    refine Goes.by (T' := T3) (g' := (mkF m 161 #[.val (.int x0), .val (.int x1), .val (.int x2), .val (.int x3), .val (.int (0 : Int32)), .val (.int y0), .val (.int y1), .val (.int y2), .val (.int y3), .val (.int y4), .val (.int y5), .val (.ref ba), .val (.ref bb), .val (.long (0 : Int64)), .second, .val (.double dg), .second] [(.long (0 : Int64)), (.double dg)])) (fun _ k => XS.lload X3.here hx rfl (hb hby at_159) rfl k) ?_
    obtain ⟨dr, q_dr⟩ : ∃ zz, FP.l2d (0 : Int64) = zz := ⟨_, rfl⟩
    refine Goes.by (T' := T3) (g' := (mkF m 162 #[.val (.int x0), .val (.int x1), .val (.int x2), .val (.int x3), .val (.int (0 : Int32)), .val (.int y0), .val (.int y1), .val (.int y2), .val (.int y3), .val (.int y4), .val (.int y5), .val (.ref ba), .val (.ref bb), .val (.long (0 : Int64)), .second, .val (.double dg), .second] [(.double dr), (.double dg)])) (fun _ k => XS.l2dS X3.here hx rfl (hb hby at_161) rfl q_dr k) ?_
    have DR : Core.DInt 0 dr := DInt_l2d (x := 0) q_dr (by decide)
    refine Goes.by (T' := T3) (g' := (mkF m 163 #[.val (.int x0), .val (.int x1), .val (.int x2), .val (.int x3), .val (.int (0 : Int32)), .val (.int y0), .val (.int y1), .val (.int y2), .val (.int y3), .val (.int y4), .val (.int y5), .val (.ref ba), .val (.ref bb), .val (.long (0 : Int64)), .second, .val (.double dg), .second] [(.int (0 : Int32))])) (fun _ k => XS.dcmpS X3.here hx rfl (hb hby at_162) rfl (cmpD_eq DG DR rfl _) k) ?_
    refine Goes.by (T' := T3) (g' := (mkF m 166 #[.val (.int x0), .val (.int x1), .val (.int x2), .val (.int x3), .val (.int (0 : Int32)), .val (.int y0), .val (.int y1), .val (.int y2), .val (.int y3), .val (.int y4), .val (.int y5), .val (.ref ba), .val (.ref bb), .val (.long (0 : Int64)), .second, .val (.double dg), .second] [])) (fun _ k => XS.ifNo X3.here hx rfl (hb hby at_163) rfl (by decide) k) ?_
    refine Goes.by (T' := T3) (g' := (mkF m 167 #[.val (.int x0), .val (.int x1), .val (.int x2), .val (.int x3), .val (.int (0 : Int32)), .val (.int y0), .val (.int y1), .val (.int y2), .val (.int y3), .val (.int y4), .val (.int y5), .val (.ref ba), .val (.ref bb), .val (.long (0 : Int64)), .second, .val (.double dg), .second] [(.int (1 : Int32))])) (fun _ k => XS.iconst X3.here hx rfl (hb hby at_166)  k) ?_
    refine Goes.by (T' := T3) (g' := (mkF m 171 #[.val (.int x0), .val (.int x1), .val (.int x2), .val (.int x3), .val (.int (0 : Int32)), .val (.int y0), .val (.int y1), .val (.int y2), .val (.int y3), .val (.int y4), .val (.int y5), .val (.ref ba), .val (.ref bb), .val (.long (0 : Int64)), .second, .val (.double dg), .second] [(.int (1 : Int32))])) (fun _ k => XS.goto X3.here hx rfl (pc0 := 167) (pc' := 171) rfl (hb hby at_167) (by decide) (by decide) k) ?_
    exact outZ X3 hx hlk hret (hb hby at_171) (by exact ⟨rfl, N0⟩) (by decide) (by decide)
  · subst hn
    obtain ⟨T4, h4, k4, X4, e4, E4, A4, st4⟩ := newP X0 hx hZ (hw _ (List.mem_of_getElem? (i := 0) rfl)) e0 (g := (mkF m 40 #[.val (.int x0), .val (.int x1), .val (.int x2), .val (.int x3), .val (.int (1 : Int32)), .val (.int y0), .val (.int y1), .val (.int y2), .val (.int y3), .val (.int y4), .val (.int y5), .unset, .unset, .unset, .unset, .unset, .unset] [(.int (1 : Int32))])) rfl (hb hby at_40) rfl (by decide) (cap := 1) (by decide) (by decide) (by decide) (by decide)
    obtain ⟨ba, g4⟩ : ∃ z, z = h0.size := ⟨_, rfl⟩
    rw [← g4] at A4 st4
    have ge_ba : n0 ≤ ba := Nat.le_trans Z0 (Nat.le_of_eq g4.symm)
    have Z0 := Nat.le_trans Z0 E4.1
    have V_ba : Sar Z h4 ba .double [(.double (0 : UInt64))] := Sar.new (n := 1) A4 (by decide)
    refine Goes.by (T' := T4) (g' := (mkF m 42 #[.val (.int x0), .val (.int x1), .val (.int x2), .val (.int x3), .val (.int (1 : Int32)), .val (.int y0), .val (.int y1), .val (.int y2), .val (.int y3), .val (.int y4), .val (.int y5), .unset, .unset, .unset, .unset, .unset, .unset] [(.ref ba)])) st4 ?_
    refine Goes.by (T' := T4) (g' := (mkF m 44 #[.val (.int x0), .val (.int x1), .val (.int x2), .val (.int x3), .val (.int (1 : Int32)), .val (.int y0), .val (.int y1), .val (.int y2), .val (.int y3), .val (.int y4), .val (.int y5), .val (.ref ba), .unset, .unset, .unset, .unset, .unset] [])) (fun _ k => XS.astore X4.here hx rfl (hb hby at_42) rfl rfl (l' := #[.val (.int x0), .val (.int x1), .val (.int x2), .val (.int x3), .val (.int (1 : Int32)), .val (.int y0), .val (.int y1), .val (.int y2), .val (.int y3), .val (.int y4), .val (.int y5), .val (.ref ba), .unset, .unset, .unset, .unset, .unset]) rfl k) ?_
    refine Goes.by (T' := T4) (g' := (mkF m 46 #[.val (.int x0), .val (.int x1), .val (.int x2), .val (.int x3), .val (.int (1 : Int32)), .val (.int y0), .val (.int y1), .val (.int y2), .val (.int y3), .val (.int y4), .val (.int y5), .val (.ref ba), .unset, .unset, .unset, .unset, .unset] [(.int (1 : Int32))])) (fun _ k => XS.iload X4.here hx rfl (hb hby at_44) rfl k) ?_
    obtain ⟨T5, h5, k5, X5, e5, E5, A5, st5⟩ := newP X4 hx hZ (hw _ (List.mem_of_getElem? (i := 0) rfl)) e4 (g := (mkF m 46 #[.val (.int x0), .val (.int x1), .val (.int x2), .val (.int x3), .val (.int (1 : Int32)), .val (.int y0), .val (.int y1), .val (.int y2), .val (.int y3), .val (.int y4), .val (.int y5), .val (.ref ba), .unset, .unset, .unset, .unset, .unset] [(.int (1 : Int32))])) rfl (hb hby at_46) rfl (by decide) (cap := 1) (by decide) (by decide) (by decide) (by decide)
    obtain ⟨bb, g5⟩ : ∃ z, z = h4.size := ⟨_, rfl⟩
    rw [← g5] at A5 st5
    have ne_ba_bb : ba ≠ bb := fun q => Nat.lt_irrefl _ (Nat.lt_of_lt_of_eq V_ba.lt (g5.symm.trans q.symm))
    have ge_bb : n0 ≤ bb := Nat.le_trans Z0 (Nat.le_of_eq g5.symm)
    have V_ba := V_ba.ext E5
    have Z0 := Nat.le_trans Z0 E5.1
    have V_bb : Sar Z h5 bb .double [(.double (0 : UInt64))] := Sar.new (n := 1) A5 (by decide)
    refine Goes.by (T' := T5) (g' := (mkF m 48 #[.val (.int x0), .val (.int x1), .val (.int x2), .val (.int x3), .val (.int (1 : Int32)), .val (.int y0), .val (.int y1), .val (.int y2), .val (.int y3), .val (.int y4), .val (.int y5), .val (.ref ba), .unset, .unset, .unset, .unset, .unset] [(.ref bb)])) st5 ?_
    refine Goes.by (T' := T5) (g' := (mkF m 50 #[.val (.int x0), .val (.int x1), .val (.int x2), .val (.int x3), .val (.int (1 : Int32)), .val (.int y0), .val (.int y1), .val (.int y2), .val (.int y3), .val (.int y4), .val (.int y5), .val (.ref ba), .val (.ref bb), .unset, .unset, .unset, .unset] [])) (fun _ k => XS.astore X5.here hx rfl (hb hby at_48) rfl rfl (l' := #[.val (.int x0), .val (.int x1), .val (.int x2), .val (.int x3), .val (.int (1 : Int32)), .val (.int y0), .val (.int y1), .val (.int y2), .val (.int y3), .val (.int y4), .val (.int y5), .val (.ref ba), .val (.ref bb), .unset, .unset, .unset, .unset]) rfl k) ?_
    refine Goes.by (T' := T5) (g' := (mkF m 51 #[.val (.int x0), .val (.int x1), .val (.int x2), .val (.int x3), .val (.int (1 : Int32)), .val (.int y0), .val (.int y1), .val (.int y2), .val (.int y3), .val (.int y4), .val (.int y5), .val (.ref ba), .val (.ref bb), .unset, .unset, .unset, .unset] [(.long (0 : Int64))])) (fun _ k => XS.lconst X5.here hx rfl (hb hby at_50)  k) ?_
    refine Goes.by (T' := T5) (g' := (mkF m 53 #[.val (.int x0), .val (.int x1), .val (.int x2), .val (.int x3), .val (.int (1 : Int32)), .val (.int y0), .val (.int y1), .val (.int y2), .val (.int y3), .val (.int y4), .val (.int y5), .val (.ref ba), .val (.ref bb), .val (.long (0 : Int64)), .second, .unset, .unset] [])) (fun _ k => XS.lstore X5.here hx rfl (hb hby at_51) rfl (l' := #[.val (.int x0), .val (.int x1), .val (.int x2), .val (.int x3), .val (.int (1 : Int32)), .val (.int y0), .val (.int y1), .val (.int y2), .val (.int y3), .val (.int y4), .val (.int y5), .val (.ref ba), .val (.ref bb), .val (.long (0 : Int64)), .second, .unset, .unset]) rfl k) ?_
    refine Goes.by (T' := T5) (g' := (mkF m 55 #[.val (.int x0), .val (.int x1), .val (.int x2), .val (.int x3), .val (.int (1 : Int32)), .val (.int y0), .val (.int y1), .val (.int y2), .val (.int y3), .val (.int y4), .val (.int y5), .val (.ref ba), .val (.ref bb), .val (.long (0 : Int64)), .second, .unset, .unset] [(.int (1 : Int32))])) (fun _ k => XS.iload X5.here hx rfl (hb hby at_53) rfl k) ?_
    refine Goes.by (T' := T5) (g' := (mkF m 58 #[.val (.int x0), .val (.int x1), .val (.int x2), .val (.int x3), .val (.int (1 : Int32)), .val (.int y0), .val (.int y1), .val (.int y2), .val (.int y3), .val (.int y4), .val (.int y5), .val (.ref ba), .val (.ref bb), .val (.long (0 : Int64)), .second, .unset, .unset] [])) (fun _ k => XS.ifNo X5.here hx rfl (hb hby at_55) rfl (by decide) k) ?_
    refine Goes.by (T' := T5) (g' := (mkF m 60 #[.val (.int x0), .val (.int x1), .val (.int x2), .val (.int x3), .val (.int (1 : Int32)), .val (.int y0), .val (.int y1), .val (.int y2), .val (.int y3), .val (.int y4), .val (.int y5), .val (.ref ba), .val (.ref bb), .val (.long (0 : Int64)), .second, .unset, .unset] [(.ref ba)])) (fun _ k => XS.aload X5.here hx rfl (hb hby at_58) rfl rfl k) ?_
    refine Goes.by (T' := T5) (g' := (mkF m 61 #[.val (.int x0), .val (.int x1), .val (.int x2), .val (.int x3), .val (.int (1 : Int32)), .val (.int y0), .val (.int y1), .val (.int y2), .val (.int y3), .val (.int y4), .val (.int y5), .val (.ref ba), .val (.ref bb), .val (.long (0 : Int64)), .second, .unset, .unset] [(.int (0 : Int32)), (.ref ba)])) (fun _ k => XS.iconst X5.here hx rfl (hb hby at_60)  k) ?_
    refine Goes.by (T' := T5) (g' := (mkF m 63 #[.val (.int x0), .val (.int x1), .val (.int x2), .val (.int x3), .val (.int (1 : Int32)), .val (.int y0), .val (.int y1), .val (.int y2), .val (.int y3), .val (.int y4), .val (.int y5), .val (.ref ba), .val (.ref bb), .val (.long (0 : Int64)), .second, .unset, .unset] [(.int y0), (.int (0 : Int32)), (.ref ba)])) (fun _ k => XS.iload X5.here hx rfl (hb hby at_61) rfl k) ?_
    obtain ⟨u0, q_u0⟩ : ∃ zz, FP.i2d y0 = zz := ⟨_, rfl⟩
    refine Goes.by (T' := T5) (g' := (mkF m 64 #[.val (.int x0), .val (.int x1), .val (.int x2), .val (.int x3), .val (.int (1 : Int32)), .val (.int y0), .val (.int y1), .val (.int y2), .val (.int y3), .val (.int y4), .val (.int y5), .val (.ref ba), .val (.ref bb), .val (.long (0 : Int64)), .second, .unset, .unset] [(.double u0), (.int (0 : Int32)), (.ref ba)])) (fun _ k => XS.i2dS X5.here hx rfl (hb hby at_63) rfl q_u0 k) ?_
    obtain ⟨T6, h6, X6, e6, W6, V6, st6⟩ := stDS X5 hx hZ e5 V_ba (j := (0 : Int32)) 0 (by decide) (by show 0 < 1; decide) (g := (mkF m 64 #[.val (.int x0), .val (.int x1), .val (.int x2), .val (.int x3), .val (.int (1 : Int32)), .val (.int y0), .val (.int y1), .val (.int y2), .val (.int y3), .val (.int y4), .val (.int y5), .val (.ref ba), .val (.ref bb), .val (.long (0 : Int64)), .second, .unset, .unset] [(.double u0), (.int (0 : Int32)), (.ref ba)])) rfl rfl (hb hby at_64)
    have N0 := Fr.snoc X6 N0 ge_ba
    have V_bb := V_bb.other W6 (Ne.symm ne_ba_bb)
    have Z0 := Nat.le_trans Z0 (Nat.le_of_eq W6.size.symm)
    have V_ba : Sar Z h6 ba .double [(.double u0)] := V6
    refine Goes.by (T' := T6) (g' := (mkF m 65 #[.val (.int x0), .val (.int x1), .val (.int x2), .val (.int x3), .val (.int (1 : Int32)), .val (.int y0), .val (.int y1), .val (.int y2), .val (.int y3), .val (.int y4), .val (.int y5), .val (.ref ba), .val (.ref bb), .val (.long (0 : Int64)), .second, .unset, .unset] [])) st6 ?_
    refine Goes.by (T' := T6) (g' := (mkF m 67 #[.val (.int x0), .val (.int x1), .val (.int x2), .val (.int x3), .val (.int (1 : Int32)), .val (.int y0), .val (.int y1), .val (.int y2), .val (.int y3), .val (.int y4), .val (.int y5), .val (.ref ba), .val (.ref bb), .val (.long (0 : Int64)), .second, .unset, .unset] [(.ref bb)])) (fun _ k => XS.aload X6.here hx rfl (hb hby at_65) rfl rfl k) ?_
    refine Goes.by (T' := T6) (g' := (mkF m 68 #[.val (.int x0), .val (.int x1), .val (.int x2), .val (.int x3), .val (.int (1 : Int32)), .val (.int y0), .val (.int y1), .val (.int y2), .val (.int y3), .val (.int y4), .val (.int y5), .val (.ref ba), .val (.ref bb), .val (.long (0 : Int64)), .second, .unset, .unset] [(.int (0 : Int32)), (.ref bb)])) (fun _ k => XS.iconst X6.here hx rfl (hb hby at_67)  k) ?_
    refine Goes.by (T' := T6) (g' := (mkF m 70 #[.val (.int x0), .val (.int x1), .val (.int x2), .val (.int x3), .val (.int (1 : Int32)), .val (.int y0), .val (.int y1), .val (.int y2), .val (.int y3), .val (.int y4), .val (.int y5), .val (.ref ba), .val (.ref bb), .val (.long (0 : Int64)), .second, .unset, .unset] [(.int y1), (.int (0 : Int32)), (.ref bb)])) (fun _ k => XS.iload X6.here hx rfl (hb hby at_68) rfl k) ?_
    obtain ⟨v0, q_v0⟩ : ∃ zz, FP.i2d y1 = zz := ⟨_, rfl⟩
    refine Goes.by (T' := T6) (g' := (mkF m 71 #[.val (.int x0), .val (.int x1), .val (.int x2), .val (.int x3), .val (.int (1 : Int32)), .val (.int y0), .val (.int y1), .val (.int y2), .val (.int y3), .val (.int y4), .val (.int y5), .val (.ref ba), .val (.ref bb), .val (.long (0 : Int64)), .second, .unset, .unset] [(.double v0), (.int (0 : Int32)), (.ref bb)])) (fun _ k => XS.i2dS X6.here hx rfl (hb hby at_70) rfl q_v0 k) ?_
    obtain ⟨T7, h7, X7, e7, W7, V7, st7⟩ := stDS X6 hx hZ e6 V_bb (j := (0 : Int32)) 0 (by decide) (by show 0 < 1; decide) (g := (mkF m 71 #[.val (.int x0), .val (.int x1), .val (.int x2), .val (.int x3), .val (.int (1 : Int32)), .val (.int y0), .val (.int y1), .val (.int y2), .val (.int y3), .val (.int y4), .val (.int y5), .val (.ref ba), .val (.ref bb), .val (.long (0 : Int64)), .second, .unset, .unset] [(.double v0), (.int (0 : Int32)), (.ref bb)])) rfl rfl (hb hby at_71)
    have N0 := Fr.snoc X7 N0 ge_bb
    have V_ba := V_ba.other W7 ne_ba_bb
    have Z0 := Nat.le_trans Z0 (Nat.le_of_eq W7.size.symm)
    have V_bb : Sar Z h7 bb .double [(.double v0)] := V7
    refine Goes.by (T' := T7) (g' := (mkF m 72 #[.val (.int x0), .val (.int x1), .val (.int x2), .val (.int x3), .val (.int (1 : Int32)), .val (.int y0), .val (.int y1), .val (.int y2), .val (.int y3), .val (.int y4), .val (.int y5), .val (.ref ba), .val (.ref bb), .val (.long (0 : Int64)), .second, .unset, .unset] [])) st7 ?_
    refine Goes.by (T' := T7) (g' := (mkF m 74 #[.val (.int x0), .val (.int x1), .val (.int x2), .val (.int x3), .val (.int (1 : Int32)), .val (.int y0), .val (.int y1), .val (.int y2), .val (.int y3), .val (.int y4), .val (.int y5), .val (.ref ba), .val (.ref bb), .val (.long (0 : Int64)), .second, .unset, .unset] [(.long (0 : Int64))])) (fun _ k => XS.lload X7.here hx rfl (hb hby at_72) rfl k) ?_
    refine Goes.by (T' := T7) (g' := (mkF m 76 #[.val (.int x0), .val (.int x1), .val (.int x2), .val (.int x3), .val (.int (1 : Int32)), .val (.int y0), .val (.int y1), .val (.int y2), .val (.int y3), .val (.int y4), .val (.int y5), .val (.ref ba), .val (.ref bb), .val (.long (0 : Int64)), .second, .unset, .unset] [(.int y0), (.long (0 : Int64))])) (fun _ k => XS.iload X7.here hx rfl (hb hby at_74) rfl k) ?_
    refine Goes.by (T' := T7) (g' := (mkF m 77 #[.val (.int x0), .val (.int x1), .val (.int x2), .val (.int x3), .val (.int (1 : Int32)), .val (.int y0), .val (.int y1), .val (.int y2), .val (.int y3), .val (.int y4), .val (.int y5), .val (.ref ba), .val (.ref bb), .val (.long (0 : Int64)), .second, .unset, .unset] [(.long ((y0).toInt64)), (.long (0 : Int64))])) (fun _ k => XS.i2l X7.here hx rfl (hb hby at_76) rfl k) ?_
    refine Goes.by (T' := T7) (g' := (mkF m 79 #[.val (.int x0), .val (.int x1), .val (.int x2), .val (.int x3), .val (.int (1 : Int32)), .val (.int y0), .val (.int y1), .val (.int y2), .val (.int y3), .val (.int y4), .val (.int y5), .val (.ref ba), .val (.ref bb), .val (.long (0 : Int64)), .second, .unset, .unset] [(.int y1), (.long ((y0).toInt64)), (.long (0 : Int64))])) (fun _ k => XS.iload X7.here hx rfl (hb hby at_77) rfl k) ?_
    refine Goes.by (T' := T7) (g' := (mkF m 80 #[.val (.int x0), .val (.int x1), .val (.int x2), .val (.int x3), .val (.int (1 : Int32)), .val (.int y0), .val (.int y1), .val (.int y2), .val (.int y3), .val (.int y4), .val (.int y5), .val (.ref ba), .val (.ref bb), .val (.long (0 : Int64)), .second, .unset, .unset] [(.long ((y1).toInt64)), (.long ((y0).toInt64)), (.long (0 : Int64))])) (fun _ k => XS.i2l X7.here hx rfl (hb hby at_79) rfl k) ?_
    obtain ⟨p0, hp0⟩ : ∃ z : Int, z = y0.toInt * y1.toInt := ⟨_, rfl⟩
    have bp0 : p0.natAbs ≤ 32768 * 32768 := by rw [hp0]; exact own_mb by0 by1
    refine Goes.by (T' := T7) (g' := (mkF m 81 #[.val (.int x0), .val (.int x1), .val (.int x2), .val (.int x3), .val (.int (1 : Int32)), .val (.int y0), .val (.int y1), .val (.int y2), .val (.int y3), .val (.int y4), .val (.int y5), .val (.ref ba), .val (.ref bb), .val (.long (0 : Int64)), .second, .unset, .unset] [(.long (((y0).toInt64) * ((y1).toInt64))), (.long (0 : Int64))])) (fun _ k => XS.lmul X7.here hx rfl (hb hby at_80) rfl k) ?_
    obtain ⟨t0, q_t0⟩ : ∃ zz : Int64, zz = (((y0).toInt64) * ((y1).toInt64)) := ⟨_, rfl⟩
    rw [← q_t0]
    have et0 : t0.toInt = p0 := by rw [q_t0, own_lmul (by rw [c_i2l, c_i2l, ← hp0]; omega), c_i2l, c_i2l, hp0]
    refine Goes.by (T' := T7) (g' := (mkF m 82 #[.val (.int x0), .val (.int x1), .val (.int x2), .val (.int x3), .val (.int (1 : Int32)), .val (.int y0), .val (.int y1), .val (.int y2), .val (.int y3), .val (.int y4), .val (.int y5), .val (.ref ba), .val (.ref bb), .val (.long (0 : Int64)), .second, .unset, .unset] [(.long ((0 : Int64) + t0))])) (fun _ k => XS.ladd X7.here hx rfl (hb hby at_81) rfl k) ?_
    obtain ⟨r0, q_r0⟩ : ∃ zz : Int64, zz = ((0 : Int64) + t0) := ⟨_, rfl⟩
    rw [← q_r0]
    have er0 : r0.toInt = 0 + p0 := by rw [q_r0, own_ladd (by rw [et0]; rw [show (0 : Int64).toInt = 0 from by decide]; omega) (by rw [et0]; rw [show (0 : Int64).toInt = 0 from by decide]; omega), et0, show (0 : Int64).toInt = 0 from by decide]
    refine Goes.by (T' := T7) (g' := (mkF m 84 #[.val (.int x0), .val (.int x1), .val (.int x2), .val (.int x3), .val (.int (1 : Int32)), .val (.int y0), .val (.int y1), .val (.int y2), .val (.int y3), .val (.int y4), .val (.int y5), .val (.ref ba), .val (.ref bb), .val (.long r0), .second, .unset, .unset] [])) (fun _ k => XS.lstore X7.here hx rfl (hb hby at_82) rfl (l' := #[.val (.int x0), .val (.int x1), .val (.int x2), .val (.int x3), .val (.int (1 : Int32)), .val (.int y0), .val (.int y1), .val (.int y2), .val (.int y3), .val (.int y4), .val (.int y5), .val (.ref ba), .val (.ref bb), .val (.long r0), .second, .unset, .unset]) rfl k) ?_
    refine Goes.by (T' := T7) (g' := (mkF m 86 #[.val (.int x0), .val (.int x1), .val (.int x2), .val (.int x3), .val (.int (1 : Int32)), .val (.int y0), .val (.int y1), .val (.int y2), .val (.int y3), .val (.int y4), .val (.int y5), .val (.ref ba), .val (.ref bb), .val (.long r0), .second, .unset, .unset] [(.int (1 : Int32))])) (fun _ k => XS.iload X7.here hx rfl (hb hby at_84) rfl k) ?_
    refine Goes.by (T' := T7) (g' := (mkF m 87 #[.val (.int x0), .val (.int x1), .val (.int x2), .val (.int x3), .val (.int (1 : Int32)), .val (.int y0), .val (.int y1), .val (.int y2), .val (.int y3), .val (.int y4), .val (.int y5), .val (.ref ba), .val (.ref bb), .val (.long r0), .second, .unset, .unset] [(.int (1 : Int32)), (.int (1 : Int32))])) (fun _ k => XS.iconst X7.here hx rfl (hb hby at_86)  k) ?_
    refine Goes.by (T' := T7) (g' := (mkF m 116 #[.val (.int x0), .val (.int x1), .val (.int x2), .val (.int x3), .val (.int (1 : Int32)), .val (.int y0), .val (.int y1), .val (.int y2), .val (.int y3), .val (.int y4), .val (.int y5), .val (.ref ba), .val (.ref bb), .val (.long r0), .second, .unset, .unset] [])) (fun _ k => XS.icmpYes X7.here hx rfl (pc0 := 87) (pc' := 116) rfl (hb hby at_87) rfl (by decide) (by decide) (by decide) k) ?_
    refine Goes.by (T' := T7) (g' := (mkF m 118 #[.val (.int x0), .val (.int x1), .val (.int x2), .val (.int x3), .val (.int (1 : Int32)), .val (.int y0), .val (.int y1), .val (.int y2), .val (.int y3), .val (.int y4), .val (.int y5), .val (.ref ba), .val (.ref bb), .val (.long r0), .second, .unset, .unset] [(.int (1 : Int32))])) (fun _ k => XS.iload X7.here hx rfl (hb hby at_116) rfl k) ?_
    refine Goes.by (T' := T7) (g' := (mkF m 119 #[.val (.int x0), .val (.int x1), .val (.int x2), .val (.int x3), .val (.int (1 : Int32)), .val (.int y0), .val (.int y1), .val (.int y2), .val (.int y3), .val (.int y4), .val (.int y5), .val (.ref ba), .val (.ref bb), .val (.long r0), .second, .unset, .unset] [(.int (2 : Int32)), (.int (1 : Int32))])) (fun _ k => XS.iconst X7.here hx rfl (hb hby at_118)  k) ?_
    refine Goes.by (T' := T7) (g' := (mkF m 148 #[.val (.int x0), .val (.int x1), .val (.int x2), .val (.int x3), .val (.int (1 : Int32)), .val (.int y0), .val (.int y1), .val (.int y2), .val (.int y3), .val (.int y4), .val (.int y5), .val (.ref ba), .val (.ref bb), .val (.long r0), .second, .unset, .unset] [])) (fun _ k => XS.icmpYes X7.here hx rfl (pc0 := 119) (pc' := 148) rfl (hb hby at_119) rfl (by decide) (by decide) (by decide) k) ?_
    refine Goes.by (T' := T7) (g' := (mkF m 150 #[.val (.int x0), .val (.int x1), .val (.int x2), .val (.int x3), .val (.int (1 : Int32)), .val (.int y0), .val (.int y1), .val (.int y2), .val (.int y3), .val (.int y4), .val (.int y5), .val (.ref ba), .val (.ref bb), .val (.long r0), .second, .unset, .unset] [(.ref ba)])) (fun _ k => XS.aload X7.here hx rfl (hb hby at_148) rfl rfl k) ?_
    refine Goes.by (T' := T7) (g' := (mkF m 152 #[.val (.int x0), .val (.int x1), .val (.int x2), .val (.int x3), .val (.int (1 : Int32)), .val (.int y0), .val (.int y1), .val (.int y2), .val (.int y3), .val (.int y4), .val (.int y5), .val (.ref ba), .val (.ref bb), .val (.long r0), .second, .unset, .unset] [(.ref bb), (.ref ba)])) (fun _ k => XS.aload X7.here hx rfl (hb hby at_150) rfl rfl k) ?_
    obtain ⟨v8, T8, L8, X8, hQ8, st8⟩ := callC X7 hx hZ (y := (⟨"com/example/adhoq/adhoq/Vectors", "dot", "([D[D)D"⟩ : MethodName)) hown (hw _ (List.mem_of_getElem? (i := 1) rfl)) (hw _ (List.mem_of_getElem? (i := 2) rfl)) (hw _ (List.mem_of_getElem? (i := 4) rfl)) (hw _ (List.mem_of_getElem? (i := 3) rfl)) (by decide) e7 (argsL := [(.ref ba), (.ref bb)]) (rest := []) (W := 0) (rm_dot1 l Z a0 hw ba bb u0 v0 y0.toInt y1.toInt h7 n0 Z0 V_ba V_bb (DInt_i2d q_u0) (DInt_i2d q_v0) by0 by1) rfl (by decide) (by decide) (by decide) (by decide) (g := (mkF m 152 #[.val (.int x0), .val (.int x1), .val (.int x2), .val (.int x3), .val (.int (1 : Int32)), .val (.int y0), .val (.int y1), .val (.int y2), .val (.int y3), .val (.int y4), .val (.int y5), .val (.ref ba), .val (.ref bb), .val (.long r0), .second, .unset, .unset] [(.ref bb), (.ref ba)])) rfl (by rw [hml]; rfl) (lenOf pd0 rfl) rfl (by show 2 * 0 + _ ≤ _; exact Nat.le_of_eq rfl) (hb hby at_152)
    obtain ⟨⟨dg, rfl, DG⟩, NL8, hk8⟩ := hQ8
    have N0 := Fr.app N0 NL8
    refine Goes.by (T' := T8) (g' := (mkF m 155 #[.val (.int x0), .val (.int x1), .val (.int x2), .val (.int x3), .val (.int (1 : Int32)), .val (.int y0), .val (.int y1), .val (.int y2), .val (.int y3), .val (.int y4), .val (.int y5), .val (.ref ba), .val (.ref bb), .val (.long r0), .second, .unset, .unset] [(.double dg)])) st8 ?_
    refine Goes.by (T' := T8) (g' := (mkF m 157 #[.val (.int x0), .val (.int x1), .val (.int x2), .val (.int x3), .val (.int (1 : Int32)), .val (.int y0), .val (.int y1), .val (.int y2), .val (.int y3), .val (.int y4), .val (.int y5), .val (.ref ba), .val (.ref bb), .val (.long r0), .second, .val (.double dg), .second] [])) (fun _ k => XS.dstore X8.here hx rfl (hb hby at_155) rfl (l' := #[.val (.int x0), .val (.int x1), .val (.int x2), .val (.int x3), .val (.int (1 : Int32)), .val (.int y0), .val (.int y1), .val (.int y2), .val (.int y3), .val (.int y4), .val (.int y5), .val (.ref ba), .val (.ref bb), .val (.long r0), .second, .val (.double dg), .second]) rfl k) ?_
    refine Goes.by (T' := T8) (g' := (mkF m 159 #[.val (.int x0), .val (.int x1), .val (.int x2), .val (.int x3), .val (.int (1 : Int32)), .val (.int y0), .val (.int y1), .val (.int y2), .val (.int y3), .val (.int y4), .val (.int y5), .val (.ref ba), .val (.ref bb), .val (.long r0), .second, .val (.double dg), .second] [(.double dg)])) (fun _ k => XS.dload X8.here hx rfl (hb hby at_157) rfl k) ?_
    refine Goes.by (T' := T8) (g' := (mkF m 161 #[.val (.int x0), .val (.int x1), .val (.int x2), .val (.int x3), .val (.int (1 : Int32)), .val (.int y0), .val (.int y1), .val (.int y2), .val (.int y3), .val (.int y4), .val (.int y5), .val (.ref ba), .val (.ref bb), .val (.long r0), .second, .val (.double dg), .second] [(.long r0), (.double dg)])) (fun _ k => XS.lload X8.here hx rfl (hb hby at_159) rfl k) ?_
    obtain ⟨dr, q_dr⟩ : ∃ zz, FP.l2d r0 = zz := ⟨_, rfl⟩
    refine Goes.by (T' := T8) (g' := (mkF m 162 #[.val (.int x0), .val (.int x1), .val (.int x2), .val (.int x3), .val (.int (1 : Int32)), .val (.int y0), .val (.int y1), .val (.int y2), .val (.int y3), .val (.int y4), .val (.int y5), .val (.ref ba), .val (.ref bb), .val (.long r0), .second, .val (.double dg), .second] [(.double dr), (.double dg)])) (fun _ k => XS.l2dS X8.here hx rfl (hb hby at_161) rfl q_dr k) ?_
    have DR : Core.DInt r0.toInt dr := DInt_l2d q_dr (by rw [er0]; omega)
    rw [← hp0] at DG
    rw [er0] at DR
    refine Goes.by (T' := T8) (g' := (mkF m 163 #[.val (.int x0), .val (.int x1), .val (.int x2), .val (.int x3), .val (.int (1 : Int32)), .val (.int y0), .val (.int y1), .val (.int y2), .val (.int y3), .val (.int y4), .val (.int y5), .val (.ref ba), .val (.ref bb), .val (.long r0), .second, .val (.double dg), .second] [(.int (0 : Int32))])) (fun _ k => XS.dcmpS X8.here hx rfl (hb hby at_162) rfl (cmpD_eq DG DR rfl _) k) ?_
    refine Goes.by (T' := T8) (g' := (mkF m 166 #[.val (.int x0), .val (.int x1), .val (.int x2), .val (.int x3), .val (.int (1 : Int32)), .val (.int y0), .val (.int y1), .val (.int y2), .val (.int y3), .val (.int y4), .val (.int y5), .val (.ref ba), .val (.ref bb), .val (.long r0), .second, .val (.double dg), .second] [])) (fun _ k => XS.ifNo X8.here hx rfl (hb hby at_163) rfl (by decide) k) ?_
    refine Goes.by (T' := T8) (g' := (mkF m 167 #[.val (.int x0), .val (.int x1), .val (.int x2), .val (.int x3), .val (.int (1 : Int32)), .val (.int y0), .val (.int y1), .val (.int y2), .val (.int y3), .val (.int y4), .val (.int y5), .val (.ref ba), .val (.ref bb), .val (.long r0), .second, .val (.double dg), .second] [(.int (1 : Int32))])) (fun _ k => XS.iconst X8.here hx rfl (hb hby at_166)  k) ?_
    refine Goes.by (T' := T8) (g' := (mkF m 171 #[.val (.int x0), .val (.int x1), .val (.int x2), .val (.int x3), .val (.int (1 : Int32)), .val (.int y0), .val (.int y1), .val (.int y2), .val (.int y3), .val (.int y4), .val (.int y5), .val (.ref ba), .val (.ref bb), .val (.long r0), .second, .val (.double dg), .second] [(.int (1 : Int32))])) (fun _ k => XS.goto X8.here hx rfl (pc0 := 167) (pc' := 171) rfl (hb hby at_167) (by decide) (by decide) k) ?_
    exact outZ X8 hx hlk hret (hb hby at_171) (by exact ⟨rfl, N0⟩) (by decide) (by decide)
  · subst hn
    obtain ⟨T9, h9, k9, X9, e9, E9, A9, st9⟩ := newP X0 hx hZ (hw _ (List.mem_of_getElem? (i := 0) rfl)) e0 (g := (mkF m 40 #[.val (.int x0), .val (.int x1), .val (.int x2), .val (.int x3), .val (.int (2 : Int32)), .val (.int y0), .val (.int y1), .val (.int y2), .val (.int y3), .val (.int y4), .val (.int y5), .unset, .unset, .unset, .unset, .unset, .unset] [(.int (2 : Int32))])) rfl (hb hby at_40) rfl (by decide) (cap := 2) (by decide) (by decide) (by decide) (by decide)
    obtain ⟨ba, g9⟩ : ∃ z, z = h0.size := ⟨_, rfl⟩
    rw [← g9] at A9 st9
    have ge_ba : n0 ≤ ba := Nat.le_trans Z0 (Nat.le_of_eq g9.symm)
    have Z0 := Nat.le_trans Z0 E9.1
    have V_ba : Sar Z h9 ba .double [(.double (0 : UInt64)), (.double (0 : UInt64))] := Sar.new (n := 2) A9 (by decide)
    refine Goes.by (T' := T9) (g' := (mkF m 42 #[.val (.int x0), .val (.int x1), .val (.int x2), .val (.int x3), .val (.int (2 : Int32)), .val (.int y0), .val (.int y1), .val (.int y2), .val (.int y3), .val (.int y4), .val (.int y5), .unset, .unset, .unset, .unset, .unset, .unset] [(.ref ba)])) st9 ?_
    refine Goes.by (T' := T9) (g' := (mkF m 44 #[.val (.int x0), .val (.int x1), .val (.int x2), .val (.int x3), .val (.int (2 : Int32)), .val (.int y0), .val (.int y1), .val (.int y2), .val (.int y3), .val (.int y4), .val (.int y5), .val (.ref ba), .unset, .unset, .unset, .unset, .unset] [])) (fun _ k => XS.astore X9.here hx rfl (hb hby at_42) rfl rfl (l' := #[.val (.int x0), .val (.int x1), .val (.int x2), .val (.int x3), .val (.int (2 : Int32)), .val (.int y0), .val (.int y1), .val (.int y2), .val (.int y3), .val (.int y4), .val (.int y5), .val (.ref ba), .unset, .unset, .unset, .unset, .unset]) rfl k) ?_
    refine Goes.by (T' := T9) (g' := (mkF m 46 #[.val (.int x0), .val (.int x1), .val (.int x2), .val (.int x3), .val (.int (2 : Int32)), .val (.int y0), .val (.int y1), .val (.int y2), .val (.int y3), .val (.int y4), .val (.int y5), .val (.ref ba), .unset, .unset, .unset, .unset, .unset] [(.int (2 : Int32))])) (fun _ k => XS.iload X9.here hx rfl (hb hby at_44) rfl k) ?_
    obtain ⟨T10, h10, k10, X10, e10, E10, A10, st10⟩ := newP X9 hx hZ (hw _ (List.mem_of_getElem? (i := 0) rfl)) e9 (g := (mkF m 46 #[.val (.int x0), .val (.int x1), .val (.int x2), .val (.int x3), .val (.int (2 : Int32)), .val (.int y0), .val (.int y1), .val (.int y2), .val (.int y3), .val (.int y4), .val (.int y5), .val (.ref ba), .unset, .unset, .unset, .unset, .unset] [(.int (2 : Int32))])) rfl (hb hby at_46) rfl (by decide) (cap := 2) (by decide) (by decide) (by decide) (by decide)
    obtain ⟨bb, g10⟩ : ∃ z, z = h9.size := ⟨_, rfl⟩
    rw [← g10] at A10 st10
    have ne_ba_bb : ba ≠ bb := fun q => Nat.lt_irrefl _ (Nat.lt_of_lt_of_eq V_ba.lt (g10.symm.trans q.symm))
    have ge_bb : n0 ≤ bb := Nat.le_trans Z0 (Nat.le_of_eq g10.symm)
    have V_ba := V_ba.ext E10
    have Z0 := Nat.le_trans Z0 E10.1
    have V_bb : Sar Z h10 bb .double [(.double (0 : UInt64)), (.double (0 : UInt64))] := Sar.new (n := 2) A10 (by decide)
    refine Goes.by (T' := T10) (g' := (mkF m 48 #[.val (.int x0), .val (.int x1), .val (.int x2), .val (.int x3), .val (.int (2 : Int32)), .val (.int y0), .val (.int y1), .val (.int y2), .val (.int y3), .val (.int y4), .val (.int y5), .val (.ref ba), .unset, .unset, .unset, .unset, .unset] [(.ref bb)])) st10 ?_
    refine Goes.by (T' := T10) (g' := (mkF m 50 #[.val (.int x0), .val (.int x1), .val (.int x2), .val (.int x3), .val (.int (2 : Int32)), .val (.int y0), .val (.int y1), .val (.int y2), .val (.int y3), .val (.int y4), .val (.int y5), .val (.ref ba), .val (.ref bb), .unset, .unset, .unset, .unset] [])) (fun _ k => XS.astore X10.here hx rfl (hb hby at_48) rfl rfl (l' := #[.val (.int x0), .val (.int x1), .val (.int x2), .val (.int x3), .val (.int (2 : Int32)), .val (.int y0), .val (.int y1), .val (.int y2), .val (.int y3), .val (.int y4), .val (.int y5), .val (.ref ba), .val (.ref bb), .unset, .unset, .unset, .unset]) rfl k) ?_
    refine Goes.by (T' := T10) (g' := (mkF m 51 #[.val (.int x0), .val (.int x1), .val (.int x2), .val (.int x3), .val (.int (2 : Int32)), .val (.int y0), .val (.int y1), .val (.int y2), .val (.int y3), .val (.int y4), .val (.int y5), .val (.ref ba), .val (.ref bb), .unset, .unset, .unset, .unset] [(.long (0 : Int64))])) (fun _ k => XS.lconst X10.here hx rfl (hb hby at_50)  k) ?_
    refine Goes.by (T' := T10) (g' := (mkF m 53 #[.val (.int x0), .val (.int x1), .val (.int x2), .val (.int x3), .val (.int (2 : Int32)), .val (.int y0), .val (.int y1), .val (.int y2), .val (.int y3), .val (.int y4), .val (.int y5), .val (.ref ba), .val (.ref bb), .val (.long (0 : Int64)), .second, .unset, .unset] [])) (fun _ k => XS.lstore X10.here hx rfl (hb hby at_51) rfl (l' := #[.val (.int x0), .val (.int x1), .val (.int x2), .val (.int x3), .val (.int (2 : Int32)), .val (.int y0), .val (.int y1), .val (.int y2), .val (.int y3), .val (.int y4), .val (.int y5), .val (.ref ba), .val (.ref bb), .val (.long (0 : Int64)), .second, .unset, .unset]) rfl k) ?_
    refine Goes.by (T' := T10) (g' := (mkF m 55 #[.val (.int x0), .val (.int x1), .val (.int x2), .val (.int x3), .val (.int (2 : Int32)), .val (.int y0), .val (.int y1), .val (.int y2), .val (.int y3), .val (.int y4), .val (.int y5), .val (.ref ba), .val (.ref bb), .val (.long (0 : Int64)), .second, .unset, .unset] [(.int (2 : Int32))])) (fun _ k => XS.iload X10.here hx rfl (hb hby at_53) rfl k) ?_
    refine Goes.by (T' := T10) (g' := (mkF m 58 #[.val (.int x0), .val (.int x1), .val (.int x2), .val (.int x3), .val (.int (2 : Int32)), .val (.int y0), .val (.int y1), .val (.int y2), .val (.int y3), .val (.int y4), .val (.int y5), .val (.ref ba), .val (.ref bb), .val (.long (0 : Int64)), .second, .unset, .unset] [])) (fun _ k => XS.ifNo X10.here hx rfl (hb hby at_55) rfl (by decide) k) ?_
    refine Goes.by (T' := T10) (g' := (mkF m 60 #[.val (.int x0), .val (.int x1), .val (.int x2), .val (.int x3), .val (.int (2 : Int32)), .val (.int y0), .val (.int y1), .val (.int y2), .val (.int y3), .val (.int y4), .val (.int y5), .val (.ref ba), .val (.ref bb), .val (.long (0 : Int64)), .second, .unset, .unset] [(.ref ba)])) (fun _ k => XS.aload X10.here hx rfl (hb hby at_58) rfl rfl k) ?_
    refine Goes.by (T' := T10) (g' := (mkF m 61 #[.val (.int x0), .val (.int x1), .val (.int x2), .val (.int x3), .val (.int (2 : Int32)), .val (.int y0), .val (.int y1), .val (.int y2), .val (.int y3), .val (.int y4), .val (.int y5), .val (.ref ba), .val (.ref bb), .val (.long (0 : Int64)), .second, .unset, .unset] [(.int (0 : Int32)), (.ref ba)])) (fun _ k => XS.iconst X10.here hx rfl (hb hby at_60)  k) ?_
    refine Goes.by (T' := T10) (g' := (mkF m 63 #[.val (.int x0), .val (.int x1), .val (.int x2), .val (.int x3), .val (.int (2 : Int32)), .val (.int y0), .val (.int y1), .val (.int y2), .val (.int y3), .val (.int y4), .val (.int y5), .val (.ref ba), .val (.ref bb), .val (.long (0 : Int64)), .second, .unset, .unset] [(.int y0), (.int (0 : Int32)), (.ref ba)])) (fun _ k => XS.iload X10.here hx rfl (hb hby at_61) rfl k) ?_
    obtain ⟨u0, q_u0⟩ : ∃ zz, FP.i2d y0 = zz := ⟨_, rfl⟩
    refine Goes.by (T' := T10) (g' := (mkF m 64 #[.val (.int x0), .val (.int x1), .val (.int x2), .val (.int x3), .val (.int (2 : Int32)), .val (.int y0), .val (.int y1), .val (.int y2), .val (.int y3), .val (.int y4), .val (.int y5), .val (.ref ba), .val (.ref bb), .val (.long (0 : Int64)), .second, .unset, .unset] [(.double u0), (.int (0 : Int32)), (.ref ba)])) (fun _ k => XS.i2dS X10.here hx rfl (hb hby at_63) rfl q_u0 k) ?_
    obtain ⟨T11, h11, X11, e11, W11, V11, st11⟩ := stDS X10 hx hZ e10 V_ba (j := (0 : Int32)) 0 (by decide) (by show 0 < 2; decide) (g := (mkF m 64 #[.val (.int x0), .val (.int x1), .val (.int x2), .val (.int x3), .val (.int (2 : Int32)), .val (.int y0), .val (.int y1), .val (.int y2), .val (.int y3), .val (.int y4), .val (.int y5), .val (.ref ba), .val (.ref bb), .val (.long (0 : Int64)), .second, .unset, .unset] [(.double u0), (.int (0 : Int32)), (.ref ba)])) rfl rfl (hb hby at_64)
    have N0 := Fr.snoc X11 N0 ge_ba
    have V_bb := V_bb.other W11 (Ne.symm ne_ba_bb)
    have Z0 := Nat.le_trans Z0 (Nat.le_of_eq W11.size.symm)
    have V_ba : Sar Z h11 ba .double [(.double u0), (.double (0 : UInt64))] := V11
    refine Goes.by (T' := T11) (g' := (mkF m 65 #[.val (.int x0), .val (.int x1), .val (.int x2), .val (.int x3), .val (.int (2 : Int32)), .val (.int y0), .val (.int y1), .val (.int y2), .val (.int y3), .val (.int y4), .val (.int y5), .val (.ref ba), .val (.ref bb), .val (.long (0 : Int64)), .second, .unset, .unset] [])) st11 ?_
    refine Goes.by (T' := T11) (g' := (mkF m 67 #[.val (.int x0), .val (.int x1), .val (.int x2), .val (.int x3), .val (.int (2 : Int32)), .val (.int y0), .val (.int y1), .val (.int y2), .val (.int y3), .val (.int y4), .val (.int y5), .val (.ref ba), .val (.ref bb), .val (.long (0 : Int64)), .second, .unset, .unset] [(.ref bb)])) (fun _ k => XS.aload X11.here hx rfl (hb hby at_65) rfl rfl k) ?_
    refine Goes.by (T' := T11) (g' := (mkF m 68 #[.val (.int x0), .val (.int x1), .val (.int x2), .val (.int x3), .val (.int (2 : Int32)), .val (.int y0), .val (.int y1), .val (.int y2), .val (.int y3), .val (.int y4), .val (.int y5), .val (.ref ba), .val (.ref bb), .val (.long (0 : Int64)), .second, .unset, .unset] [(.int (0 : Int32)), (.ref bb)])) (fun _ k => XS.iconst X11.here hx rfl (hb hby at_67)  k) ?_
    refine Goes.by (T' := T11) (g' := (mkF m 70 #[.val (.int x0), .val (.int x1), .val (.int x2), .val (.int x3), .val (.int (2 : Int32)), .val (.int y0), .val (.int y1), .val (.int y2), .val (.int y3), .val (.int y4), .val (.int y5), .val (.ref ba), .val (.ref bb), .val (.long (0 : Int64)), .second, .unset, .unset] [(.int y1), (.int (0 : Int32)), (.ref bb)])) (fun _ k => XS.iload X11.here hx rfl (hb hby at_68) rfl k) ?_
    obtain ⟨v0, q_v0⟩ : ∃ zz, FP.i2d y1 = zz := ⟨_, rfl⟩
    refine Goes.by (T' := T11) (g' := (mkF m 71 #[.val (.int x0), .val (.int x1), .val (.int x2), .val (.int x3), .val (.int (2 : Int32)), .val (.int y0), .val (.int y1), .val (.int y2), .val (.int y3), .val (.int y4), .val (.int y5), .val (.ref ba), .val (.ref bb), .val (.long (0 : Int64)), .second, .unset, .unset] [(.double v0), (.int (0 : Int32)), (.ref bb)])) (fun _ k => XS.i2dS X11.here hx rfl (hb hby at_70) rfl q_v0 k) ?_
    obtain ⟨T12, h12, X12, e12, W12, V12, st12⟩ := stDS X11 hx hZ e11 V_bb (j := (0 : Int32)) 0 (by decide) (by show 0 < 2; decide) (g := (mkF m 71 #[.val (.int x0), .val (.int x1), .val (.int x2), .val (.int x3), .val (.int (2 : Int32)), .val (.int y0), .val (.int y1), .val (.int y2), .val (.int y3), .val (.int y4), .val (.int y5), .val (.ref ba), .val (.ref bb), .val (.long (0 : Int64)), .second, .unset, .unset] [(.double v0), (.int (0 : Int32)), (.ref bb)])) rfl rfl (hb hby at_71)
    have N0 := Fr.snoc X12 N0 ge_bb
    have V_ba := V_ba.other W12 ne_ba_bb
    have Z0 := Nat.le_trans Z0 (Nat.le_of_eq W12.size.symm)
    have V_bb : Sar Z h12 bb .double [(.double v0), (.double (0 : UInt64))] := V12
    refine Goes.by (T' := T12) (g' := (mkF m 72 #[.val (.int x0), .val (.int x1), .val (.int x2), .val (.int x3), .val (.int (2 : Int32)), .val (.int y0), .val (.int y1), .val (.int y2), .val (.int y3), .val (.int y4), .val (.int y5), .val (.ref ba), .val (.ref bb), .val (.long (0 : Int64)), .second, .unset, .unset] [])) st12 ?_
    refine Goes.by (T' := T12) (g' := (mkF m 74 #[.val (.int x0), .val (.int x1), .val (.int x2), .val (.int x3), .val (.int (2 : Int32)), .val (.int y0), .val (.int y1), .val (.int y2), .val (.int y3), .val (.int y4), .val (.int y5), .val (.ref ba), .val (.ref bb), .val (.long (0 : Int64)), .second, .unset, .unset] [(.long (0 : Int64))])) (fun _ k => XS.lload X12.here hx rfl (hb hby at_72) rfl k) ?_
    refine Goes.by (T' := T12) (g' := (mkF m 76 #[.val (.int x0), .val (.int x1), .val (.int x2), .val (.int x3), .val (.int (2 : Int32)), .val (.int y0), .val (.int y1), .val (.int y2), .val (.int y3), .val (.int y4), .val (.int y5), .val (.ref ba), .val (.ref bb), .val (.long (0 : Int64)), .second, .unset, .unset] [(.int y0), (.long (0 : Int64))])) (fun _ k => XS.iload X12.here hx rfl (hb hby at_74) rfl k) ?_
    refine Goes.by (T' := T12) (g' := (mkF m 77 #[.val (.int x0), .val (.int x1), .val (.int x2), .val (.int x3), .val (.int (2 : Int32)), .val (.int y0), .val (.int y1), .val (.int y2), .val (.int y3), .val (.int y4), .val (.int y5), .val (.ref ba), .val (.ref bb), .val (.long (0 : Int64)), .second, .unset, .unset] [(.long ((y0).toInt64)), (.long (0 : Int64))])) (fun _ k => XS.i2l X12.here hx rfl (hb hby at_76) rfl k) ?_
    refine Goes.by (T' := T12) (g' := (mkF m 79 #[.val (.int x0), .val (.int x1), .val (.int x2), .val (.int x3), .val (.int (2 : Int32)), .val (.int y0), .val (.int y1), .val (.int y2), .val (.int y3), .val (.int y4), .val (.int y5), .val (.ref ba), .val (.ref bb), .val (.long (0 : Int64)), .second, .unset, .unset] [(.int y1), (.long ((y0).toInt64)), (.long (0 : Int64))])) (fun _ k => XS.iload X12.here hx rfl (hb hby at_77) rfl k) ?_
    refine Goes.by (T' := T12) (g' := (mkF m 80 #[.val (.int x0), .val (.int x1), .val (.int x2), .val (.int x3), .val (.int (2 : Int32)), .val (.int y0), .val (.int y1), .val (.int y2), .val (.int y3), .val (.int y4), .val (.int y5), .val (.ref ba), .val (.ref bb), .val (.long (0 : Int64)), .second, .unset, .unset] [(.long ((y1).toInt64)), (.long ((y0).toInt64)), (.long (0 : Int64))])) (fun _ k => XS.i2l X12.here hx rfl (hb hby at_79) rfl k) ?_
    obtain ⟨p0, hp0⟩ : ∃ z : Int, z = y0.toInt * y1.toInt := ⟨_, rfl⟩
    have bp0 : p0.natAbs ≤ 32768 * 32768 := by rw [hp0]; exact own_mb by0 by1
    refine Goes.by (T' := T12) (g' := (mkF m 81 #[.val (.int x0), .val (.int x1), .val (.int x2), .val (.int x3), .val (.int (2 : Int32)), .val (.int y0), .val (.int y1), .val (.int y2), .val (.int y3), .val (.int y4), .val (.int y5), .val (.ref ba), .val (.ref bb), .val (.long (0 : Int64)), .second, .unset, .unset] [(.long (((y0).toInt64) * ((y1).toInt64))), (.long (0 : Int64))])) (fun _ k => XS.lmul X12.here hx rfl (hb hby at_80) rfl k) ?_
    obtain ⟨t0, q_t0⟩ : ∃ zz : Int64, zz = (((y0).toInt64) * ((y1).toInt64)) := ⟨_, rfl⟩
    rw [← q_t0]
    have et0 : t0.toInt = p0 := by rw [q_t0, own_lmul (by rw [c_i2l, c_i2l, ← hp0]; omega), c_i2l, c_i2l, hp0]
    refine Goes.by (T' := T12) (g' := (mkF m 82 #[.val (.int x0), .val (.int x1), .val (.int x2), .val (.int x3), .val (.int (2 : Int32)), .val (.int y0), .val (.int y1), .val (.int y2), .val (.int y3), .val (.int y4), .val (.int y5), .val (.ref ba), .val (.ref bb), .val (.long (0 : Int64)), .second, .unset, .unset] [(.long ((0 : Int64) + t0))])) (fun _ k => XS.ladd X12.here hx rfl (hb hby at_81) rfl k) ?_
    obtain ⟨r0, q_r0⟩ : ∃ zz : Int64, zz = ((0 : Int64) + t0) := ⟨_, rfl⟩
    rw [← q_r0]
    have er0 : r0.toInt = 0 + p0 := by rw [q_r0, own_ladd (by rw [et0]; rw [show (0 : Int64).toInt = 0 from by decide]; omega) (by rw [et0]; rw [show (0 : Int64).toInt = 0 from by decide]; omega), et0, show (0 : Int64).toInt = 0 from by decide]
    refine Goes.by (T' := T12) (g' := (mkF m 84 #[.val (.int x0), .val (.int x1), .val (.int x2), .val (.int x3), .val (.int (2 : Int32)), .val (.int y0), .val (.int y1), .val (.int y2), .val (.int y3), .val (.int y4), .val (.int y5), .val (.ref ba), .val (.ref bb), .val (.long r0), .second, .unset, .unset] [])) (fun _ k => XS.lstore X12.here hx rfl (hb hby at_82) rfl (l' := #[.val (.int x0), .val (.int x1), .val (.int x2), .val (.int x3), .val (.int (2 : Int32)), .val (.int y0), .val (.int y1), .val (.int y2), .val (.int y3), .val (.int y4), .val (.int y5), .val (.ref ba), .val (.ref bb), .val (.long r0), .second, .unset, .unset]) rfl k) ?_
    refine Goes.by (T' := T12) (g' := (mkF m 86 #[.val (.int x0), .val (.int x1), .val (.int x2), .val (.int x3), .val (.int (2 : Int32)), .val (.int y0), .val (.int y1), .val (.int y2), .val (.int y3), .val (.int y4), .val (.int y5), .val (.ref ba), .val (.ref bb), .val (.long r0), .second, .unset, .unset] [(.int (2 : Int32))])) (fun _ k => XS.iload X12.here hx rfl (hb hby at_84) rfl k) ?_
    refine Goes.by (T' := T12) (g' := (mkF m 87 #[.val (.int x0), .val (.int x1), .val (.int x2), .val (.int x3), .val (.int (2 : Int32)), .val (.int y0), .val (.int y1), .val (.int y2), .val (.int y3), .val (.int y4), .val (.int y5), .val (.ref ba), .val (.ref bb), .val (.long r0), .second, .unset, .unset] [(.int (1 : Int32)), (.int (2 : Int32))])) (fun _ k => XS.iconst X12.here hx rfl (hb hby at_86)  k) ?_
    refine Goes.by (T' := T12) (g' := (mkF m 90 #[.val (.int x0), .val (.int x1), .val (.int x2), .val (.int x3), .val (.int (2 : Int32)), .val (.int y0), .val (.int y1), .val (.int y2), .val (.int y3), .val (.int y4), .val (.int y5), .val (.ref ba), .val (.ref bb), .val (.long r0), .second, .unset, .unset] [])) (fun _ k => XS.icmpNo X12.here hx rfl (hb hby at_87) rfl (by decide) k) ?_
    refine Goes.by (T' := T12) (g' := (mkF m 92 #[.val (.int x0), .val (.int x1), .val (.int x2), .val (.int x3), .val (.int (2 : Int32)), .val (.int y0), .val (.int y1), .val (.int y2), .val (.int y3), .val (.int y4), .val (.int y5), .val (.ref ba), .val (.ref bb), .val (.long r0), .second, .unset, .unset] [(.ref ba)])) (fun _ k => XS.aload X12.here hx rfl (hb hby at_90) rfl rfl k) ?_
    refine Goes.by (T' := T12) (g' := (mkF m 93 #[.val (.int x0), .val (.int x1), .val (.int x2), .val (.int x3), .val (.int (2 : Int32)), .val (.int y0), .val (.int y1), .val (.int y2), .val (.int y3), .val (.int y4), .val (.int y5), .val (.ref ba), .val (.ref bb), .val (.long r0), .second, .unset, .unset] [(.int (1 : Int32)), (.ref ba)])) (fun _ k => XS.iconst X12.here hx rfl (hb hby at_92)  k) ?_
    refine Goes.by (T' := T12) (g' := (mkF m 95 #[.val (.int x0), .val (.int x1), .val (.int x2), .val (.int x3), .val (.int (2 : Int32)), .val (.int y0), .val (.int y1), .val (.int y2), .val (.int y3), .val (.int y4), .val (.int y5), .val (.ref ba), .val (.ref bb), .val (.long r0), .second, .unset, .unset] [(.int y2), (.int (1 : Int32)), (.ref ba)])) (fun _ k => XS.iload X12.here hx rfl (hb hby at_93) rfl k) ?_
    obtain ⟨u1, q_u1⟩ : ∃ zz, FP.i2d y2 = zz := ⟨_, rfl⟩
    refine Goes.by (T' := T12) (g' := (mkF m 96 #[.val (.int x0), .val (.int x1), .val (.int x2), .val (.int x3), .val (.int (2 : Int32)), .val (.int y0), .val (.int y1), .val (.int y2), .val (.int y3), .val (.int y4), .val (.int y5), .val (.ref ba), .val (.ref bb), .val (.long r0), .second, .unset, .unset] [(.double u1), (.int (1 : Int32)), (.ref ba)])) (fun _ k => XS.i2dS X12.here hx rfl (hb hby at_95) rfl q_u1 k) ?_
    obtain ⟨T13, h13, X13, e13, W13, V13, st13⟩ := stDS X12 hx hZ e12 V_ba (j := (1 : Int32)) 1 (by decide) (by show 1 < 2; decide) (g := (mkF m 96 #[.val (.int x0), .val (.int x1), .val (.int x2), .val (.int x3), .val (.int (2 : Int32)), .val (.int y0), .val (.int y1), .val (.int y2), .val (.int y3), .val (.int y4), .val (.int y5), .val (.ref ba), .val (.ref bb), .val (.long r0), .second, .unset, .unset] [(.double u1), (.int (1 : Int32)), (.ref ba)])) rfl rfl (hb hby at_96)
    have N0 := Fr.snoc X13 N0 ge_ba
    have V_bb := V_bb.other W13 (Ne.symm ne_ba_bb)
    have Z0 := Nat.le_trans Z0 (Nat.le_of_eq W13.size.symm)
    have V_ba : Sar Z h13 ba .double [(.double u0), (.double u1)] := V13
    refine Goes.by (T' := T13) (g' := (mkF m 97 #[.val (.int x0), .val (.int x1), .val (.int x2), .val (.int x3), .val (.int (2 : Int32)), .val (.int y0), .val (.int y1), .val (.int y2), .val (.int y3), .val (.int y4), .val (.int y5), .val (.ref ba), .val (.ref bb), .val (.long r0), .second, .unset, .unset] [])) st13 ?_
    refine Goes.by (T' := T13) (g' := (mkF m 99 #[.val (.int x0), .val (.int x1), .val (.int x2), .val (.int x3), .val (.int (2 : Int32)), .val (.int y0), .val (.int y1), .val (.int y2), .val (.int y3), .val (.int y4), .val (.int y5), .val (.ref ba), .val (.ref bb), .val (.long r0), .second, .unset, .unset] [(.ref bb)])) (fun _ k => XS.aload X13.here hx rfl (hb hby at_97) rfl rfl k) ?_
    refine Goes.by (T' := T13) (g' := (mkF m 100 #[.val (.int x0), .val (.int x1), .val (.int x2), .val (.int x3), .val (.int (2 : Int32)), .val (.int y0), .val (.int y1), .val (.int y2), .val (.int y3), .val (.int y4), .val (.int y5), .val (.ref ba), .val (.ref bb), .val (.long r0), .second, .unset, .unset] [(.int (1 : Int32)), (.ref bb)])) (fun _ k => XS.iconst X13.here hx rfl (hb hby at_99)  k) ?_
    refine Goes.by (T' := T13) (g' := (mkF m 102 #[.val (.int x0), .val (.int x1), .val (.int x2), .val (.int x3), .val (.int (2 : Int32)), .val (.int y0), .val (.int y1), .val (.int y2), .val (.int y3), .val (.int y4), .val (.int y5), .val (.ref ba), .val (.ref bb), .val (.long r0), .second, .unset, .unset] [(.int y3), (.int (1 : Int32)), (.ref bb)])) (fun _ k => XS.iload X13.here hx rfl (hb hby at_100) rfl k) ?_
    obtain ⟨v1, q_v1⟩ : ∃ zz, FP.i2d y3 = zz := ⟨_, rfl⟩
    refine Goes.by (T' := T13) (g' := (mkF m 103 #[.val (.int x0), .val (.int x1), .val (.int x2), .val (.int x3), .val (.int (2 : Int32)), .val (.int y0), .val (.int y1), .val (.int y2), .val (.int y3), .val (.int y4), .val (.int y5), .val (.ref ba), .val (.ref bb), .val (.long r0), .second, .unset, .unset] [(.double v1), (.int (1 : Int32)), (.ref bb)])) (fun _ k => XS.i2dS X13.here hx rfl (hb hby at_102) rfl q_v1 k) ?_
    obtain ⟨T14, h14, X14, e14, W14, V14, st14⟩ := stDS X13 hx hZ e13 V_bb (j := (1 : Int32)) 1 (by decide) (by show 1 < 2; decide) (g := (mkF m 103 #[.val (.int x0), .val (.int x1), .val (.int x2), .val (.int x3), .val (.int (2 : Int32)), .val (.int y0), .val (.int y1), .val (.int y2), .val (.int y3), .val (.int y4), .val (.int y5), .val (.ref ba), .val (.ref bb), .val (.long r0), .second, .unset, .unset] [(.double v1), (.int (1 : Int32)), (.ref bb)])) rfl rfl (hb hby at_103)
    have N0 := Fr.snoc X14 N0 ge_bb
    have V_ba := V_ba.other W14 ne_ba_bb
    have Z0 := Nat.le_trans Z0 (Nat.le_of_eq W14.size.symm)
    have V_bb : Sar Z h14 bb .double [(.double v0), (.double v1)] := V14
    refine Goes.by (T' := T14) (g' := (mkF m 104 #[.val (.int x0), .val (.int x1), .val (.int x2), .val (.int x3), .val (.int (2 : Int32)), .val (.int y0), .val (.int y1), .val (.int y2), .val (.int y3), .val (.int y4), .val (.int y5), .val (.ref ba), .val (.ref bb), .val (.long r0), .second, .unset, .unset] [])) st14 ?_
    refine Goes.by (T' := T14) (g' := (mkF m 106 #[.val (.int x0), .val (.int x1), .val (.int x2), .val (.int x3), .val (.int (2 : Int32)), .val (.int y0), .val (.int y1), .val (.int y2), .val (.int y3), .val (.int y4), .val (.int y5), .val (.ref ba), .val (.ref bb), .val (.long r0), .second, .unset, .unset] [(.long r0)])) (fun _ k => XS.lload X14.here hx rfl (hb hby at_104) rfl k) ?_
    refine Goes.by (T' := T14) (g' := (mkF m 108 #[.val (.int x0), .val (.int x1), .val (.int x2), .val (.int x3), .val (.int (2 : Int32)), .val (.int y0), .val (.int y1), .val (.int y2), .val (.int y3), .val (.int y4), .val (.int y5), .val (.ref ba), .val (.ref bb), .val (.long r0), .second, .unset, .unset] [(.int y2), (.long r0)])) (fun _ k => XS.iload X14.here hx rfl (hb hby at_106) rfl k) ?_
    refine Goes.by (T' := T14) (g' := (mkF m 109 #[.val (.int x0), .val (.int x1), .val (.int x2), .val (.int x3), .val (.int (2 : Int32)), .val (.int y0), .val (.int y1), .val (.int y2), .val (.int y3), .val (.int y4), .val (.int y5), .val (.ref ba), .val (.ref bb), .val (.long r0), .second, .unset, .unset] [(.long ((y2).toInt64)), (.long r0)])) (fun _ k => XS.i2l X14.here hx rfl (hb hby at_108) rfl k) ?_
    refine Goes.by (T' := T14) (g' := (mkF m 111 #[.val (.int x0), .val (.int x1), .val (.int x2), .val (.int x3), .val (.int (2 : Int32)), .val (.int y0), .val (.int y1), .val (.int y2), .val (.int y3), .val (.int y4), .val (.int y5), .val (.ref ba), .val (.ref bb), .val (.long r0), .second, .unset, .unset] [(.int y3), (.long ((y2).toInt64)), (.long r0)])) (fun _ k => XS.iload X14.here hx rfl (hb hby at_109) rfl k) ?_
    refine Goes.by (T' := T14) (g' := (mkF m 112 #[.val (.int x0), .val (.int x1), .val (.int x2), .val (.int x3), .val (.int (2 : Int32)), .val (.int y0), .val (.int y1), .val (.int y2), .val (.int y3), .val (.int y4), .val (.int y5), .val (.ref ba), .val (.ref bb), .val (.long r0), .second, .unset, .unset] [(.long ((y3).toInt64)), (.long ((y2).toInt64)), (.long r0)])) (fun _ k => XS.i2l X14.here hx rfl (hb hby at_111) rfl k) ?_
    obtain ⟨p1, hp1⟩ : ∃ z : Int, z = y2.toInt * y3.toInt := ⟨_, rfl⟩
    have bp1 : p1.natAbs ≤ 32768 * 32768 := by rw [hp1]; exact own_mb by2 by3
    refine Goes.by (T' := T14) (g' := (mkF m 113 #[.val (.int x0), .val (.int x1), .val (.int x2), .val (.int x3), .val (.int (2 : Int32)), .val (.int y0), .val (.int y1), .val (.int y2), .val (.int y3), .val (.int y4), .val (.int y5), .val (.ref ba), .val (.ref bb), .val (.long r0), .second, .unset, .unset] [(.long (((y2).toInt64) * ((y3).toInt64))), (.long r0)])) (fun _ k => XS.lmul X14.here hx rfl (hb hby at_112) rfl k) ?_
    obtain ⟨t1, q_t1⟩ : ∃ zz : Int64, zz = (((y2).toInt64) * ((y3).toInt64)) := ⟨_, rfl⟩
    rw [← q_t1]
    have et1 : t1.toInt = p1 := by rw [q_t1, own_lmul (by rw [c_i2l, c_i2l, ← hp1]; omega), c_i2l, c_i2l, hp1]
    refine Goes.by (T' := T14) (g' := (mkF m 114 #[.val (.int x0), .val (.int x1), .val (.int x2), .val (.int x3), .val (.int (2 : Int32)), .val (.int y0), .val (.int y1), .val (.int y2), .val (.int y3), .val (.int y4), .val (.int y5), .val (.ref ba), .val (.ref bb), .val (.long r0), .second, .unset, .unset] [(.long (r0 + t1))])) (fun _ k => XS.ladd X14.here hx rfl (hb hby at_113) rfl k) ?_
    obtain ⟨r1, q_r1⟩ : ∃ zz : Int64, zz = (r0 + t1) := ⟨_, rfl⟩
    rw [← q_r1]
    have er1 : r1.toInt = 0 + p0 + p1 := by rw [q_r1, own_ladd (by rw [et1, er0]; omega) (by rw [et1, er0]; omega), et1, er0]
    refine Goes.by (T' := T14) (g' := (mkF m 116 #[.val (.int x0), .val (.int x1), .val (.int x2), .val (.int x3), .val (.int (2 : Int32)), .val (.int y0), .val (.int y1), .val (.int y2), .val (.int y3), .val (.int y4), .val (.int y5), .val (.ref ba), .val (.ref bb), .val (.long r1), .second, .unset, .unset] [])) (fun _ k => XS.lstore X14.here hx rfl (hb hby at_114) rfl (l' := #[.val (.int x0), .val (.int x1), .val (.int x2), .val (.int x3), .val (.int (2 : Int32)), .val (.int y0), .val (.int y1), .val (.int y2), .val (.int y3), .val (.int y4), .val (.int y5), .val (.ref ba), .val (.ref bb), .val (.long r1), .second, .unset, .unset]) rfl k) ?_
    refine Goes.by (T' := T14) (g' := (mkF m 118 #[.val (.int x0), .val (.int x1), .val (.int x2), .val (.int x3), .val (.int (2 : Int32)), .val (.int y0), .val (.int y1), .val (.int y2), .val (.int y3), .val (.int y4), .val (.int y5), .val (.ref ba), .val (.ref bb), .val (.long r1), .second, .unset, .unset] [(.int (2 : Int32))])) (fun _ k => XS.iload X14.here hx rfl (hb hby at_116) rfl k) ?_
    refine Goes.by (T' := T14) (g' := (mkF m 119 #[.val (.int x0), .val (.int x1), .val (.int x2), .val (.int x3), .val (.int (2 : Int32)), .val (.int y0), .val (.int y1), .val (.int y2), .val (.int y3), .val (.int y4), .val (.int y5), .val (.ref ba), .val (.ref bb), .val (.long r1), .second, .unset, .unset] [(.int (2 : Int32)), (.int (2 : Int32))])) (fun _ k => XS.iconst X14.here hx rfl (hb hby at_118)  k) ?_
    refine Goes.by (T' := T14) (g' := (mkF m 148 #[.val (.int x0), .val (.int x1), .val (.int x2), .val (.int x3), .val (.int (2 : Int32)), .val (.int y0), .val (.int y1), .val (.int y2), .val (.int y3), .val (.int y4), .val (.int y5), .val (.ref ba), .val (.ref bb), .val (.long r1), .second, .unset, .unset] [])) (fun _ k => XS.icmpYes X14.here hx rfl (pc0 := 119) (pc' := 148) rfl (hb hby at_119) rfl (by decide) (by decide) (by decide) k) ?_
    refine Goes.by (T' := T14) (g' := (mkF m 150 #[.val (.int x0), .val (.int x1), .val (.int x2), .val (.int x3), .val (.int (2 : Int32)), .val (.int y0), .val (.int y1), .val (.int y2), .val (.int y3), .val (.int y4), .val (.int y5), .val (.ref ba), .val (.ref bb), .val (.long r1), .second, .unset, .unset] [(.ref ba)])) (fun _ k => XS.aload X14.here hx rfl (hb hby at_148) rfl rfl k) ?_
    refine Goes.by (T' := T14) (g' := (mkF m 152 #[.val (.int x0), .val (.int x1), .val (.int x2), .val (.int x3), .val (.int (2 : Int32)), .val (.int y0), .val (.int y1), .val (.int y2), .val (.int y3), .val (.int y4), .val (.int y5), .val (.ref ba), .val (.ref bb), .val (.long r1), .second, .unset, .unset] [(.ref bb), (.ref ba)])) (fun _ k => XS.aload X14.here hx rfl (hb hby at_150) rfl rfl k) ?_
    obtain ⟨v15, T15, L15, X15, hQ15, st15⟩ := callC X14 hx hZ (y := (⟨"com/example/adhoq/adhoq/Vectors", "dot", "([D[D)D"⟩ : MethodName)) hown (hw _ (List.mem_of_getElem? (i := 1) rfl)) (hw _ (List.mem_of_getElem? (i := 2) rfl)) (hw _ (List.mem_of_getElem? (i := 4) rfl)) (hw _ (List.mem_of_getElem? (i := 3) rfl)) (by decide) e14 (argsL := [(.ref ba), (.ref bb)]) (rest := []) (W := 0) (rm_dot2 l Z a0 hw ba bb u0 v0 y0.toInt y1.toInt u1 v1 y2.toInt y3.toInt h14 n0 Z0 V_ba V_bb (DInt_i2d q_u0) (DInt_i2d q_v0) by0 by1 (DInt_i2d q_u1) (DInt_i2d q_v1) by2 by3) rfl (by decide) (by decide) (by decide) (by decide) (g := (mkF m 152 #[.val (.int x0), .val (.int x1), .val (.int x2), .val (.int x3), .val (.int (2 : Int32)), .val (.int y0), .val (.int y1), .val (.int y2), .val (.int y3), .val (.int y4), .val (.int y5), .val (.ref ba), .val (.ref bb), .val (.long r1), .second, .unset, .unset] [(.ref bb), (.ref ba)])) rfl (by rw [hml]; rfl) (lenOf pd0 rfl) rfl (by show 2 * 0 + _ ≤ _; exact Nat.le_of_eq rfl) (hb hby at_152)
    obtain ⟨⟨dg, rfl, DG⟩, NL15, hk15⟩ := hQ15
    have N0 := Fr.app N0 NL15
    refine Goes.by (T' := T15) (g' := (mkF m 155 #[.val (.int x0), .val (.int x1), .val (.int x2), .val (.int x3), .val (.int (2 : Int32)), .val (.int y0), .val (.int y1), .val (.int y2), .val (.int y3), .val (.int y4), .val (.int y5), .val (.ref ba), .val (.ref bb), .val (.long r1), .second, .unset, .unset] [(.double dg)])) st15 ?_
    refine Goes.by (T' := T15) (g' := (mkF m 157 #[.val (.int x0), .val (.int x1), .val (.int x2), .val (.int x3), .val (.int (2 : Int32)), .val (.int y0), .val (.int y1), .val (.int y2), .val (.int y3), .val (.int y4), .val (.int y5), .val (.ref ba), .val (.ref bb), .val (.long r1), .second, .val (.double dg), .second] [])) (fun _ k => XS.dstore X15.here hx rfl (hb hby at_155) rfl (l' := #[.val (.int x0), .val (.int x1), .val (.int x2), .val (.int x3), .val (.int (2 : Int32)), .val (.int y0), .val (.int y1), .val (.int y2), .val (.int y3), .val (.int y4), .val (.int y5), .val (.ref ba), .val (.ref bb), .val (.long r1), .second, .val (.double dg), .second]) rfl k) ?_
    refine Goes.by (T' := T15) (g' := (mkF m 159 #[.val (.int x0), .val (.int x1), .val (.int x2), .val (.int x3), .val (.int (2 : Int32)), .val (.int y0), .val (.int y1), .val (.int y2), .val (.int y3), .val (.int y4), .val (.int y5), .val (.ref ba), .val (.ref bb), .val (.long r1), .second, .val (.double dg), .second] [(.double dg)])) (fun _ k => XS.dload X15.here hx rfl (hb hby at_157) rfl k) ?_
    refine Goes.by (T' := T15) (g' := (mkF m 161 #[.val (.int x0), .val (.int x1), .val (.int x2), .val (.int x3), .val (.int (2 : Int32)), .val (.int y0), .val (.int y1), .val (.int y2), .val (.int y3), .val (.int y4), .val (.int y5), .val (.ref ba), .val (.ref bb), .val (.long r1), .second, .val (.double dg), .second] [(.long r1), (.double dg)])) (fun _ k => XS.lload X15.here hx rfl (hb hby at_159) rfl k) ?_
    obtain ⟨dr, q_dr⟩ : ∃ zz, FP.l2d r1 = zz := ⟨_, rfl⟩
    refine Goes.by (T' := T15) (g' := (mkF m 162 #[.val (.int x0), .val (.int x1), .val (.int x2), .val (.int x3), .val (.int (2 : Int32)), .val (.int y0), .val (.int y1), .val (.int y2), .val (.int y3), .val (.int y4), .val (.int y5), .val (.ref ba), .val (.ref bb), .val (.long r1), .second, .val (.double dg), .second] [(.double dr), (.double dg)])) (fun _ k => XS.l2dS X15.here hx rfl (hb hby at_161) rfl q_dr k) ?_
    have DR : Core.DInt r1.toInt dr := DInt_l2d q_dr (by rw [er1]; omega)
    rw [← hp0, ← hp1] at DG
    rw [er1] at DR
    refine Goes.by (T' := T15) (g' := (mkF m 163 #[.val (.int x0), .val (.int x1), .val (.int x2), .val (.int x3), .val (.int (2 : Int32)), .val (.int y0), .val (.int y1), .val (.int y2), .val (.int y3), .val (.int y4), .val (.int y5), .val (.ref ba), .val (.ref bb), .val (.long r1), .second, .val (.double dg), .second] [(.int (0 : Int32))])) (fun _ k => XS.dcmpS X15.here hx rfl (hb hby at_162) rfl (cmpD_eq DG DR rfl _) k) ?_
    refine Goes.by (T' := T15) (g' := (mkF m 166 #[.val (.int x0), .val (.int x1), .val (.int x2), .val (.int x3), .val (.int (2 : Int32)), .val (.int y0), .val (.int y1), .val (.int y2), .val (.int y3), .val (.int y4), .val (.int y5), .val (.ref ba), .val (.ref bb), .val (.long r1), .second, .val (.double dg), .second] [])) (fun _ k => XS.ifNo X15.here hx rfl (hb hby at_163) rfl (by decide) k) ?_
    refine Goes.by (T' := T15) (g' := (mkF m 167 #[.val (.int x0), .val (.int x1), .val (.int x2), .val (.int x3), .val (.int (2 : Int32)), .val (.int y0), .val (.int y1), .val (.int y2), .val (.int y3), .val (.int y4), .val (.int y5), .val (.ref ba), .val (.ref bb), .val (.long r1), .second, .val (.double dg), .second] [(.int (1 : Int32))])) (fun _ k => XS.iconst X15.here hx rfl (hb hby at_166)  k) ?_
    refine Goes.by (T' := T15) (g' := (mkF m 171 #[.val (.int x0), .val (.int x1), .val (.int x2), .val (.int x3), .val (.int (2 : Int32)), .val (.int y0), .val (.int y1), .val (.int y2), .val (.int y3), .val (.int y4), .val (.int y5), .val (.ref ba), .val (.ref bb), .val (.long r1), .second, .val (.double dg), .second] [(.int (1 : Int32))])) (fun _ k => XS.goto X15.here hx rfl (pc0 := 167) (pc' := 171) rfl (hb hby at_167) (by decide) (by decide) k) ?_
    exact outZ X15 hx hlk hret (hb hby at_171) (by exact ⟨rfl, N0⟩) (by decide) (by decide)
  · subst hn
    obtain ⟨T16, h16, k16, X16, e16, E16, A16, st16⟩ := newP X0 hx hZ (hw _ (List.mem_of_getElem? (i := 0) rfl)) e0 (g := (mkF m 40 #[.val (.int x0), .val (.int x1), .val (.int x2), .val (.int x3), .val (.int (3 : Int32)), .val (.int y0), .val (.int y1), .val (.int y2), .val (.int y3), .val (.int y4), .val (.int y5), .unset, .unset, .unset, .unset, .unset, .unset] [(.int (3 : Int32))])) rfl (hb hby at_40) rfl (by decide) (cap := 3) (by decide) (by decide) (by decide) (by decide)
    obtain ⟨ba, g16⟩ : ∃ z, z = h0.size := ⟨_, rfl⟩
    rw [← g16] at A16 st16
    have ge_ba : n0 ≤ ba := Nat.le_trans Z0 (Nat.le_of_eq g16.symm)
    have Z0 := Nat.le_trans Z0 E16.1
    have V_ba : Sar Z h16 ba .double [(.double (0 : UInt64)), (.double (0 : UInt64)), (.double (0 : UInt64))] := Sar.new (n := 3) A16 (by decide)
    refine Goes.by (T' := T16) (g' := (mkF m 42 #[.val (.int x0), .val (.int x1), .val (.int x2), .val (.int x3), .val (.int (3 : Int32)), .val (.int y0), .val (.int y1), .val (.int y2), .val (.int y3), .val (.int y4), .val (.int y5), .unset, .unset, .unset, .unset, .unset, .unset] [(.ref ba)])) st16 ?_
    refine Goes.by (T' := T16) (g' := (mkF m 44 #[.val (.int x0), .val (.int x1), .val (.int x2), .val (.int x3), .val (.int (3 : Int32)), .val (.int y0), .val (.int y1), .val (.int y2), .val (.int y3), .val (.int y4), .val (.int y5), .val (.ref ba), .unset, .unset, .unset, .unset, .unset] [])) (fun _ k => XS.astore X16.here hx rfl (hb hby at_42) rfl rfl (l' := #[.val (.int x0), .val (.int x1), .val (.int x2), .val (.int x3), .val (.int (3 : Int32)), .val (.int y0), .val (.int y1), .val (.int y2), .val (.int y3), .val (.int y4), .val (.int y5), .val (.ref ba), .unset, .unset, .unset, .unset, .unset]) rfl k) ?_
    refine Goes.by (T' := T16) (g' := (mkF m 46 #[.val (.int x0), .val (.int x1), .val (.int x2), .val (.int x3), .val (.int (3 : Int32)), .val (.int y0), .val (.int y1), .val (.int y2), .val (.int y3), .val (.int y4), .val (.int y5), .val (.ref ba), .unset, .unset, .unset, .unset, .unset] [(.int (3 : Int32))])) (fun _ k => XS.iload X16.here hx rfl (hb hby at_44) rfl k) ?_
    obtain ⟨T17, h17, k17, X17, e17, E17, A17, st17⟩ := newP X16 hx hZ (hw _ (List.mem_of_getElem? (i := 0) rfl)) e16 (g := (mkF m 46 #[.val (.int x0), .val (.int x1), .val (.int x2), .val (.int x3), .val (.int (3 : Int32)), .val (.int y0), .val (.int y1), .val (.int y2), .val (.int y3), .val (.int y4), .val (.int y5), .val (.ref ba), .unset, .unset, .unset, .unset, .unset] [(.int (3 : Int32))])) rfl (hb hby at_46) rfl (by decide) (cap := 3) (by decide) (by decide) (by decide) (by decide)
    obtain ⟨bb, g17⟩ : ∃ z, z = h16.size := ⟨_, rfl⟩
    rw [← g17] at A17 st17
    have ne_ba_bb : ba ≠ bb := fun q => Nat.lt_irrefl _ (Nat.lt_of_lt_of_eq V_ba.lt (g17.symm.trans q.symm))
    have ge_bb : n0 ≤ bb := Nat.le_trans Z0 (Nat.le_of_eq g17.symm)
    have V_ba := V_ba.ext E17
    have Z0 := Nat.le_trans Z0 E17.1
    have V_bb : Sar Z h17 bb .double [(.double (0 : UInt64)), (.double (0 : UInt64)), (.double (0 : UInt64))] := Sar.new (n := 3) A17 (by decide)
    refine Goes.by (T' := T17) (g' := (mkF m 48 #[.val (.int x0), .val (.int x1), .val (.int x2), .val (.int x3), .val (.int (3 : Int32)), .val (.int y0), .val (.int y1), .val (.int y2), .val (.int y3), .val (.int y4), .val (.int y5), .val (.ref ba), .unset, .unset, .unset, .unset, .unset] [(.ref bb)])) st17 ?_
    refine Goes.by (T' := T17) (g' := (mkF m 50 #[.val (.int x0), .val (.int x1), .val (.int x2), .val (.int x3), .val (.int (3 : Int32)), .val (.int y0), .val (.int y1), .val (.int y2), .val (.int y3), .val (.int y4), .val (.int y5), .val (.ref ba), .val (.ref bb), .unset, .unset, .unset, .unset] [])) (fun _ k => XS.astore X17.here hx rfl (hb hby at_48) rfl rfl (l' := #[.val (.int x0), .val (.int x1), .val (.int x2), .val (.int x3), .val (.int (3 : Int32)), .val (.int y0), .val (.int y1), .val (.int y2), .val (.int y3), .val (.int y4), .val (.int y5), .val (.ref ba), .val (.ref bb), .unset, .unset, .unset, .unset]) rfl k) ?_
    refine Goes.by (T' := T17) (g' := (mkF m 51 #[.val (.int x0), .val (.int x1), .val (.int x2), .val (.int x3), .val (.int (3 : Int32)), .val (.int y0), .val (.int y1), .val (.int y2), .val (.int y3), .val (.int y4), .val (.int y5), .val (.ref ba), .val (.ref bb), .unset, .unset, .unset, .unset] [(.long (0 : Int64))])) (fun _ k => XS.lconst X17.here hx rfl (hb hby at_50)  k) ?_
    refine Goes.by (T' := T17) (g' := (mkF m 53 #[.val (.int x0), .val (.int x1), .val (.int x2), .val (.int x3), .val (.int (3 : Int32)), .val (.int y0), .val (.int y1), .val (.int y2), .val (.int y3), .val (.int y4), .val (.int y5), .val (.ref ba), .val (.ref bb), .val (.long (0 : Int64)), .second, .unset, .unset] [])) (fun _ k => XS.lstore X17.here hx rfl (hb hby at_51) rfl (l' := #[.val (.int x0), .val (.int x1), .val (.int x2), .val (.int x3), .val (.int (3 : Int32)), .val (.int y0), .val (.int y1), .val (.int y2), .val (.int y3), .val (.int y4), .val (.int y5), .val (.ref ba), .val (.ref bb), .val (.long (0 : Int64)), .second, .unset, .unset]) rfl k) ?_
    refine Goes.by (T' := T17) (g' := (mkF m 55 #[.val (.int x0), .val (.int x1), .val (.int x2), .val (.int x3), .val (.int (3 : Int32)), .val (.int y0), .val (.int y1), .val (.int y2), .val (.int y3), .val (.int y4), .val (.int y5), .val (.ref ba), .val (.ref bb), .val (.long (0 : Int64)), .second, .unset, .unset] [(.int (3 : Int32))])) (fun _ k => XS.iload X17.here hx rfl (hb hby at_53) rfl k) ?_
    refine Goes.by (T' := T17) (g' := (mkF m 58 #[.val (.int x0), .val (.int x1), .val (.int x2), .val (.int x3), .val (.int (3 : Int32)), .val (.int y0), .val (.int y1), .val (.int y2), .val (.int y3), .val (.int y4), .val (.int y5), .val (.ref ba), .val (.ref bb), .val (.long (0 : Int64)), .second, .unset, .unset] [])) (fun _ k => XS.ifNo X17.here hx rfl (hb hby at_55) rfl (by decide) k) ?_
    refine Goes.by (T' := T17) (g' := (mkF m 60 #[.val (.int x0), .val (.int x1), .val (.int x2), .val (.int x3), .val (.int (3 : Int32)), .val (.int y0), .val (.int y1), .val (.int y2), .val (.int y3), .val (.int y4), .val (.int y5), .val (.ref ba), .val (.ref bb), .val (.long (0 : Int64)), .second, .unset, .unset] [(.ref ba)])) (fun _ k => XS.aload X17.here hx rfl (hb hby at_58) rfl rfl k) ?_
    refine Goes.by (T' := T17) (g' := (mkF m 61 #[.val (.int x0), .val (.int x1), .val (.int x2), .val (.int x3), .val (.int (3 : Int32)), .val (.int y0), .val (.int y1), .val (.int y2), .val (.int y3), .val (.int y4), .val (.int y5), .val (.ref ba), .val (.ref bb), .val (.long (0 : Int64)), .second, .unset, .unset] [(.int (0 : Int32)), (.ref ba)])) (fun _ k => XS.iconst X17.here hx rfl (hb hby at_60)  k) ?_
    refine Goes.by (T' := T17) (g' := (mkF m 63 #[.val (.int x0), .val (.int x1), .val (.int x2), .val (.int x3), .val (.int (3 : Int32)), .val (.int y0), .val (.int y1), .val (.int y2), .val (.int y3), .val (.int y4), .val (.int y5), .val (.ref ba), .val (.ref bb), .val (.long (0 : Int64)), .second, .unset, .unset] [(.int y0), (.int (0 : Int32)), (.ref ba)])) (fun _ k => XS.iload X17.here hx rfl (hb hby at_61) rfl k) ?_
    obtain ⟨u0, q_u0⟩ : ∃ zz, FP.i2d y0 = zz := ⟨_, rfl⟩
    refine Goes.by (T' := T17) (g' := (mkF m 64 #[.val (.int x0), .val (.int x1), .val (.int x2), .val (.int x3), .val (.int (3 : Int32)), .val (.int y0), .val (.int y1), .val (.int y2), .val (.int y3), .val (.int y4), .val (.int y5), .val (.ref ba), .val (.ref bb), .val (.long (0 : Int64)), .second, .unset, .unset] [(.double u0), (.int (0 : Int32)), (.ref ba)])) (fun _ k => XS.i2dS X17.here hx rfl (hb hby at_63) rfl q_u0 k) ?_
    obtain ⟨T18, h18, X18, e18, W18, V18, st18⟩ := stDS X17 hx hZ e17 V_ba (j := (0 : Int32)) 0 (by decide) (by show 0 < 3; decide) (g := (mkF m 64 #[.val (.int x0), .val (.int x1), .val (.int x2), .val (.int x3), .val (.int (3 : Int32)), .val (.int y0), .val (.int y1), .val (.int y2), .val (.int y3), .val (.int y4), .val (.int y5), .val (.ref ba), .val (.ref bb), .val (.long (0 : Int64)), .second, .unset, .unset] [(.double u0), (.int (0 : Int32)), (.ref ba)])) rfl rfl (hb hby at_64)
    have N0 := Fr.snoc X18 N0 ge_ba
    have V_bb := V_bb.other W18 (Ne.symm ne_ba_bb)
    have Z0 := Nat.le_trans Z0 (Nat.le_of_eq W18.size.symm)
    have V_ba : Sar Z h18 ba .double [(.double u0), (.double (0 : UInt64)), (.double (0 : UInt64))] := V18
    refine Goes.by (T' := T18) (g' := (mkF m 65 #[.val (.int x0), .val (.int x1), .val (.int x2), .val (.int x3), .val (.int (3 : Int32)), .val (.int y0), .val (.int y1), .val (.int y2), .val (.int y3), .val (.int y4), .val (.int y5), .val (.ref ba), .val (.ref bb), .val (.long (0 : Int64)), .second, .unset, .unset] [])) st18 ?_
    refine Goes.by (T' := T18) (g' := (mkF m 67 #[.val (.int x0), .val (.int x1), .val (.int x2), .val (.int x3), .val (.int (3 : Int32)), .val (.int y0), .val (.int y1), .val (.int y2), .val (.int y3), .val (.int y4), .val (.int y5), .val (.ref ba), .val (.ref bb), .val (.long (0 : Int64)), .second, .unset, .unset] [(.ref bb)])) (fun _ k => XS.aload X18.here hx rfl (hb hby at_65) rfl rfl k) ?_
    refine Goes.by (T' := T18) (g' := (mkF m 68 #[.val (.int x0), .val (.int x1), .val (.int x2), .val (.int x3), .val (.int (3 : Int32)), .val (.int y0), .val (.int y1), .val (.int y2), .val (.int y3), .val (.int y4), .val (.int y5), .val (.ref ba), .val (.ref bb), .val (.long (0 : Int64)), .second, .unset, .unset] [(.int (0 : Int32)), (.ref bb)])) (fun _ k => XS.iconst X18.here hx rfl (hb hby at_67)  k) ?_
    refine Goes.by (T' := T18) (g' := (mkF m 70 #[.val (.int x0), .val (.int x1), .val (.int x2), .val (.int x3), .val (.int (3 : Int32)), .val (.int y0), .val (.int y1), .val (.int y2), .val (.int y3), .val (.int y4), .val (.int y5), .val (.ref ba), .val (.ref bb), .val (.long (0 : Int64)), .second, .unset, .unset] [(.int y1), (.int (0 : Int32)), (.ref bb)])) (fun _ k => XS.iload X18.here hx rfl (hb hby at_68) rfl k) ?_
    obtain ⟨v0, q_v0⟩ : ∃ zz, FP.i2d y1 = zz := ⟨_, rfl⟩
    refine Goes.by (T' := T18) (g' := (mkF m 71 #[.val (.int x0), .val (.int x1), .val (.int x2), .val (.int x3), .val (.int (3 : Int32)), .val (.int y0), .val (.int y1), .val (.int y2), .val (.int y3), .val (.int y4), .val (.int y5), .val (.ref ba), .val (.ref bb), .val (.long (0 : Int64)), .second, .unset, .unset] [(.double v0), (.int (0 : Int32)), (.ref bb)])) (fun _ k => XS.i2dS X18.here hx rfl (hb hby at_70) rfl q_v0 k) ?_
    obtain ⟨T19, h19, X19, e19, W19, V19, st19⟩ := stDS X18 hx hZ e18 V_bb (j := (0 : Int32)) 0 (by decide) (by show 0 < 3; decide) (g := (mkF m 71 #[.val (.int x0), .val (.int x1), .val (.int x2), .val (.int x3), .val (.int (3 : Int32)), .val (.int y0), .val (.int y1), .val (.int y2), .val (.int y3), .val (.int y4), .val (.int y5), .val (.ref ba), .val (.ref bb), .val (.long (0 : Int64)), .second, .unset, .unset] [(.double v0), (.int (0 : Int32)), (.ref bb)])) rfl rfl (hb hby at_71)
    have N0 := Fr.snoc X19 N0 ge_bb
    have V_ba := V_ba.other W19 ne_ba_bb
    have Z0 := Nat.le_trans Z0 (Nat.le_of_eq W19.size.symm)
    have V_bb : Sar Z h19 bb .double [(.double v0), (.double (0 : UInt64)), (.double (0 : UInt64))] := V19
    refine Goes.by (T' := T19) (g' := (mkF m 72 #[.val (.int x0), .val (.int x1), .val (.int x2), .val (.int x3), .val (.int (3 : Int32)), .val (.int y0), .val (.int y1), .val (.int y2), .val (.int y3), .val (.int y4), .val (.int y5), .val (.ref ba), .val (.ref bb), .val (.long (0 : Int64)), .second, .unset, .unset] [])) st19 ?_
    refine Goes.by (T' := T19) (g' := (mkF m 74 #[.val (.int x0), .val (.int x1), .val (.int x2), .val (.int x3), .val (.int (3 : Int32)), .val (.int y0), .val (.int y1), .val (.int y2), .val (.int y3), .val (.int y4), .val (.int y5), .val (.ref ba), .val (.ref bb), .val (.long (0 : Int64)), .second, .unset, .unset] [(.long (0 : Int64))])) (fun _ k => XS.lload X19.here hx rfl (hb hby at_72) rfl k) ?_
    refine Goes.by (T' := T19) (g' := (mkF m 76 #[.val (.int x0), .val (.int x1), .val (.int x2), .val (.int x3), .val (.int (3 : Int32)), .val (.int y0), .val (.int y1), .val (.int y2), .val (.int y3), .val (.int y4), .val (.int y5), .val (.ref ba), .val (.ref bb), .val (.long (0 : Int64)), .second, .unset, .unset] [(.int y0), (.long (0 : Int64))])) (fun _ k => XS.iload X19.here hx rfl (hb hby at_74) rfl k) ?_
    refine Goes.by (T' := T19) (g' := (mkF m 77 #[.val (.int x0), .val (.int x1), .val (.int x2), .val (.int x3), .val (.int (3 : Int32)), .val (.int y0), .val (.int y1), .val (.int y2), .val (.int y3), .val (.int y4), .val (.int y5), .val (.ref ba), .val (.ref bb), .val (.long (0 : Int64)), .second, .unset, .unset] [(.long ((y0).toInt64)), (.long (0 : Int64))])) (fun _ k => XS.i2l X19.here hx rfl (hb hby at_76) rfl k) ?_
    refine Goes.by (T' := T19) (g' := (mkF m 79 #[.val (.int x0), .val (.int x1), .val (.int x2), .val (.int x3), .val (.int (3 : Int32)), .val (.int y0), .val (.int y1), .val (.int y2), .val (.int y3), .val (.int y4), .val (.int y5), .val (.ref ba), .val (.ref bb), .val (.long (0 : Int64)), .second, .unset, .unset] [(.int y1), (.long ((y0).toInt64)), (.long (0 : Int64))])) (fun _ k => XS.iload X19.here hx rfl (hb hby at_77) rfl k) ?_
    refine Goes.by (T' := T19) (g' := (mkF m 80 #[.val (.int x0), .val (.int x1), .val (.int x2), .val (.int x3), .val (.int (3 : Int32)), .val (.int y0), .val (.int y1), .val (.int y2), .val (.int y3), .val (.int y4), .val (.int y5), .val (.ref ba), .val (.ref bb), .val (.long (0 : Int64)), .second, .unset, .unset] [(.long ((y1).toInt64)), (.long ((y0).toInt64)), (.long (0 : Int64))])) (fun _ k => XS.i2l X19.here hx rfl (hb hby at_79) rfl k) ?_
    obtain ⟨p0, hp0⟩ : ∃ z : Int, z = y0.toInt * y1.toInt := ⟨_, rfl⟩
    have bp0 : p0.natAbs ≤ 32768 * 32768 := by rw [hp0]; exact own_mb by0 by1
    refine Goes.by (T' := T19) (g' := (mkF m 81 #[.val (.int x0), .val (.int x1), .val (.int x2), .val (.int x3), .val (.int (3 : Int32)), .val (.int y0), .val (.int y1), .val (.int y2), .val (.int y3), .val (.int y4), .val (.int y5), .val (.ref ba), .val (.ref bb), .val (.long (0 : Int64)), .second, .unset, .unset] [(.long (((y0).toInt64) * ((y1).toInt64))), (.long (0 : Int64))])) (fun _ k => XS.lmul X19.here hx rfl (hb hby at_80) rfl k) ?_
    obtain ⟨t0, q_t0⟩ : ∃ zz : Int64, zz = (((y0).toInt64) * ((y1).toInt64)) := ⟨_, rfl⟩
    rw [← q_t0]
    have et0 : t0.toInt = p0 := by rw [q_t0, own_lmul (by rw [c_i2l, c_i2l, ← hp0]; omega), c_i2l, c_i2l, hp0]
    refine Goes.by (T' := T19) (g' := (mkF m 82 #[.val (.int x0), .val (.int x1), .val (.int x2), .val (.int x3), .val (.int (3 : Int32)), .val (.int y0), .val (.int y1), .val (.int y2), .val (.int y3), .val (.int y4), .val (.int y5), .val (.ref ba), .val (.ref bb), .val (.long (0 : Int64)), .second, .unset, .unset] [(.long ((0 : Int64) + t0))])) (fun _ k => XS.ladd X19.here hx rfl (hb hby at_81) rfl k) ?_
    obtain ⟨r0, q_r0⟩ : ∃ zz : Int64, zz = ((0 : Int64) + t0) := ⟨_, rfl⟩
    rw [← q_r0]
    have er0 : r0.toInt = 0 + p0 := by rw [q_r0, own_ladd (by rw [et0]; rw [show (0 : Int64).toInt = 0 from by decide]; omega) (by rw [et0]; rw [show (0 : Int64).toInt = 0 from by decide]; omega), et0, show (0 : Int64).toInt = 0 from by decide]
    refine Goes.by (T' := T19) (g' := (mkF m 84 #[.val (.int x0), .val (.int x1), .val (.int x2), .val (.int x3), .val (.int (3 : Int32)), .val (.int y0), .val (.int y1), .val (.int y2), .val (.int y3), .val (.int y4), .val (.int y5), .val (.ref ba), .val (.ref bb), .val (.long r0), .second, .unset, .unset] [])) (fun _ k => XS.lstore X19.here hx rfl (hb hby at_82) rfl (l' := #[.val (.int x0), .val (.int x1), .val (.int x2), .val (.int x3), .val (.int (3 : Int32)), .val (.int y0), .val (.int y1), .val (.int y2), .val (.int y3), .val (.int y4), .val (.int y5), .val (.ref ba), .val (.ref bb), .val (.long r0), .second, .unset, .unset]) rfl k) ?_
    refine Goes.by (T' := T19) (g' := (mkF m 86 #[.val (.int x0), .val (.int x1), .val (.int x2), .val (.int x3), .val (.int (3 : Int32)), .val (.int y0), .val (.int y1), .val (.int y2), .val (.int y3), .val (.int y4), .val (.int y5), .val (.ref ba), .val (.ref bb), .val (.long r0), .second, .unset, .unset] [(.int (3 : Int32))])) (fun _ k => XS.iload X19.here hx rfl (hb hby at_84) rfl k) ?_
    refine Goes.by (T' := T19) (g' := (mkF m 87 #[.val (.int x0), .val (.int x1), .val (.int x2), .val (.int x3), .val (.int (3 : Int32)), .val (.int y0), .val (.int y1), .val (.int y2), .val (.int y3), .val (.int y4), .val (.int y5), .val (.ref ba), .val (.ref bb), .val (.long r0), .second, .unset, .unset] [(.int (1 : Int32)), (.int (3 : Int32))])) (fun _ k => XS.iconst X19.here hx rfl (hb hby at_86)  k) ?_
    refine Goes.by (T' := T19) (g' := (mkF m 90 #[.val (.int x0), .val (.int x1), .val (.int x2), .val (.int x3), .val (.int (3 : Int32)), .val (.int y0), .val (.int y1), .val (.int y2), .val (.int y3), .val (.int y4), .val (.int y5), .val (.ref ba), .val (.ref bb), .val (.long r0), .second, .unset, .unset] [])) (fun _ k => XS.icmpNo X19.here hx rfl (hb hby at_87) rfl (by decide) k) ?_
    refine Goes.by (T' := T19) (g' := (mkF m 92 #[.val (.int x0), .val (.int x1), .val (.int x2), .val (.int x3), .val (.int (3 : Int32)), .val (.int y0), .val (.int y1), .val (.int y2), .val (.int y3), .val (.int y4), .val (.int y5), .val (.ref ba), .val (.ref bb), .val (.long r0), .second, .unset, .unset] [(.ref ba)])) (fun _ k => XS.aload X19.here hx rfl (hb hby at_90) rfl rfl k) ?_
    refine Goes.by (T' := T19) (g' := (mkF m 93 #[.val (.int x0), .val (.int x1), .val (.int x2), .val (.int x3), .val (.int (3 : Int32)), .val (.int y0), .val (.int y1), .val (.int y2), .val (.int y3), .val (.int y4), .val (.int y5), .val (.ref ba), .val (.ref bb), .val (.long r0), .second, .unset, .unset] [(.int (1 : Int32)), (.ref ba)])) (fun _ k => XS.iconst X19.here hx rfl (hb hby at_92)  k) ?_
    refine Goes.by (T' := T19) (g' := (mkF m 95 #[.val (.int x0), .val (.int x1), .val (.int x2), .val (.int x3), .val (.int (3 : Int32)), .val (.int y0), .val (.int y1), .val (.int y2), .val (.int y3), .val (.int y4), .val (.int y5), .val (.ref ba), .val (.ref bb), .val (.long r0), .second, .unset, .unset] [(.int y2), (.int (1 : Int32)), (.ref ba)])) (fun _ k => XS.iload X19.here hx rfl (hb hby at_93) rfl k) ?_
    obtain ⟨u1, q_u1⟩ : ∃ zz, FP.i2d y2 = zz := ⟨_, rfl⟩
    refine Goes.by (T' := T19) (g' := (mkF m 96 #[.val (.int x0), .val (.int x1), .val (.int x2), .val (.int x3), .val (.int (3 : Int32)), .val (.int y0), .val (.int y1), .val (.int y2), .val (.int y3), .val (.int y4), .val (.int y5), .val (.ref ba), .val (.ref bb), .val (.long r0), .second, .unset, .unset] [(.double u1), (.int (1 : Int32)), (.ref ba)])) (fun _ k => XS.i2dS X19.here hx rfl (hb hby at_95) rfl q_u1 k) ?_
    obtain ⟨T20, h20, X20, e20, W20, V20, st20⟩ := stDS X19 hx hZ e19 V_ba (j := (1 : Int32)) 1 (by decide) (by show 1 < 3; decide) (g := (mkF m 96 #[.val (.int x0), .val (.int x1), .val (.int x2), .val (.int x3), .val (.int (3 : Int32)), .val (.int y0), .val (.int y1), .val (.int y2), .val (.int y3), .val (.int y4), .val (.int y5), .val (.ref ba), .val (.ref bb), .val (.long r0), .second, .unset, .unset] [(.double u1), (.int (1 : Int32)), (.ref ba)])) rfl rfl (hb hby at_96)
    have N0 := Fr.snoc X20 N0 ge_ba
    have V_bb := V_bb.other W20 (Ne.symm ne_ba_bb)
    have Z0 := Nat.le_trans Z0 (Nat.le_of_eq W20.size.symm)
    have V_ba : Sar Z h20 ba .double [(.double u0), (.double u1), (.double (0 : UInt64))] := V20
    refine Goes.by (T' := T20) (g' := (mkF m 97 #[.val (.int x0), .val (.int x1), .val (.int x2), .val (.int x3), .val (.int (3 : Int32)), .val (.int y0), .val (.int y1), .val (.int y2), .val (.int y3), .val (.int y4), .val (.int y5), .val (.ref ba), .val (.ref bb), .val (.long r0), .second, .unset, .unset] [])) st20 ?_
    refine Goes.by (T' := T20) (g' := (mkF m 99 #[.val (.int x0), .val (.int x1), .val (.int x2), .val (.int x3), .val (.int (3 : Int32)), .val (.int y0), .val (.int y1), .val (.int y2), .val (.int y3), .val (.int y4), .val (.int y5), .val (.ref ba), .val (.ref bb), .val (.long r0), .second, .unset, .unset] [(.ref bb)])) (fun _ k => XS.aload X20.here hx rfl (hb hby at_97) rfl rfl k) ?_
    refine Goes.by (T' := T20) (g' := (mkF m 100 #[.val (.int x0), .val (.int x1), .val (.int x2), .val (.int x3), .val (.int (3 : Int32)), .val (.int y0), .val (.int y1), .val (.int y2), .val (.int y3), .val (.int y4), .val (.int y5), .val (.ref ba), .val (.ref bb), .val (.long r0), .second, .unset, .unset] [(.int (1 : Int32)), (.ref bb)])) (fun _ k => XS.iconst X20.here hx rfl (hb hby at_99)  k) ?_
    refine Goes.by (T' := T20) (g' := (mkF m 102 #[.val (.int x0), .val (.int x1), .val (.int x2), .val (.int x3), .val (.int (3 : Int32)), .val (.int y0), .val (.int y1), .val (.int y2), .val (.int y3), .val (.int y4), .val (.int y5), .val (.ref ba), .val (.ref bb), .val (.long r0), .second, .unset, .unset] [(.int y3), (.int (1 : Int32)), (.ref bb)])) (fun _ k => XS.iload X20.here hx rfl (hb hby at_100) rfl k) ?_
    obtain ⟨v1, q_v1⟩ : ∃ zz, FP.i2d y3 = zz := ⟨_, rfl⟩
    refine Goes.by (T' := T20) (g' := (mkF m 103 #[.val (.int x0), .val (.int x1), .val (.int x2), .val (.int x3), .val (.int (3 : Int32)), .val (.int y0), .val (.int y1), .val (.int y2), .val (.int y3), .val (.int y4), .val (.int y5), .val (.ref ba), .val (.ref bb), .val (.long r0), .second, .unset, .unset] [(.double v1), (.int (1 : Int32)), (.ref bb)])) (fun _ k => XS.i2dS X20.here hx rfl (hb hby at_102) rfl q_v1 k) ?_
    obtain ⟨T21, h21, X21, e21, W21, V21, st21⟩ := stDS X20 hx hZ e20 V_bb (j := (1 : Int32)) 1 (by decide) (by show 1 < 3; decide) (g := (mkF m 103 #[.val (.int x0), .val (.int x1), .val (.int x2), .val (.int x3), .val (.int (3 : Int32)), .val (.int y0), .val (.int y1), .val (.int y2), .val (.int y3), .val (.int y4), .val (.int y5), .val (.ref ba), .val (.ref bb), .val (.long r0), .second, .unset, .unset] [(.double v1), (.int (1 : Int32)), (.ref bb)])) rfl rfl (hb hby at_103)
    have N0 := Fr.snoc X21 N0 ge_bb
    have V_ba := V_ba.other W21 ne_ba_bb
    have Z0 := Nat.le_trans Z0 (Nat.le_of_eq W21.size.symm)
    have V_bb : Sar Z h21 bb .double [(.double v0), (.double v1), (.double (0 : UInt64))] := V21
    refine Goes.by (T' := T21) (g' := (mkF m 104 #[.val (.int x0), .val (.int x1), .val (.int x2), .val (.int x3), .val (.int (3 : Int32)), .val (.int y0), .val (.int y1), .val (.int y2), .val (.int y3), .val (.int y4), .val (.int y5), .val (.ref ba), .val (.ref bb), .val (.long r0), .second, .unset, .unset] [])) st21 ?_
    refine Goes.by (T' := T21) (g' := (mkF m 106 #[.val (.int x0), .val (.int x1), .val (.int x2), .val (.int x3), .val (.int (3 : Int32)), .val (.int y0), .val (.int y1), .val (.int y2), .val (.int y3), .val (.int y4), .val (.int y5), .val (.ref ba), .val (.ref bb), .val (.long r0), .second, .unset, .unset] [(.long r0)])) (fun _ k => XS.lload X21.here hx rfl (hb hby at_104) rfl k) ?_
    refine Goes.by (T' := T21) (g' := (mkF m 108 #[.val (.int x0), .val (.int x1), .val (.int x2), .val (.int x3), .val (.int (3 : Int32)), .val (.int y0), .val (.int y1), .val (.int y2), .val (.int y3), .val (.int y4), .val (.int y5), .val (.ref ba), .val (.ref bb), .val (.long r0), .second, .unset, .unset] [(.int y2), (.long r0)])) (fun _ k => XS.iload X21.here hx rfl (hb hby at_106) rfl k) ?_
    refine Goes.by (T' := T21) (g' := (mkF m 109 #[.val (.int x0), .val (.int x1), .val (.int x2), .val (.int x3), .val (.int (3 : Int32)), .val (.int y0), .val (.int y1), .val (.int y2), .val (.int y3), .val (.int y4), .val (.int y5), .val (.ref ba), .val (.ref bb), .val (.long r0), .second, .unset, .unset] [(.long ((y2).toInt64)), (.long r0)])) (fun _ k => XS.i2l X21.here hx rfl (hb hby at_108) rfl k) ?_
    refine Goes.by (T' := T21) (g' := (mkF m 111 #[.val (.int x0), .val (.int x1), .val (.int x2), .val (.int x3), .val (.int (3 : Int32)), .val (.int y0), .val (.int y1), .val (.int y2), .val (.int y3), .val (.int y4), .val (.int y5), .val (.ref ba), .val (.ref bb), .val (.long r0), .second, .unset, .unset] [(.int y3), (.long ((y2).toInt64)), (.long r0)])) (fun _ k => XS.iload X21.here hx rfl (hb hby at_109) rfl k) ?_
    refine Goes.by (T' := T21) (g' := (mkF m 112 #[.val (.int x0), .val (.int x1), .val (.int x2), .val (.int x3), .val (.int (3 : Int32)), .val (.int y0), .val (.int y1), .val (.int y2), .val (.int y3), .val (.int y4), .val (.int y5), .val (.ref ba), .val (.ref bb), .val (.long r0), .second, .unset, .unset] [(.long ((y3).toInt64)), (.long ((y2).toInt64)), (.long r0)])) (fun _ k => XS.i2l X21.here hx rfl (hb hby at_111) rfl k) ?_
    obtain ⟨p1, hp1⟩ : ∃ z : Int, z = y2.toInt * y3.toInt := ⟨_, rfl⟩
    have bp1 : p1.natAbs ≤ 32768 * 32768 := by rw [hp1]; exact own_mb by2 by3
    refine Goes.by (T' := T21) (g' := (mkF m 113 #[.val (.int x0), .val (.int x1), .val (.int x2), .val (.int x3), .val (.int (3 : Int32)), .val (.int y0), .val (.int y1), .val (.int y2), .val (.int y3), .val (.int y4), .val (.int y5), .val (.ref ba), .val (.ref bb), .val (.long r0), .second, .unset, .unset] [(.long (((y2).toInt64) * ((y3).toInt64))), (.long r0)])) (fun _ k => XS.lmul X21.here hx rfl (hb hby at_112) rfl k) ?_
    obtain ⟨t1, q_t1⟩ : ∃ zz : Int64, zz = (((y2).toInt64) * ((y3).toInt64)) := ⟨_, rfl⟩
    rw [← q_t1]
    have et1 : t1.toInt = p1 := by rw [q_t1, own_lmul (by rw [c_i2l, c_i2l, ← hp1]; omega), c_i2l, c_i2l, hp1]
    refine Goes.by (T' := T21) (g' := (mkF m 114 #[.val (.int x0), .val (.int x1), .val (.int x2), .val (.int x3), .val (.int (3 : Int32)), .val (.int y0), .val (.int y1), .val (.int y2), .val (.int y3), .val (.int y4), .val (.int y5), .val (.ref ba), .val (.ref bb), .val (.long r0), .second, .unset, .unset] [(.long (r0 + t1))])) (fun _ k => XS.ladd X21.here hx rfl (hb hby at_113) rfl k) ?_
    obtain ⟨r1, q_r1⟩ : ∃ zz : Int64, zz = (r0 + t1) := ⟨_, rfl⟩
    rw [← q_r1]
    have er1 : r1.toInt = 0 + p0 + p1 := by rw [q_r1, own_ladd (by rw [et1, er0]; omega) (by rw [et1, er0]; omega), et1, er0]
    refine Goes.by (T' := T21) (g' := (mkF m 116 #[.val (.int x0), .val (.int x1), .val (.int x2), .val (.int x3), .val (.int (3 : Int32)), .val (.int y0), .val (.int y1), .val (.int y2), .val (.int y3), .val (.int y4), .val (.int y5), .val (.ref ba), .val (.ref bb), .val (.long r1), .second, .unset, .unset] [])) (fun _ k => XS.lstore X21.here hx rfl (hb hby at_114) rfl (l' := #[.val (.int x0), .val (.int x1), .val (.int x2), .val (.int x3), .val (.int (3 : Int32)), .val (.int y0), .val (.int y1), .val (.int y2), .val (.int y3), .val (.int y4), .val (.int y5), .val (.ref ba), .val (.ref bb), .val (.long r1), .second, .unset, .unset]) rfl k) ?_
    refine Goes.by (T' := T21) (g' := (mkF m 118 #[.val (.int x0), .val (.int x1), .val (.int x2), .val (.int x3), .val (.int (3 : Int32)), .val (.int y0), .val (.int y1), .val (.int y2), .val (.int y3), .val (.int y4), .val (.int y5), .val (.ref ba), .val (.ref bb), .val (.long r1), .second, .unset, .unset] [(.int (3 : Int32))])) (fun _ k => XS.iload X21.here hx rfl (hb hby at_116) rfl k) ?_
    refine Goes.by (T' := T21) (g' := (mkF m 119 #[.val (.int x0), .val (.int x1), .val (.int x2), .val (.int x3), .val (.int (3 : Int32)), .val (.int y0), .val (.int y1), .val (.int y2), .val (.int y3), .val (.int y4), .val (.int y5), .val (.ref ba), .val (.ref bb), .val (.long r1), .second, .unset, .unset] [(.int (2 : Int32)), (.int (3 : Int32))])) (fun _ k => XS.iconst X21.here hx rfl (hb hby at_118)  k) ?_
    refine Goes.by (T' := T21) (g' := (mkF m 122 #[.val (.int x0), .val (.int x1), .val (.int x2), .val (.int x3), .val (.int (3 : Int32)), .val (.int y0), .val (.int y1), .val (.int y2), .val (.int y3), .val (.int y4), .val (.int y5), .val (.ref ba), .val (.ref bb), .val (.long r1), .second, .unset, .unset] [])) (fun _ k => XS.icmpNo X21.here hx rfl (hb hby at_119) rfl (by decide) k) ?_
    refine Goes.by (T' := T21) (g' := (mkF m 124 #[.val (.int x0), .val (.int x1), .val (.int x2), .val (.int x3), .val (.int (3 : Int32)), .val (.int y0), .val (.int y1), .val (.int y2), .val (.int y3), .val (.int y4), .val (.int y5), .val (.ref ba), .val (.ref bb), .val (.long r1), .second, .unset, .unset] [(.ref ba)])) (fun _ k => XS.aload X21.here hx rfl (hb hby at_122) rfl rfl k) ?_
    refine Goes.by (T' := T21) (g' := (mkF m 125 #[.val (.int x0), .val (.int x1), .val (.int x2), .val (.int x3), .val (.int (3 : Int32)), .val (.int y0), .val (.int y1), .val (.int y2), .val (.int y3), .val (.int y4), .val (.int y5), .val (.ref ba), .val (.ref bb), .val (.long r1), .second, .unset, .unset] [(.int (2 : Int32)), (.ref ba)])) (fun _ k => XS.iconst X21.here hx rfl (hb hby at_124)  k) ?_
    refine Goes.by (T' := T21) (g' := (mkF m 127 #[.val (.int x0), .val (.int x1), .val (.int x2), .val (.int x3), .val (.int (3 : Int32)), .val (.int y0), .val (.int y1), .val (.int y2), .val (.int y3), .val (.int y4), .val (.int y5), .val (.ref ba), .val (.ref bb), .val (.long r1), .second, .unset, .unset] [(.int y4), (.int (2 : Int32)), (.ref ba)])) (fun _ k => XS.iload X21.here hx rfl (hb hby at_125) rfl k) ?_
    obtain ⟨u2, q_u2⟩ : ∃ zz, FP.i2d y4 = zz := ⟨_, rfl⟩
    refine Goes.by (T' := T21) (g' := (mkF m 128 #[.val (.int x0), .val (.int x1), .val (.int x2), .val (.int x3), .val (.int (3 : Int32)), .val (.int y0), .val (.int y1), .val (.int y2), .val (.int y3), .val (.int y4), .val (.int y5), .val (.ref ba), .val (.ref bb), .val (.long r1), .second, .unset, .unset] [(.double u2), (.int (2 : Int32)), (.ref ba)])) (fun _ k => XS.i2dS X21.here hx rfl (hb hby at_127) rfl q_u2 k) ?_
    obtain ⟨T22, h22, X22, e22, W22, V22, st22⟩ := stDS X21 hx hZ e21 V_ba (j := (2 : Int32)) 2 (by decide) (by show 2 < 3; decide) (g := (mkF m 128 #[.val (.int x0), .val (.int x1), .val (.int x2), .val (.int x3), .val (.int (3 : Int32)), .val (.int y0), .val (.int y1), .val (.int y2), .val (.int y3), .val (.int y4), .val (.int y5), .val (.ref ba), .val (.ref bb), .val (.long r1), .second, .unset, .unset] [(.double u2), (.int (2 : Int32)), (.ref ba)])) rfl rfl (hb hby at_128)
    have N0 := Fr.snoc X22 N0 ge_ba
    have V_bb := V_bb.other W22 (Ne.symm ne_ba_bb)
    have Z0 := Nat.le_trans Z0 (Nat.le_of_eq W22.size.symm)
    have V_ba : Sar Z h22 ba .double [(.double u0), (.double u1), (.double u2)] := V22
    refine Goes.by (T' := T22) (g' := (mkF m 129 #[.val (.int x0), .val (.int x1), .val (.int x2), .val (.int x3), .val (.int (3 : Int32)), .val (.int y0), .val (.int y1), .val (.int y2), .val (.int y3), .val (.int y4), .val (.int y5), .val (.ref ba), .val (.ref bb), .val (.long r1), .second, .unset, .unset] [])) st22 ?_
    refine Goes.by (T' := T22) (g' := (mkF m 131 #[.val (.int x0), .val (.int x1), .val (.int x2), .val (.int x3), .val (.int (3 : Int32)), .val (.int y0), .val (.int y1), .val (.int y2), .val (.int y3), .val (.int y4), .val (.int y5), .val (.ref ba), .val (.ref bb), .val (.long r1), .second, .unset, .unset] [(.ref bb)])) (fun _ k => XS.aload X22.here hx rfl (hb hby at_129) rfl rfl k) ?_
    refine Goes.by (T' := T22) (g' := (mkF m 132 #[.val (.int x0), .val (.int x1), .val (.int x2), .val (.int x3), .val (.int (3 : Int32)), .val (.int y0), .val (.int y1), .val (.int y2), .val (.int y3), .val (.int y4), .val (.int y5), .val (.ref ba), .val (.ref bb), .val (.long r1), .second, .unset, .unset] [(.int (2 : Int32)), (.ref bb)])) (fun _ k => XS.iconst X22.here hx rfl (hb hby at_131)  k) ?_
    refine Goes.by (T' := T22) (g' := (mkF m 134 #[.val (.int x0), .val (.int x1), .val (.int x2), .val (.int x3), .val (.int (3 : Int32)), .val (.int y0), .val (.int y1), .val (.int y2), .val (.int y3), .val (.int y4), .val (.int y5), .val (.ref ba), .val (.ref bb), .val (.long r1), .second, .unset, .unset] [(.int y5), (.int (2 : Int32)), (.ref bb)])) (fun _ k => XS.iload X22.here hx rfl (hb hby at_132) rfl k) ?_
    obtain ⟨v2, q_v2⟩ : ∃ zz, FP.i2d y5 = zz := ⟨_, rfl⟩
    refine Goes.by (T' := T22) (g' := (mkF m 135 #[.val (.int x0), .val (.int x1), .val (.int x2), .val (.int x3), .val (.int (3 : Int32)), .val (.int y0), .val (.int y1), .val (.int y2), .val (.int y3), .val (.int y4), .val (.int y5), .val (.ref ba), .val (.ref bb), .val (.long r1), .second, .unset, .unset] [(.double v2), (.int (2 : Int32)), (.ref bb)])) (fun _ k => XS.i2dS X22.here hx rfl (hb hby at_134) rfl q_v2 k) ?_
    obtain ⟨T23, h23, X23, e23, W23, V23, st23⟩ := stDS X22 hx hZ e22 V_bb (j := (2 : Int32)) 2 (by decide) (by show 2 < 3; decide) (g := (mkF m 135 #[.val (.int x0), .val (.int x1), .val (.int x2), .val (.int x3), .val (.int (3 : Int32)), .val (.int y0), .val (.int y1), .val (.int y2), .val (.int y3), .val (.int y4), .val (.int y5), .val (.ref ba), .val (.ref bb), .val (.long r1), .second, .unset, .unset] [(.double v2), (.int (2 : Int32)), (.ref bb)])) rfl rfl (hb hby at_135)
    have N0 := Fr.snoc X23 N0 ge_bb
    have V_ba := V_ba.other W23 ne_ba_bb
    have Z0 := Nat.le_trans Z0 (Nat.le_of_eq W23.size.symm)
    have V_bb : Sar Z h23 bb .double [(.double v0), (.double v1), (.double v2)] := V23
    refine Goes.by (T' := T23) (g' := (mkF m 136 #[.val (.int x0), .val (.int x1), .val (.int x2), .val (.int x3), .val (.int (3 : Int32)), .val (.int y0), .val (.int y1), .val (.int y2), .val (.int y3), .val (.int y4), .val (.int y5), .val (.ref ba), .val (.ref bb), .val (.long r1), .second, .unset, .unset] [])) st23 ?_
    refine Goes.by (T' := T23) (g' := (mkF m 138 #[.val (.int x0), .val (.int x1), .val (.int x2), .val (.int x3), .val (.int (3 : Int32)), .val (.int y0), .val (.int y1), .val (.int y2), .val (.int y3), .val (.int y4), .val (.int y5), .val (.ref ba), .val (.ref bb), .val (.long r1), .second, .unset, .unset] [(.long r1)])) (fun _ k => XS.lload X23.here hx rfl (hb hby at_136) rfl k) ?_
    refine Goes.by (T' := T23) (g' := (mkF m 140 #[.val (.int x0), .val (.int x1), .val (.int x2), .val (.int x3), .val (.int (3 : Int32)), .val (.int y0), .val (.int y1), .val (.int y2), .val (.int y3), .val (.int y4), .val (.int y5), .val (.ref ba), .val (.ref bb), .val (.long r1), .second, .unset, .unset] [(.int y4), (.long r1)])) (fun _ k => XS.iload X23.here hx rfl (hb hby at_138) rfl k) ?_
    refine Goes.by (T' := T23) (g' := (mkF m 141 #[.val (.int x0), .val (.int x1), .val (.int x2), .val (.int x3), .val (.int (3 : Int32)), .val (.int y0), .val (.int y1), .val (.int y2), .val (.int y3), .val (.int y4), .val (.int y5), .val (.ref ba), .val (.ref bb), .val (.long r1), .second, .unset, .unset] [(.long ((y4).toInt64)), (.long r1)])) (fun _ k => XS.i2l X23.here hx rfl (hb hby at_140) rfl k) ?_
    refine Goes.by (T' := T23) (g' := (mkF m 143 #[.val (.int x0), .val (.int x1), .val (.int x2), .val (.int x3), .val (.int (3 : Int32)), .val (.int y0), .val (.int y1), .val (.int y2), .val (.int y3), .val (.int y4), .val (.int y5), .val (.ref ba), .val (.ref bb), .val (.long r1), .second, .unset, .unset] [(.int y5), (.long ((y4).toInt64)), (.long r1)])) (fun _ k => XS.iload X23.here hx rfl (hb hby at_141) rfl k) ?_
    refine Goes.by (T' := T23) (g' := (mkF m 144 #[.val (.int x0), .val (.int x1), .val (.int x2), .val (.int x3), .val (.int (3 : Int32)), .val (.int y0), .val (.int y1), .val (.int y2), .val (.int y3), .val (.int y4), .val (.int y5), .val (.ref ba), .val (.ref bb), .val (.long r1), .second, .unset, .unset] [(.long ((y5).toInt64)), (.long ((y4).toInt64)), (.long r1)])) (fun _ k => XS.i2l X23.here hx rfl (hb hby at_143) rfl k) ?_
    obtain ⟨p2, hp2⟩ : ∃ z : Int, z = y4.toInt * y5.toInt := ⟨_, rfl⟩
    have bp2 : p2.natAbs ≤ 32768 * 32768 := by rw [hp2]; exact own_mb by4 by5
    refine Goes.by (T' := T23) (g' := (mkF m 145 #[.val (.int x0), .val (.int x1), .val (.int x2), .val (.int x3), .val (.int (3 : Int32)), .val (.int y0), .val (.int y1), .val (.int y2), .val (.int y3), .val (.int y4), .val (.int y5), .val (.ref ba), .val (.ref bb), .val (.long r1), .second, .unset, .unset] [(.long (((y4).toInt64) * ((y5).toInt64))), (.long r1)])) (fun _ k => XS.lmul X23.here hx rfl (hb hby at_144) rfl k) ?_
    obtain ⟨t2, q_t2⟩ : ∃ zz : Int64, zz = (((y4).toInt64) * ((y5).toInt64)) := ⟨_, rfl⟩
    rw [← q_t2]
    have et2 : t2.toInt = p2 := by rw [q_t2, own_lmul (by rw [c_i2l, c_i2l, ← hp2]; omega), c_i2l, c_i2l, hp2]
    refine Goes.by (T' := T23) (g' := (mkF m 146 #[.val (.int x0), .val (.int x1), .val (.int x2), .val (.int x3), .val (.int (3 : Int32)), .val (.int y0), .val (.int y1), .val (.int y2), .val (.int y3), .val (.int y4), .val (.int y5), .val (.ref ba), .val (.ref bb), .val (.long r1), .second, .unset, .unset] [(.long (r1 + t2))])) (fun _ k => XS.ladd X23.here hx rfl (hb hby at_145) rfl k) ?_
    obtain ⟨r2, q_r2⟩ : ∃ zz : Int64, zz = (r1 + t2) := ⟨_, rfl⟩
    rw [← q_r2]
    have er2 : r2.toInt = 0 + p0 + p1 + p2 := by rw [q_r2, own_ladd (by rw [et2, er1]; omega) (by rw [et2, er1]; omega), et2, er1]
    refine Goes.by (T' := T23) (g' := (mkF m 148 #[.val (.int x0), .val (.int x1), .val (.int x2), .val (.int x3), .val (.int (3 : Int32)), .val (.int y0), .val (.int y1), .val (.int y2), .val (.int y3), .val (.int y4), .val (.int y5), .val (.ref ba), .val (.ref bb), .val (.long r2), .second, .unset, .unset] [])) (fun _ k => XS.lstore X23.here hx rfl (hb hby at_146) rfl (l' := #[.val (.int x0), .val (.int x1), .val (.int x2), .val (.int x3), .val (.int (3 : Int32)), .val (.int y0), .val (.int y1), .val (.int y2), .val (.int y3), .val (.int y4), .val (.int y5), .val (.ref ba), .val (.ref bb), .val (.long r2), .second, .unset, .unset]) rfl k) ?_
    refine Goes.by (T' := T23) (g' := (mkF m 150 #[.val (.int x0), .val (.int x1), .val (.int x2), .val (.int x3), .val (.int (3 : Int32)), .val (.int y0), .val (.int y1), .val (.int y2), .val (.int y3), .val (.int y4), .val (.int y5), .val (.ref ba), .val (.ref bb), .val (.long r2), .second, .unset, .unset] [(.ref ba)])) (fun _ k => XS.aload X23.here hx rfl (hb hby at_148) rfl rfl k) ?_
    refine Goes.by (T' := T23) (g' := (mkF m 152 #[.val (.int x0), .val (.int x1), .val (.int x2), .val (.int x3), .val (.int (3 : Int32)), .val (.int y0), .val (.int y1), .val (.int y2), .val (.int y3), .val (.int y4), .val (.int y5), .val (.ref ba), .val (.ref bb), .val (.long r2), .second, .unset, .unset] [(.ref bb), (.ref ba)])) (fun _ k => XS.aload X23.here hx rfl (hb hby at_150) rfl rfl k) ?_
    obtain ⟨v24, T24, L24, X24, hQ24, st24⟩ := callC X23 hx hZ (y := (⟨"com/example/adhoq/adhoq/Vectors", "dot", "([D[D)D"⟩ : MethodName)) hown (hw _ (List.mem_of_getElem? (i := 1) rfl)) (hw _ (List.mem_of_getElem? (i := 2) rfl)) (hw _ (List.mem_of_getElem? (i := 4) rfl)) (hw _ (List.mem_of_getElem? (i := 3) rfl)) (by decide) e23 (argsL := [(.ref ba), (.ref bb)]) (rest := []) (W := 0) (rm_dot3 l Z a0 hw ba bb u0 v0 y0.toInt y1.toInt u1 v1 y2.toInt y3.toInt u2 v2 y4.toInt y5.toInt h23 n0 Z0 V_ba V_bb (DInt_i2d q_u0) (DInt_i2d q_v0) by0 by1 (DInt_i2d q_u1) (DInt_i2d q_v1) by2 by3 (DInt_i2d q_u2) (DInt_i2d q_v2) by4 by5) rfl (by decide) (by decide) (by decide) (by decide) (g := (mkF m 152 #[.val (.int x0), .val (.int x1), .val (.int x2), .val (.int x3), .val (.int (3 : Int32)), .val (.int y0), .val (.int y1), .val (.int y2), .val (.int y3), .val (.int y4), .val (.int y5), .val (.ref ba), .val (.ref bb), .val (.long r2), .second, .unset, .unset] [(.ref bb), (.ref ba)])) rfl (by rw [hml]; rfl) (lenOf pd0 rfl) rfl (by show 2 * 0 + _ ≤ _; exact Nat.le_of_eq rfl) (hb hby at_152)
    obtain ⟨⟨dg, rfl, DG⟩, NL24, hk24⟩ := hQ24
    have N0 := Fr.app N0 NL24
    refine Goes.by (T' := T24) (g' := (mkF m 155 #[.val (.int x0), .val (.int x1), .val (.int x2), .val (.int x3), .val (.int (3 : Int32)), .val (.int y0), .val (.int y1), .val (.int y2), .val (.int y3), .val (.int y4), .val (.int y5), .val (.ref ba), .val (.ref bb), .val (.long r2), .second, .unset, .unset] [(.double dg)])) st24 ?_
    refine Goes.by (T' := T24) (g' := (mkF m 157 #[.val (.int x0), .val (.int x1), .val (.int x2), .val (.int x3), .val (.int (3 : Int32)), .val (.int y0), .val (.int y1), .val (.int y2), .val (.int y3), .val (.int y4), .val (.int y5), .val (.ref ba), .val (.ref bb), .val (.long r2), .second, .val (.double dg), .second] [])) (fun _ k => XS.dstore X24.here hx rfl (hb hby at_155) rfl (l' := #[.val (.int x0), .val (.int x1), .val (.int x2), .val (.int x3), .val (.int (3 : Int32)), .val (.int y0), .val (.int y1), .val (.int y2), .val (.int y3), .val (.int y4), .val (.int y5), .val (.ref ba), .val (.ref bb), .val (.long r2), .second, .val (.double dg), .second]) rfl k) ?_
    refine Goes.by (T' := T24) (g' := (mkF m 159 #[.val (.int x0), .val (.int x1), .val (.int x2), .val (.int x3), .val (.int (3 : Int32)), .val (.int y0), .val (.int y1), .val (.int y2), .val (.int y3), .val (.int y4), .val (.int y5), .val (.ref ba), .val (.ref bb), .val (.long r2), .second, .val (.double dg), .second] [(.double dg)])) (fun _ k => XS.dload X24.here hx rfl (hb hby at_157) rfl k) ?_
    refine Goes.by (T' := T24) (g' := (mkF m 161 #[.val (.int x0), .val (.int x1), .val (.int x2), .val (.int x3), .val (.int (3 : Int32)), .val (.int y0), .val (.int y1), .val (.int y2), .val (.int y3), .val (.int y4), .val (.int y5), .val (.ref ba), .val (.ref bb), .val (.long r2), .second, .val (.double dg), .second] [(.long r2), (.double dg)])) (fun _ k => XS.lload X24.here hx rfl (hb hby at_159) rfl k) ?_
    obtain ⟨dr, q_dr⟩ : ∃ zz, FP.l2d r2 = zz := ⟨_, rfl⟩
    refine Goes.by (T' := T24) (g' := (mkF m 162 #[.val (.int x0), .val (.int x1), .val (.int x2), .val (.int x3), .val (.int (3 : Int32)), .val (.int y0), .val (.int y1), .val (.int y2), .val (.int y3), .val (.int y4), .val (.int y5), .val (.ref ba), .val (.ref bb), .val (.long r2), .second, .val (.double dg), .second] [(.double dr), (.double dg)])) (fun _ k => XS.l2dS X24.here hx rfl (hb hby at_161) rfl q_dr k) ?_
    have DR : Core.DInt r2.toInt dr := DInt_l2d q_dr (by rw [er2]; omega)
    rw [← hp0, ← hp1, ← hp2] at DG
    rw [er2] at DR
    refine Goes.by (T' := T24) (g' := (mkF m 163 #[.val (.int x0), .val (.int x1), .val (.int x2), .val (.int x3), .val (.int (3 : Int32)), .val (.int y0), .val (.int y1), .val (.int y2), .val (.int y3), .val (.int y4), .val (.int y5), .val (.ref ba), .val (.ref bb), .val (.long r2), .second, .val (.double dg), .second] [(.int (0 : Int32))])) (fun _ k => XS.dcmpS X24.here hx rfl (hb hby at_162) rfl (cmpD_eq DG DR rfl _) k) ?_
    refine Goes.by (T' := T24) (g' := (mkF m 166 #[.val (.int x0), .val (.int x1), .val (.int x2), .val (.int x3), .val (.int (3 : Int32)), .val (.int y0), .val (.int y1), .val (.int y2), .val (.int y3), .val (.int y4), .val (.int y5), .val (.ref ba), .val (.ref bb), .val (.long r2), .second, .val (.double dg), .second] [])) (fun _ k => XS.ifNo X24.here hx rfl (hb hby at_163) rfl (by decide) k) ?_
    refine Goes.by (T' := T24) (g' := (mkF m 167 #[.val (.int x0), .val (.int x1), .val (.int x2), .val (.int x3), .val (.int (3 : Int32)), .val (.int y0), .val (.int y1), .val (.int y2), .val (.int y3), .val (.int y4), .val (.int y5), .val (.ref ba), .val (.ref bb), .val (.long r2), .second, .val (.double dg), .second] [(.int (1 : Int32))])) (fun _ k => XS.iconst X24.here hx rfl (hb hby at_166)  k) ?_
    refine Goes.by (T' := T24) (g' := (mkF m 171 #[.val (.int x0), .val (.int x1), .val (.int x2), .val (.int x3), .val (.int (3 : Int32)), .val (.int y0), .val (.int y1), .val (.int y2), .val (.int y3), .val (.int y4), .val (.int y5), .val (.ref ba), .val (.ref bb), .val (.long r2), .second, .val (.double dg), .second] [(.int (1 : Int32))])) (fun _ k => XS.goto X24.here hx rfl (pc0 := 167) (pc' := 171) rfl (hb hby at_167) (by decide) (by decide) k) ?_
    exact outZ X24 hx hlk hret (hb hby at_171) (by exact ⟨rfl, N0⟩) (by decide) (by decide)
set_option maxRecDepth 65536 in
set_option maxHeartbeats 40000000 in
theorem comes_1 {Post : Tables → Env → Array Value → State → Outcome → State → Prop} (hpost : ∀ tb e args s v u, (limb_1_1.after args s (.returned v) u = true ∧ limb_1_2.after args s (.returned v) u = true ∧ True) → FrameEnd s (.returned v) u (Jvm.fieldLocs frame_1_writes args s ++ Jvm.arrayLocs frame_1_arrays args s ++ Jvm.staticLocs frame_1_statics s) 16 128 → Post tb e args s (.returned v) u) :
    ArmFor flags0 classFile x code maxLocals ret World_1 tables_1 room_1 Calls_1 rest_1 Pre_1 Post := by
  intro l hfl _ _ p e ha hc hk s m args below hf hA hF happ hP
  obtain ⟨hcalls, hrest, hpre⟩ := hP
  obtain ⟨-, -, -, hnamed, -, -, -, hat⟩ := (Spec.applies_iff hf).mp happ
  obtain ⟨hg, hn⟩ := and_e (Cond.before_iff.mp (show (Jvm.Cond.and given_1 narrow_1).before args s = true from hpre))
  obtain ⟨g0, t0⟩ := and_e hg
  obtain ⟨g1, t1⟩ := and_e t0
  obtain ⟨g2, t2⟩ := and_e t1
  obtain ⟨g3, t3⟩ := and_e t2
  obtain ⟨w0, w1, w2, w3, rfl⟩ : ∃ w0 w1 w2 w3 : Value, args = #[w0, w1, w2, w3] := by
    have hs : args.size = 4 := by simpa [Cond.value, given_1] using g0
    obtain ⟨L⟩ := args
    match L, hs with
    | [w0, w1, w2, w3], _ => exact ⟨w0, w1, w2, w3, rfl⟩
  have hw := fun d (hd : d ∈ tables_1) => atoms_spec (ws := Jvm.Cond.code x code maxLocals ret :: tables_1) hat d (List.mem_cons_of_mem _ hd)
  obtain ⟨i0, e0⟩ := is_v g1
  obtain rfl : w0 = (.int i0) := Option.some.inj e0
  obtain ⟨i1, e1⟩ := is_v g2
  obtain rfl : w1 = (.int i1) := Option.some.inj e1
  obtain ⟨i2, e2⟩ := is_v g3
  obtain rfl : w2 = (.int i2) := Option.some.inj e2
  obtain ⟨i3, e3⟩ := is_v t3
  obtain rfl : w3 = (.int i3) := Option.some.inj e3
  obtain ⟨n, o, h1, h2, h3, _, L, rfl, ⟨rfl, N⟩, hq⟩ := rm_law l s _ hw i0 i1 i2 i3 s.heap s.heap.size (Nat.le_refl _)  p e ha hc hk s m _ below hf ((Spec.applies_iff_loose hf).mp happ).1 ⟨rfl, State.Warmed39.refl s, rfl⟩ trivial
  refine ⟨n, _, h1, h2, h3, hpost _ _ _ _ _ _ ⟨Cond.after_iff.mpr rfl, Cond.after_iff.mpr (eq_i res_at (Term.int_eval (1)) rfl), trivial⟩ ⟨hq.1, hq.2.1, (hq.2.2.sift fun y hy => Or.inr (N y hy)).mono (by decide) (by decide)⟩⟩
theorem main_1_1 : Claimed_1_1 := comes_1 fun _ _ _ _ _ _ h hF => ⟨h.1, hF⟩
theorem main_1_2 : Claimed_1_2 := comes_1 fun _ _ _ _ _ _ h hF => ⟨h.2.1, hF⟩
end Jvm.Pilot.@@N@@
namespace Jvm.Pilot.@@N@@
open Jvm Jvm.ClassFile Sem Op Lib Jvm.Free Jvm.Stand Jvm.Pilot.@@N@@.Jvm.D
/-! MADE BY PROGRAM (witnessworld.py) out of the Statement's table words and the real class files: 9 classes; the members and pool entries that the words name. The judged class is class 1, her method 1. -/
namespace start1
open Jvm.ClassFile
def u (s : String) : CpInfo := .utf8 (stringToUtf16 s)
/-- a pool by its gaps: so many unusable entries, then the entry; so many at the end -/
def gap : Nat → List CpInfo → List CpInfo
  | 0, r => r
  | n + 1, r => .unusable :: gap n r
def poolList (es : List (Nat × CpInfo)) (last : Nat) : List CpInfo := es.foldr (fun e r => gap e.1 (e.2 :: r)) (gap last [])
def pool (es : List (Nat × CpInfo)) (last : Nat) : Array CpInfo := ⟨poolList es last⟩
def fileOf (pool : Array CpInfo) (this : Nat) (attrs : Array Attribute := #[]) (ms : Array MethodInfo := #[]) (fl : Nat := 33) (sup : Nat := 0) (ifs : Array Nat := #[]) (fds : Array FieldInfo := #[]) : ClassFile where
  minorVersion := 0
  majorVersion := 65
  constantPool := pool
  accessFlags := fl
  thisClass := this
  superClass := sup
  interfaces := ifs
  fields := fds
  methods := ms
  attributes := attrs
def plain (name : String) (sup : Option ClassId) : Class where
  name := name
  kind := .ordinary
  loader := none
  accessFlags := 33
  super := sup
  interfaces := #[]
  cf := none
  fields := #[]
  methods := #[]
  instanceTypes := #[]
  staticTypes := #[]
  resolved := #[]
  callSites := []
  init := .initialized
  statics := none
  mirror := none

def pool0 : Array CpInfo := pool [(5, u "<init>"), (0, u "()V"), (1, .class_ 10), (1, u "java/lang/Object")] 113

def k0m0 : Method := { name := "<init>", desc := "()V", sig := { parameters := [], returnType := none }, accessFlags := 1, code := none }
/-- java/lang/Object -/
def k0 : Class := { plain "java/lang/Object" none with
  accessFlags := 33
  interfaces := #[]
  cf := some (fileOf pool0 8 #[] #[{ accessFlags := 1, nameIndex := 5, descriptorIndex := 6, attributes := #[] }] 33 0 #[] #[])
  fields := #[]
  methods := #[k0m0]
  instanceTypes := #[]
  staticTypes := #[]
  resolved := Array.replicate 124 none
  statics := none }

def pool1 : Array CpInfo := pool [(2, .class_ 4), (1, u "java/lang/Object"), (0, u "<init>"), (0, u "()V"), (0, .methodref 8 9), (0, .class_ 10), (0, .nameAndType 11 12), (0, u "com/example/adhoq/adhoq/Vectors"), (0, u "dot"), (0, u "([D[D)D"), (0, .class_ 14), (0, u "com/example/adhoq/adhoq/VectorsDotPinLaw"), (2, u "law"), (0, u "(IIII)Z")] 5

def k1m0 : Method := { name := "<init>", desc := "()V", sig := { parameters := [], returnType := none }, accessFlags := 2, code := none }
def k1c1 : Code := { maxStack := 6, maxLocals := 17, code := code, exceptionTable := #[], attributes := #[] }
def k1m1 : Method := { name := "law", desc := "(IIII)Z", sig := { parameters := [.int, .int, .int, .int], returnType := some .boolean }, accessFlags := 9, code := some k1c1 }
/-- com/example/adhoq/adhoq/VectorsDotPinLaw -/
def k1 : Class := { plain "com/example/adhoq/adhoq/VectorsDotPinLaw" (some 0) with
  accessFlags := 49
  interfaces := #[]
  cf := some (fileOf pool1 13 #[] #[{ accessFlags := 2, nameIndex := 5, descriptorIndex := 6, attributes := #[] }, { accessFlags := 9, nameIndex := 17, descriptorIndex := 18, attributes := #[] }] 49 2 #[] #[])
  fields := #[]
  methods := #[k1m0, k1m1]
  instanceTypes := #[]
  staticTypes := #[]
  resolved := Array.replicate 24 none
  statics := none }

def pool2 : Array CpInfo := pool [(2, .class_ 4), (1, u "java/lang/Object"), (0, u "<init>"), (0, u "()V"), (1, .class_ 10), (1, u "com/example/adhoq/adhoq/Vectors"), (0, u "dot"), (0, u "([D[D)D")] 19

def k2m0 : Method := { name := "<init>", desc := "()V", sig := { parameters := [], returnType := none }, accessFlags := 2, code := none }
def k2c1 : Code := { maxStack := 6, maxLocals := 5, code := prog_37_method_2_code, exceptionTable := #[], attributes := #[] }
def k2m1 : Method := { name := "dot", desc := "([D[D)D", sig := { parameters := [(.array .double), (.array .double)], returnType := some .double }, accessFlags := 8, code := some k2c1 }
/-- com/example/adhoq/adhoq/Vectors -/
def k2 : Class := { plain "com/example/adhoq/adhoq/Vectors" (some 0) with
  accessFlags := 48
  interfaces := #[]
  cf := some (fileOf pool2 8 #[] #[{ accessFlags := 2, nameIndex := 5, descriptorIndex := 6, attributes := #[] }, { accessFlags := 8, nameIndex := 11, descriptorIndex := 12, attributes := #[] }] 48 2 #[] #[])
  fields := #[]
  methods := #[k2m0, k2m1]
  instanceTypes := #[]
  staticTypes := #[]
  resolved := Array.replicate 32 none
  statics := none }

def pool3 : Array CpInfo := pool [(1, u "java/lang/Cloneable"), (0, .class_ 1), (0, u "java/lang/Object"), (0, .class_ 3)] 3

/-- java/lang/Cloneable -/
def k3 : Class := { plain "java/lang/Cloneable" (some 0) with
  accessFlags := 1537
  interfaces := #[]
  cf := some (fileOf pool3 2 #[] #[] 1537 4 #[] #[])
  fields := #[]
  methods := #[]
  instanceTypes := #[]
  staticTypes := #[]
  resolved := Array.replicate 8 none
  statics := none }

def pool4 : Array CpInfo := pool [(1, u "java/io/Serializable"), (0, .class_ 1), (0, u "java/lang/Object"), (0, .class_ 3)] 3

/-- java/io/Serializable -/
def k4 : Class := { plain "java/io/Serializable" (some 0) with
  accessFlags := 1537
  interfaces := #[]
  cf := some (fileOf pool4 2 #[] #[] 1537 4 #[] #[])
  fields := #[]
  methods := #[]
  instanceTypes := #[]
  staticTypes := #[]
  resolved := Array.replicate 8 none
  statics := none }

/-- the primitive byte -/
def k5 : Class := { plain "byte" none with kind := .primitive 'B', accessFlags := 0x411 }
/-- [B -/
def k6 : Class := { plain "[B" (some 0) with kind := .array 5 .byte, interfaces := #[3, 4], accessFlags := 1041 }

/-- the primitive int -/
def k7 : Class := { plain "int" none with kind := .primitive 'I', accessFlags := 0x411 }
/-- [I -/
def k8 : Class := { plain "[I" (some 0) with kind := .array 7 .int, interfaces := #[3, 4], accessFlags := 1041 }

/-- the primitive double -/
def k9 : Class := { plain "double" none with kind := .primitive 'D', accessFlags := 0x411 }
/-- [D -/
def k10 : Class := { plain "[D" (some 0) with kind := .array 9 .double, interfaces := #[3, 4], accessFlags := 1041 }
def heap : Heap := #[]
def classes : Array Class := #[k0, k1, k2, k3, k4, k5, k6, k7, k8, k9, k10]
def interned : List (Array UInt16 × Addr) := []
def slotsUsed : Nat := 0
def theMethod : MethodId := ⟨1, 1⟩
def args0 : Array Value := #[.int 2, .int 5, .int 5, .int 5]
def aboutOver (below : List Frame) : State where
  vm := { classes := classes, interned := interned.toArray }
  heap := heap
  slotsUsed := slotsUsed
  threads := #[{ frames := .invoking theMethod args0 :: below }]
def below0 : List Frame := [.native { method := ⟨0, 0⟩, args := #[] }]
def about1 : State := aboutOver below0
def p0 : Program := .bare "" "" ""
def e0 : Env := launch0.env 0 0 0
theorem w_frames : about1.frames = Frame.invoking theMethod args0 :: below0 := rfl
set_option maxRecDepth 65536 in
theorem w_args : argsFit about1.vm theMethod args0 = true := by decide +kernel
set_option maxRecDepth 65536 in
theorem w_heap : heapFits about1 = true := by decide +kernel
set_option maxRecDepth 65536 in
theorem w_runnable : about1.curStatus? = some .runnable := by decide +kernel
set_option maxRecDepth 65536 in
theorem w_alone : about1.alone = true := by decide +kernel
set_option maxRecDepth 65536 in
theorem w_named : about1.methodNamed? x = some theMethod := by decide +kernel
set_option maxRecDepth 65536 in
theorem w_hears : about1.hears theMethod below0 = true := by decide +kernel
set_option maxRecDepth 65536 in
theorem w_ripe : about1.ripe theMethod args0 below0 = true := by decide +kernel
theorem w_running : about1.status = .running := rfl
set_option maxRecDepth 65536 in
theorem w_room : about1.hasRoom e0.platform room_1 = true :=
  launch0.hasRoom_least _ room_1 (by decide +kernel) (by decide +kernel) (by decide +kernel) (by decide +kernel) (by decide +kernel) (by decide +kernel)
theorem allAtoms_all (ts : List Jvm.Cond) (a : Array Jvm.Value) (st : Jvm.State) : (allAtoms ts).before a st = ts.all (fun c => c.before a st) := by
  induction ts with
  | nil => rfl
  | cons c t ih =>
    show (Jvm.Cond.and c (allAtoms t)).before a st = _
    rw [Jvm.Cond.before_and, ih, List.all_cons]
def words1 : List Jvm.Cond := Jvm.Cond.code x code maxLocals ret :: tables_1
/-- a 'code' word, met by the world's own term for the bytes: nothing is compared byte by byte -/
theorem code_word {y : MethodName} {bytes : ByteArray} {mx : Nat} {rt : Option FieldType} {a : Array Value} {s : State} {m : MethodId} {meth : Method} {c : Code} (h1 : s.methodNamed? y = some m) (h2 : s.vm.method? m = some meth) (h3 : meth.code = some c) (h4 : c.code = bytes)
    (h5 : (c.maxLocals == mx && c.exceptionTable.isEmpty && decide (c.maxStack ≤ mostOperands) && decide (meth.sig.returnType = rt) && !meth.locks && decide (parseMethodDescriptor y.desc = some meth.sig)) = true) : (Jvm.Cond.code y bytes mx rt).before a s = true := by
  simp only [Bool.and_eq_true, beq_iff_eq, Bool.not_eq_true', decide_eq_true_eq] at h5
  obtain ⟨⟨⟨⟨⟨g1, g2⟩, g3⟩, g4⟩, g5⟩, g6⟩ := h5
  simp [Cond.before, Cond.holds, Cond.value, h1, h2, h3, h4, g1, g2, g3, g4, g5, g6]
def isCode : Jvm.Cond → Bool
  | .code _ _ _ _ => true
  | _ => false
theorem all_split {L : List Jvm.Cond} {P : Jvm.Cond → Bool} (h1 : L.all (fun c => isCode c || P c) = true) (h2 : ∀ c ∈ L.filter isCode, P c = true) : L.all P = true := by
  refine List.all_eq_true.mpr fun c hc => ?_
  have h := List.all_eq_true.mp h1 c hc
  rcases Bool.eq_false_or_eq_true (isCode c) with hi | hi
  · exact h2 c (List.mem_filter.mpr ⟨hc, hi⟩)
  · simpa [hi] using h
set_option maxRecDepth 65536 in
theorem w_c0 : (Jvm.Cond.code x code maxLocals ret).before args0 about1 = true := code_word (m := ⟨1, 1⟩) (meth := k1m1) (c := k1c1) (by decide +kernel) rfl rfl rfl (by decide +kernel)
set_option maxRecDepth 65536 in
theorem w_c1 : (Jvm.Cond.code ({ cls := "com/example/adhoq/adhoq/Vectors", name := "dot", desc := "([D[D)D" } : Jvm.MethodName) prog_37_method_2_code (5 : Nat) (Option.some Jvm.ClassFile.FieldType.double)).before args0 about1 = true := code_word (m := ⟨2, 1⟩) (meth := k2m1) (c := k2c1) (by decide +kernel) rfl rfl rfl (by decide +kernel)
def codes1 : List Jvm.Cond := [Jvm.Cond.code x code maxLocals ret, Jvm.Cond.code ({ cls := "com/example/adhoq/adhoq/Vectors", name := "dot", desc := "([D[D)D" } : Jvm.MethodName) prog_37_method_2_code (5 : Nat) (Option.some Jvm.ClassFile.FieldType.double)]
set_option maxRecDepth 65536 in
theorem codes_eq : words1.filter isCode = codes1 := rfl
theorem w_codes : ∀ c ∈ words1.filter isCode, c.before args0 about1 = true := by
  rw [codes_eq]
  intro c hc
  simp only [codes1, List.mem_cons, List.not_mem_nil, or_false] at hc
  rcases hc with rfl | rfl
  · exact w_c0
  · exact w_c1
set_option maxRecDepth 65536 in
theorem w_t1 : words1.all (fun c => isCode c || c.before args0 about1) = true := by decide +kernel
theorem w_tables : (allAtoms (Jvm.Cond.code x code maxLocals ret :: tables_1)).before args0 about1 = true := by
  rw [allAtoms_all]
  show words1.all (fun c => c.before args0 about1) = true
  refine all_split ?_ w_codes
  rw [w_t1]
set_option maxRecDepth 65536 in
theorem w_case : (Jvm.Cond.and given_1 narrow_1).before args0 about1 = true := by decide +kernel
theorem w_applies : (headSpec (Jvm.Cond.code x code maxLocals ret :: tables_1) room_1).applies x e0.platform about1 = true :=
  (Spec.applies_iff w_frames).mpr ⟨w_running, w_runnable, w_alone, w_named, w_hears, w_ripe, w_room, w_tables⟩
theorem atStart : AtStart classFile x code maxLocals ret World_1 tables_1 room_1 Calls_1 rest_1 Pre_1 launch0 p0 e0 about1 theMethod args0 below0 :=
  ⟨lists_1, trivial, launch0.admits_env _ _ _, launch0.least_env, fairChoices_fair.cas, fairChoices_fair.clock, w_frames, w_args, w_heap, w_applies, trivial, trivial, w_case⟩
end start1
theorem witness_1 : WitnessClaimed_1 := ⟨start1.p0, start1.e0, start1.about1, start1.theMethod, start1.args0, start1.below0, start1.atStart⟩
end Jvm.Pilot.@@N@@
