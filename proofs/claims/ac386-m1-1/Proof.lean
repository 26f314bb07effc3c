import JvmDerived
import JvmDerived.Pilot.@@N@@Statement
import JvmDerived.Pilot.@@N@@Code
set_option linter.unusedVariables false
set_option linter.unusedSimpArgs false
namespace Jvm.RoadKit
open Sem ClassFile Op Lib Jvm.Stand Jvm.Free Jvm.LawKit
/-! own_: walks written forward: 'Goes P T g': from the frame g at T the run comes to a state that P takes. -/
def Goes (p : Program) (e : Env) (below : List Frame) (P : State → Prop) (T : State) (g : JFrame) : Prop := ∃ t, Steps p.tables e below (T.setTop g) t ∧ P t
/-- how a body ends: it returned v, and Q holds of v, the heap and the places written -/
def Fin1 (below : List Frame) (s : State) (rm : Room) (Q : Option Value → Heap → List Loc → Prop) (t : State) : Prop :=
  ∃ o, t.status = .running ∧ Ended t below o ∧ ∃ v L, o = .returned v ∧ Q v t.heap L ∧ FrameEnd s o t L rm.cells rm.slots
/-- a body's contract -/
def Does (l : Launch) (y : MethodName) (bytes : ByteArray) (maxL : Nat) (ret : Option FieldType) (ws : List Cond) (rm : Room) (Z : State) (as' : Array Value) (h : Heap) (Q : Option Value → Heap → List Loc → Prop) : Prop :=
  MetFree l y (head1 (Cond.code y bytes maxL ret :: ws) rm) (fun a U => a = as' ∧ Z.Warmed39 U.vm ∧ U.heap = h) (fun _ _ _ _ _ => True) (fun _ U o U' => ∃ v L, o = .returned v ∧ Q v U'.heap L ∧ FrameEnd U o U' L rm.cells rm.slots)
section Own
variable {p : Program} {l : Launch} {e : Env} {R : Room} {s : State} {m : MethodId} {args : Array Value} {below : List Frame} {meth : Method} {c : Code} {T T' : State} {locs : List Loc} {cells slots : Nat} {Z : State} {a0 : Array Value} {h h' : Heap} {g g' : JFrame} {P : State → Prop}
theorem Goes.by (st : ∀ target, Steps p.tables e below (T'.setTop g') target → Steps p.tables e below (T.setTop g) target) (k : Goes p e below P T' g') : Goes p e below P T g := by
  obtain ⟨t, h1, h2⟩ := k
  exact ⟨t, st _ h1, h2⟩
theorem Goes.cast (q : g = g') (k : Goes p e below P T g') : Goes p e below P T g := q ▸ k
theorem Does.of {y : MethodName} {bytes : ByteArray} {maxL : Nat} {ret : Option FieldType} {ws : List Cond} {rm : Room} {as' : Array Value} {Q : Option Value → Heap → List Loc → Prop} (hp : plainFor y = true)
    (body : ∀ (p : Program) (e : Env) (s : State) (m : MethodId) (below : List Frame) (meth : Method) (c : Code) (s₁ : State), p.tables.exec = Jvm.exec → c.code = bytes → c.maxLocals = maxL → meth.sig.returnType = ret → meth.locks = false → Z.Warmed39 s.vm → s.vm.findClass y.cls = some m.cls → meth.name = y.name → Stand p l e rm s m as' below meth c s₁ [] 0 0 → s₁.heap = h →
      Goes p e below (Fin1 below s rm Q) s₁ (entryFrame m as' maxL)) : Does l y bytes maxL ret ws rm Z as' h Q := by
  refine MetFree.of_bodySF hp hisR ?_
  intro p e s m args below meth c s₁ Bd hml0 hP hK
  obtain ⟨rfl, hZ, hh⟩ := hP
  have e0 : s₁.heap = h := by rw [← hh, Bd.state]; rfl
  obtain ⟨t, h1, o, h2⟩ := body p e s m below meth c s₁ Bd.exec Bd.bytes hml0 Bd.returns Bd.notSynchronized hZ (findClass_of_methodNamed Bd.named) ((name_of_methodNamed Bd.named Bd.method).1) (Stand.of_body Bd) e0
  exact ⟨t, o, h1, h2⟩
theorem fin_of {rm : Room} {Q : Option Value → Heap → List Loc → Prop} {v : Option Value} (X : Stand p l e R s m args below meth c T locs cells slots) (hlk : meth.locks = false) (hv : meth.sig.returnType = none → v = none) (hQ : Q v T.heap locs) (hc : cells ≤ rm.cells) (hs : slots ≤ rm.slots)
    (st : ∀ fs, (∀ (f : JFrame) (acts : List Action), f.method = m → f.locked = none → f.entered = [] → (doReturn e (T.setTop f) acts v).1 = T.setFrames fs) → Steps p.tables e below (T.setTop g) (T.setFrames fs)) : Goes p e below (Fin1 below s rm Q) T g := by
  obtain ⟨fs, hr, hrun, hended, hW, hsame⟩ := X.leave (v := v) hv hlk
  exact ⟨_, st fs hr, _, hrun, hended, _, _, rfl, hQ, ⟨_, rfl⟩, hW, hsame.mono hc hs⟩
theorem outV {rm : Room} {Q : Option Value → Heap → List Loc → Prop} {pc : Nat} {Ls : Array Slot} (X : Stand p l e R s m args below meth c T locs cells slots) (hx : p.tables.exec = Jvm.exec) (hlk : meth.locks = false) (hret : meth.sig.returnType = none) (hd : decode c.code pc = .ok (.return_, 1)) (hQ : Q none T.heap locs) (hc : cells ≤ rm.cells) (hs : slots ≤ rm.slots) : Goes p e below (Fin1 below s rm Q) T (mkF m pc Ls []) :=
  fin_of X hlk (fun _ => rfl) hQ hc hs fun fs hr => X.returnOut hx hret hd hr
theorem outZ {rm : Room} {Q : Option Value → Heap → List Loc → Prop} {pc : Nat} {Ls : Array Slot} {z : Int32} {rest : List Value} (X : Stand p l e R s m args below meth c T locs cells slots) (hx : p.tables.exec = Jvm.exec) (hlk : meth.locks = false) (hret : meth.sig.returnType = some .boolean) (hd : decode c.code pc = .ok (.ireturn, 1)) (hQ : Q (some (.int (nar .boolean z))) T.heap locs) (hc : cells ≤ rm.cells) (hs : slots ≤ rm.slots) : Goes p e below (Fin1 below s rm Q) T (mkF m pc Ls (.int z :: rest)) :=
  fin_of X hlk (fun h => by rw [hret] at h; cases h) hQ hc hs fun fs hr => retN X hx (t := .boolean) hret (by simp) hd hr
theorem outO {rm : Room} {Q : Option Value → Heap → List Loc → Prop} {pc : Nat} {Ls : Array Slot} {w : Value} {t : FieldType} {i : Instr} {rest : List Value} (X : Stand p l e R s m args below meth c T locs cells slots) (hx : p.tables.exec = Jvm.exec) (hlk : meth.locks = false) (hret : meth.sig.returnType = some t) (hn : narrow t w = w)
    (hi : (i = .ireturn ∧ (t = .int ∨ t = .boolean ∨ t = .byte ∨ t = .char ∨ t = .short) ∧ ∃ z, w = .int z) ∨ (i = .lreturn ∧ t = .long ∧ ∃ z, w = .long z) ∨ (i = .dreturn ∧ t = .double ∧ ∃ z, w = .double z) ∨ (i = .freturn ∧ t = .float ∧ ∃ z, w = .float z) ∨ (i = .areturn ∧ t.isReference = true ∧ w.isRef = true))
    (hd : decode c.code pc = .ok (i, 1)) (hQ : Q (some w) T.heap locs) (hc : cells ≤ rm.cells) (hs : slots ≤ rm.slots) : Goes p e below (Fin1 below s rm Q) T (mkF m pc Ls (w :: rest)) :=
  fin_of X hlk (fun h => by rw [hret] at h; cases h) hQ hc hs fun fs hr => retOut X hx hret hn hi hd hr
theorem outI {rm : Room} {Q : Option Value → Heap → List Loc → Prop} {pc : Nat} {Ls : Array Slot} {z : Int32} {rest : List Value} (X : Stand p l e R s m args below meth c T locs cells slots) (hx : p.tables.exec = Jvm.exec) (hlk : meth.locks = false) (hret : meth.sig.returnType = some .int) (hd : decode c.code pc = .ok (.ireturn, 1)) (hQ : Q (some (.int z)) T.heap locs) (hc : cells ≤ rm.cells) (hs : slots ≤ rm.slots) : Goes p e below (Fin1 below s rm Q) T (mkF m pc Ls (.int z :: rest)) :=
  outO X hx hlk hret rfl (Or.inl ⟨rfl, Or.inl rfl, _, rfl⟩) hd hQ hc hs
theorem outJ {rm : Room} {Q : Option Value → Heap → List Loc → Prop} {pc : Nat} {Ls : Array Slot} {z : Int64} {rest : List Value} (X : Stand p l e R s m args below meth c T locs cells slots) (hx : p.tables.exec = Jvm.exec) (hlk : meth.locks = false) (hret : meth.sig.returnType = some .long) (hd : decode c.code pc = .ok (.lreturn, 1)) (hQ : Q (some (.long z)) T.heap locs) (hc : cells ≤ rm.cells) (hs : slots ≤ rm.slots) : Goes p e below (Fin1 below s rm Q) T (mkF m pc Ls (.long z :: rest)) :=
  outO X hx hlk hret rfl (Or.inr (Or.inl ⟨rfl, rfl, _, rfl⟩)) hd hQ hc hs
theorem outD {rm : Room} {Q : Option Value → Heap → List Loc → Prop} {pc : Nat} {Ls : Array Slot} {z : UInt64} {rest : List Value} (X : Stand p l e R s m args below meth c T locs cells slots) (hx : p.tables.exec = Jvm.exec) (hlk : meth.locks = false) (hret : meth.sig.returnType = some .double) (hd : decode c.code pc = .ok (.dreturn, 1)) (hQ : Q (some (.double z)) T.heap locs) (hc : cells ≤ rm.cells) (hs : slots ≤ rm.slots) : Goes p e below (Fin1 below s rm Q) T (mkF m pc Ls (.double z :: rest)) :=
  outO X hx hlk hret rfl (Or.inr (Or.inr (Or.inl ⟨rfl, rfl, _, rfl⟩))) hd hQ hc hs
theorem outA {rm : Room} {Q : Option Value → Heap → List Loc → Prop} {pc : Nat} {Ls : Array Slot} {w : Value} {t : FieldType} {rest : List Value} (X : Stand p l e R s m args below meth c T locs cells slots) (hx : p.tables.exec = Jvm.exec) (hlk : meth.locks = false) (hret : meth.sig.returnType = some t) (ht : t.isReference = true) (hw : w.isRef = true) (hn : narrow t w = w) (hd : decode c.code pc = .ok (.areturn, 1)) (hQ : Q (some w) T.heap locs) (hc : cells ≤ rm.cells) (hs : slots ≤ rm.slots) : Goes p e below (Fin1 below s rm Q) T (mkF m pc Ls (w :: rest)) :=
  outO X hx hlk hret hn (Or.inr (Or.inr (Or.inr (Or.inr ⟨rfl, ht, hw⟩)))) hd hQ hc hs
/-! calls by a contract -/
theorem callI (X : Stand p l e R s m args below meth c T locs cells slots) (hx : p.tables.exec = Jvm.exec) (hZ : Z.Warmed39 s.vm) {own : String} {index : Nat} {y : MethodName} (hy1 : y.name = "<init>") (hown : s.vm.findClass own = some m.cls) {bytes : ByteArray} {maxL : Nat} {rm : Room}
    (w1 : (Cond.methodLink own index y).before a0 Z = true) (w2 : (Cond.instanceMethod y).before a0 Z = true) (w3 : (Cond.code y bytes maxL none).before a0 Z = true) (w4 : (Cond.initialized y.cls).before a0 Z = true) (hy : y.cls ≠ "java/lang/invoke/MethodHandle" ∧ y.cls ≠ "java/lang/invoke/VarHandle")
    (eT : T.heap = h) {a : Addr} {argsL rest : List Value} {as' : Array Value} {Q : Option Value → Heap → List Loc → Prop} {W : Nat} (hM : Does l y bytes maxL none [] rm Z as' h Q) (has : (.ref a :: argsL).toArray = as') (hf : rm.frames + 1 ≤ R.frames) (hl : W + (maxL + 11) + rm.locals ≤ R.locals)
    (hcc : cells + rm.cells ≤ R.cells) (hss : slots + rm.slots ≤ R.slots) {g : JFrame} (hg : g.method = m) (hsize : g.locals.size = c.maxLocals) (hlen : ∀ sig, parseMethodDescriptor y.desc = some sig → argsL.length = sig.parameters.length) (hst : g.stack = argsL.reverse ++ .ref a :: rest) (hW : 2 * g.monitorRoom + (rest.map fun v => v.category).sum ≤ W) (hd : decode c.code g.pc = .ok (.invokespecial index, 3)) :
    ∃ v T' L, Stand p l e R s m args below meth c T' (locs ++ L) (cells + rm.cells) (slots + rm.slots) ∧ Q v T'.heap L ∧ ∀ target, Steps p.tables e below (T'.setTop { g with pc := g.pc + 3, stack := v.toList ++ rest }) target → Steps p.tables e below (T.setTop g) target := by
  obtain ⟨v, vm1, ⟨T', L', k', n'⟩, -, X', ⟨L, hQ, e1, e2, e3⟩, st⟩ := X.specialBack hx (y := y) hy1 hown (mvT hZ w1) (mvT hZ w2) (mvT hZ w3) hy (backOf (W := W) hM hZ w3 w4 hf hl) hg hsize (Steps.refl _) hlen hst hW hd (fun _ _ => ⟨has, eT, hcc, hss⟩)
  dsimp only [Pt.U, Pt.locs, Pt.cells, Pt.slots] at X' e1 e2 e3 st hQ
  subst e1 e2 e3
  exact ⟨v, T', L, X', hQ, fun t k => st.trans k⟩
theorem callV (X : Stand p l e R s m args below meth c T locs cells slots) (hx : p.tables.exec = Jvm.exec) (hZ : Z.Warmed39 s.vm) {own C : String} {index : Nat} {y : MethodName} (hown : s.vm.findClass own = some m.cls) {bytes : ByteArray} {maxL : Nat} {ret : Option FieldType} {rm : Room}
    (w1 : (Cond.methodLink own index y).before a0 Z = true) (w2 : (Cond.declares y).before a0 Z = true) (w3 : (Cond.selects C y y).before a0 Z = true) (w4 : (Cond.instanceMethod y).before a0 Z = true) (w5 : (Cond.code y bytes maxL ret).before a0 Z = true) (w6 : (Cond.initialized y.cls).before a0 Z = true) (hy : y.cls ≠ "java/lang/invoke/MethodHandle" ∧ y.cls ≠ "java/lang/invoke/VarHandle")
    (eT : T.heap = h) {a : Addr} (E : Exa Z h a C) {argsL rest : List Value} {as' : Array Value} {Q : Option Value → Heap → List Loc → Prop} {W : Nat} (hM : Does l y bytes maxL ret [] rm Z as' h Q) (has : (.ref a :: argsL).toArray = as') (hf : rm.frames + 1 ≤ R.frames) (hl : W + (maxL + 11) + rm.locals ≤ R.locals)
    (hcc : cells + rm.cells ≤ R.cells) (hss : slots + rm.slots ≤ R.slots) {g : JFrame} (hg : g.method = m) (hsize : g.locals.size = c.maxLocals) (hlen : ∀ sig, parseMethodDescriptor y.desc = some sig → argsL.length = sig.parameters.length) (hst : g.stack = argsL.reverse ++ .ref a :: rest) (hW : 2 * g.monitorRoom + (rest.map fun v => v.category).sum ≤ W) (hd : decode c.code g.pc = .ok (.invokevirtual index, 3)) :
    ∃ v T' L, Stand p l e R s m args below meth c T' (locs ++ L) (cells + rm.cells) (slots + rm.slots) ∧ Q v T'.heap L ∧ ∀ target, Steps p.tables e below (T'.setTop { g with pc := g.pc + 3, stack := v.toList ++ rest }) target → Steps p.tables e below (T.setTop g) target := by
  obtain ⟨cB, kB, q1, q2, q3⟩ := isOf hZ eT E
  obtain ⟨v, vm1, ⟨T', L', k', n'⟩, -, X', ⟨L, hQ, e1, e2, e3⟩, st⟩ := X.virtualBack hx (y := y) (z := y) hown (mvT hZ w1) (mvT hZ w2) (notFace_of_selects (args := args) (mvT hZ w3)) (mvT hZ w3) (mvT hZ w4) hy (backOf (W := W) hM hZ w5 w6 hf hl) q1 q3 hg hsize (Steps.refl _) hlen hst hW hd (fun _ _ => ⟨has, eT, hcc, hss⟩)
  dsimp only [Pt.U, Pt.locs, Pt.cells, Pt.slots] at X' e1 e2 e3 st hQ
  subst e1 e2 e3
  exact ⟨v, T', L, X', hQ, fun t k => st.trans k⟩
theorem callC (X : Stand p l e R s m args below meth c T locs cells slots) (hx : p.tables.exec = Jvm.exec) (hZ : Z.Warmed39 s.vm) {own : String} {index : Nat} {y : MethodName} (hown : s.vm.findClass own = some m.cls) {bytes : ByteArray} {maxL : Nat} {ret : Option FieldType} {rm : Room}
    (w1 : (Cond.methodLink own index y).before a0 Z = true) (w2 : (Cond.static y).before a0 Z = true) (w3 : (Cond.code y bytes maxL ret).before a0 Z = true) (w4 : (Cond.initialized y.cls).before a0 Z = true) (hy : y.cls ≠ "java/lang/invoke/MethodHandle" ∧ y.cls ≠ "java/lang/invoke/VarHandle")
    (eT : T.heap = h) {argsL rest : List Value} {as' : Array Value} {Q : Option Value → Heap → List Loc → Prop} {W : Nat} (hM : Does l y bytes maxL ret [] rm Z as' h Q) (has : argsL.toArray = as') (hf : rm.frames + 1 ≤ R.frames) (hl : W + (maxL + 11) + rm.locals ≤ R.locals)
    (hcc : cells + rm.cells ≤ R.cells) (hss : slots + rm.slots ≤ R.slots) {g : JFrame} (hg : g.method = m) (hsize : g.locals.size = c.maxLocals) (hlen : ∀ sig, parseMethodDescriptor y.desc = some sig → argsL.length = sig.parameters.length) (hst : g.stack = argsL.reverse ++ rest) (hW : 2 * g.monitorRoom + (rest.map fun v => v.category).sum ≤ W) (hd : decode c.code g.pc = .ok (.invokestatic index, 3)) :
    ∃ v T' L, Stand p l e R s m args below meth c T' (locs ++ L) (cells + rm.cells) (slots + rm.slots) ∧ Q v T'.heap L ∧ ∀ target, Steps p.tables e below (T'.setTop { g with pc := g.pc + 3, stack := v.toList ++ rest }) target → Steps p.tables e below (T.setTop g) target := by
  obtain ⟨v, vm1, ⟨T', L', k', n'⟩, -, X', ⟨L, hQ, e1, e2, e3⟩, st⟩ := Jvm.LawKit.callS X hx (y := y) hown (mvT hZ w1) (mvT hZ w2) (mvT hZ w4) (mvT hZ w3) hy (backOf (W := W) hM hZ w3 w4 hf hl) hg hsize hlen hst hW hd (fun _ _ => ⟨has, eT, hcc, hss⟩)
  dsimp only [Pt.U, Pt.locs, Pt.cells, Pt.slots] at X' e1 e2 e3 st hQ
  subst e1 e2 e3
  exact ⟨v, T', L, X', hQ, st⟩
end Own
end Jvm.RoadKit
namespace Jvm.Free.XS
open Sem ClassFile Op Lib
theorem lcmpS {tb : Tables} [Ours tb] {e : Env} {below : List Frame} {T target : State} {m : MethodId} {c : Code} {g : JFrame} (h : At T m c below) (hx : tb.exec = Jvm.exec) (hg : g.method = m) {x y : Int64} {v : Int32} {rest : List Value} (hd : decode c.code g.pc = .ok (.lcmp, 1)) (hs : g.stack = .long y :: .long x :: rest) (hv : Jvm.RoadKit.lcmpW x y = v)
    (hr : Steps tb e below (T.setTop { g with pc := g.pc + 1, stack := .int v :: rest }) target) : Steps tb e below (T.setTop g) target := by
  subst hv
  exact lcmp h hx hg hd hs hr
end Jvm.Free.XS
namespace Jvm.RoadKit
open Sem ClassFile Op Lib Jvm.Stand Jvm.Free Jvm.LawKit Jvm.FP Jvm.Free.Fl
section OwnD
theorem own_cmp (i j : Int) : compare i j = if i < j then Ordering.lt else if i = j then Ordering.eq else Ordering.gt := rfl
theorem cmpL_lt {x y : Int64} (h : x < y) : lcmpW x y = -1 := by
  have h' := Int64.lt_iff_toInt_lt.mp h
  show (if y < x then (1 : Int32) else if x = y then 0 else -1) = -1
  rw [if_neg (fun q => by have := Int64.lt_iff_toInt_lt.mp q; omega), if_neg (fun q => by rw [q] at h'; omega)]
theorem cmpL_eq {x y : Int64} (h : x = y) : lcmpW x y = 0 := by
  subst h
  show (if x < x then (1 : Int32) else if x = x then 0 else -1) = 0
  rw [if_neg (fun q => by have := Int64.lt_iff_toInt_lt.mp q; omega), if_pos rfl]
theorem cmpL_gt {x y : Int64} (h : y < x) : lcmpW x y = 1 := by
  show (if y < x then (1 : Int32) else if x = y then 0 else -1) = 1
  rw [if_pos h]
theorem DInt_nn {i : Int} {x : UInt64} (h : Core.DInt i x) : NoNaN64 x := val64_no.mpr (Core.DInt_ne_nan h)
theorem DInt_fin {i : Int} {x : UInt64} (h : Core.DInt i x) : Fin64 x := fin64_core.mpr (by
  have h' : Core.Whole i (Core.val64 x) := h
  cases q : Core.val64 x with
  | nan => rw [q] at h'; exact h'.elim
  | inf s => rw [q] at h'; exact h'.elim
  | fin s c e => exact ⟨s, c, e, q⟩)
theorem cmpD_lt {i j : Int} {x y : UInt64} (hx : Core.DInt i x) (hy : Core.DInt j y) (h : i < j) (o : CmpOp) : cmpValue (FP.dcmp x y) o = -1 := by
  rw [show FP.dcmp x y = _ from Core.dcmp_int hx hy, own_cmp, if_pos h]; rfl
theorem cmpD_eq {i j : Int} {x y : UInt64} (hx : Core.DInt i x) (hy : Core.DInt j y) (h : i = j) (o : CmpOp) : cmpValue (FP.dcmp x y) o = 0 := by
  rw [show FP.dcmp x y = _ from Core.dcmp_int hx hy, own_cmp, if_neg (by omega), if_pos h]; rfl
theorem cmpD_gt {i j : Int} {x y : UInt64} (hx : Core.DInt i x) (hy : Core.DInt j y) (h : j < i) (o : CmpOp) : cmpValue (FP.dcmp x y) o = 1 := by
  rw [show FP.dcmp x y = _ from Core.dcmp_int hx hy, own_cmp, if_neg (by omega), if_neg (by omega)]; rfl
theorem DInt_zero : Core.DInt 0 0 := by
  have h := Core.l2d_int (a := 0) (by decide)
  rw [show Core.l2d 0 = 0 from l2d_zero] at h
  exact h
theorem DInt_i2d {x : Int32} {d : UInt64} (q : FP.i2d x = d) : Core.DInt x.toInt d := q ▸ Core.i2d_int x
theorem DInt_l2d {x : Int64} {d : UInt64} (q : FP.l2d x = d) (h : x.toInt.natAbs ≤ 2 ^ 53) : Core.DInt x.toInt d := q ▸ Core.l2d_int h
theorem DInt_add {i j : Int} {a b d : UInt64} (q : FP.dadd a b = d) (ha : Core.DInt i a) (hb : Core.DInt j b) (h : (i + j).natAbs ≤ 2 ^ 53) : Core.DInt (i + j) d := q ▸ Core.dadd_int ha hb h
theorem DInt_sub {i j : Int} {a b d : UInt64} (q : FP.dsub a b = d) (ha : Core.DInt i a) (hb : Core.DInt j b) (h : (i - j).natAbs ≤ 2 ^ 53) : Core.DInt (i - j) d := q ▸ Core.dsub_int ha hb h
theorem DInt_mul {i j : Int} {a b d : UInt64} (q : FP.dmul a b = d) (ha : Core.DInt i a) (hb : Core.DInt j b) (h : (i * j).natAbs ≤ 2 ^ 53) : Core.DInt (i * j) d := q ▸ Core.dmul_int ha hb h
end OwnD
/-! an array by the list of its values -/
def Sar (Z : State) (h : Heap) (a : Addr) (ty : FieldType) (vs : List Value) : Prop := ∃ c : Cell, Arr Z h a c ty ∧ c.slots = vs.toArray
section OwnA
variable {p : Program} {l : Launch} {e : Env} {R : Room} {s : State} {m : MethodId} {args : Array Value} {below : List Frame} {meth : Method} {c : Code} {T : State} {locs : List Loc} {cells slots : Nat} {Z : State} {a0 : Array Value} {h h' : Heap} {a b : Addr} {ty : FieldType} {vs : List Value} {sl : Nat} {v : Value} {ws : List Addr}
theorem Sar.lt (F : Sar Z h a ty vs) : a < h.size := by obtain ⟨c, A, -⟩ := F; exact A.lt
theorem Sar.ext (F : Sar Z h a ty vs) (E : Ext h h') : Sar Z h' a ty vs := by obtain ⟨c, A, r⟩ := F; exact ⟨c, A.ext E, r⟩
theorem Sar.other (F : Sar Z h b ty vs) (W : Wr h h' a sl v) (q : b ≠ a) : Sar Z h' b ty vs := by obtain ⟨c, A, r⟩ := F; exact ⟨c, A.other W q, r⟩
theorem Sar.keep (F : Sar Z h a ty vs) (K : Keep h h' ws) (q : a ∉ ws) : Sar Z h' a ty vs := by obtain ⟨c, A, r⟩ := F; exact ⟨c, ⟨K.2.1 a c A.1 q, A.2⟩, r⟩
theorem Sar.new {k : ClassId} {z : Int32} {n : Nat} (A : Arr Z h a (newA k ty z) ty) (hn : z.toNatClampNeg = n) : Sar Z h a ty (List.replicate n (defaultValue ty)) := ⟨_, A, by subst hn; show Array.replicate _ _ = _; simp⟩
theorem Sar.in {cl : Cell} {j : Int32} {i : Nat} (S : cl.slots = vs.toArray) (hj : j.toInt = i) (hi : i < vs.length) : ¬ (j < 0 ∨ cl.slots.size ≤ j.toNatClampNeg) := by
  rw [S]
  have q : j.toNatClampNeg = i := by show j.toInt.toNat = i; omega
  have r : ¬ j < 0 := fun z => by have z' := Int32.lt_iff_toInt_lt.mp z; rw [hj] at z'; simp at z'; omega
  rw [q]
  simp only [List.size_toArray]
  intro z
  rcases z with z | z
  · exact r z
  · omega
theorem Sar.nat {j : Int32} {i : Nat} (hj : j.toInt = i) : j.toNatClampNeg = i := by show j.toInt.toNat = i; omega
theorem stDS (X : Stand p l e R s m args below meth c T locs cells slots) (hx : p.tables.exec = Jvm.exec) (hZ : Z.Warmed39 s.vm) (eT : T.heap = h) (V : Sar Z h a .double vs) {j : Int32} {x : UInt64} (i : Nat) (hj : j.toInt = i) (hi : i < vs.length) {g : JFrame} (hg : g.method = m) {rest : List Value} (hs : g.stack = .double x :: .int j :: .ref a :: rest) (hd : decode c.code g.pc = .ok (.dastore, 1)) :
    ∃ T' h', Stand p l e R s m args below meth c T' (locs ++ [⟨a, i⟩]) cells slots ∧ T'.heap = h' ∧ Wr h h' a i (.double x) ∧ Sar Z h' a .double (vs.set i (.double x)) ∧ ∀ target, Steps p.tables e below (T'.setTop { g with pc := g.pc + 1, stack := rest }) target → Steps p.tables e below (T.setTop g) target := by
  obtain ⟨cl, A, S⟩ := V
  obtain ⟨T', h', X', e', W, st⟩ := stD X hx hZ eT A (Sar.in S hj hi) hg hs hd
  rw [Sar.nat hj] at X' W
  exact ⟨T', h', X', e', W, ⟨_, A.same W, by show cl.slots.setIfInBounds _ _ = _; rw [S]; simp⟩, st⟩
theorem stIS (X : Stand p l e R s m args below meth c T locs cells slots) (hx : p.tables.exec = Jvm.exec) (hZ : Z.Warmed39 s.vm) (eT : T.heap = h) (V : Sar Z h a .int vs) {j : Int32} {x : Int32} (i : Nat) (hj : j.toInt = i) (hi : i < vs.length) {g : JFrame} (hg : g.method = m) {rest : List Value} (hs : g.stack = .int x :: .int j :: .ref a :: rest) (hd : decode c.code g.pc = .ok (.iastore, 1)) :
    ∃ T' h', Stand p l e R s m args below meth c T' (locs ++ [⟨a, i⟩]) cells slots ∧ T'.heap = h' ∧ Wr h h' a i (.int x) ∧ Sar Z h' a .int (vs.set i (.int x)) ∧ ∀ target, Steps p.tables e below (T'.setTop { g with pc := g.pc + 1, stack := rest }) target → Steps p.tables e below (T.setTop g) target := by
  obtain ⟨cl, A, S⟩ := V
  obtain ⟨T', h', X', e', W, st⟩ := stI X hx hZ eT A (Sar.in S hj hi) hg hs hd
  rw [Sar.nat hj] at X' W
  exact ⟨T', h', X', e', W, ⟨_, A.same W, by show cl.slots.setIfInBounds _ _ = _; rw [S]; simp⟩, st⟩
theorem ldDS (X : Stand p l e R s m args below meth c T locs cells slots) (hx : p.tables.exec = Jvm.exec) (hZ : Z.Warmed39 s.vm) (eT : T.heap = h) (V : Sar Z h a .double vs) {j : Int32} (i : Nat) (hj : j.toInt = i) (hv : vs[i]? = some v) {g : JFrame} (hg : g.method = m) {rest : List Value} (hs : g.stack = .int j :: .ref a :: rest) (hd : decode c.code g.pc = .ok (.daload, 1)) :
    ∀ target, Steps p.tables e below (T.setTop { g with pc := g.pc + 1, stack := v :: rest }) target → Steps p.tables e below (T.setTop g) target := by
  obtain ⟨cl, A, S⟩ := V
  have hi : i < vs.length := (List.getElem?_eq_some_iff.mp hv).1
  exact X.daload hx (by rw [eT]; exact A.1) (State.isArrayOf_alike hZ.alike A.2.1) A.2.2 (Sar.in S hj hi) (by rw [S, Sar.nat hj]; simpa using hv) hg hs hd
theorem ldIS (X : Stand p l e R s m args below meth c T locs cells slots) (hx : p.tables.exec = Jvm.exec) (hZ : Z.Warmed39 s.vm) (eT : T.heap = h) (V : Sar Z h a .int vs) {j : Int32} (i : Nat) (hj : j.toInt = i) (hv : vs[i]? = some v) {g : JFrame} (hg : g.method = m) {rest : List Value} (hs : g.stack = .int j :: .ref a :: rest) (hd : decode c.code g.pc = .ok (.iaload, 1)) :
    ∀ target, Steps p.tables e below (T.setTop { g with pc := g.pc + 1, stack := v :: rest }) target → Steps p.tables e below (T.setTop g) target := by
  obtain ⟨cl, A, S⟩ := V
  have hi : i < vs.length := (List.getElem?_eq_some_iff.mp hv).1
  exact X.iaload hx (by rw [eT]; exact A.1) (State.isArrayOf_alike hZ.alike A.2.1) A.2.2 (Sar.in S hj hi) (by rw [S, Sar.nat hj]; simpa using hv) hg hs hd
theorem lenS (X : Stand p l e R s m args below meth c T locs cells slots) (hx : p.tables.exec = Jvm.exec) (hZ : Z.Warmed39 s.vm) (eT : T.heap = h) (V : Sar Z h a ty vs) {n : Int32} (hn : vs.length.toInt32 = n) {g : JFrame} (hg : g.method = m) {rest : List Value} (hs : g.stack = .ref a :: rest) (hd : decode c.code g.pc = .ok (.arraylength, 1)) :
    ∀ target, Steps p.tables e below (T.setTop { g with pc := g.pc + 1, stack := .int n :: rest }) target → Steps p.tables e below (T.setTop g) target := by
  obtain ⟨cl, A, S⟩ := V
  intro target k
  refine X.arraylength hx (by rw [eT]; exact A.1) (State.isArrayOf_alike hZ.alike A.2.1) hg hs hd target ?_
  rw [S]
  simp only [List.size_toArray, hn]
  exact k
end OwnA
end Jvm.RoadKit
namespace Jvm.RoadKit
open Jvm.FP Jvm.Free.Fl
theorem DInt_nz {i : Int} {x : UInt64} (h : Core.DInt i x) (hi : i ≠ 0) : Nz64 x := nz64_core.mpr fun z => by
  obtain ⟨s, q, e⟩ := z
  have h' : Core.Whole i (Core.val64 x) := h
  rw [e] at h'
  exact hi ((Core.whole_zero h').mp rfl)
theorem DInt_one : Core.DInt 1 4607182418800017408 := Core.dint_one
end Jvm.RoadKit
namespace Jvm.RoadKit
open Jvm.FP Jvm.Free.Fl Op
theorem cmpD_le {i j : Int} {x y : UInt64} (hx : Core.DInt i x) (hy : Core.DInt j y) (h : i ≤ j) (o : ClassFile.CmpOp) : ∃ v : Int32, cmpValue (FP.dcmp x y) o = v ∧ ¬ (0 : Int32) < v := by
  by_cases q : i < j
  · exact ⟨-1, cmpD_lt hx hy q o, by decide⟩
  · exact ⟨0, cmpD_eq hx hy (by omega) o, by decide⟩
theorem cmpD_ge {i j : Int} {x y : UInt64} (hx : Core.DInt i x) (hy : Core.DInt j y) (h : j ≤ i) (o : ClassFile.CmpOp) : ∃ v : Int32, cmpValue (FP.dcmp x y) o = v ∧ ¬ v < (0 : Int32) := by
  by_cases q : j < i
  · exact ⟨1, cmpD_gt hx hy q o, by decide⟩
  · exact ⟨0, cmpD_eq hx hy (by omega) o, by decide⟩
end Jvm.RoadKit
namespace Jvm.RoadKit
open Jvm.Free
theorem cmpL_le {x y : Int64} (h : ¬ y.toInt < x.toInt) : ∃ v : Int32, lcmpW x y = v ∧ ¬ (0 : Int32) < v := by
  by_cases q : x.toInt < y.toInt
  · exact ⟨-1, cmpL_lt (Int64.lt_iff_toInt_lt.mpr q), by decide⟩
  · exact ⟨0, cmpL_eq (Int64.toInt_inj.mp (by omega)), by decide⟩
theorem cmpL_gtI {x y : Int64} (h : y.toInt < x.toInt) : lcmpW x y = 1 := cmpL_gt (Int64.lt_iff_toInt_lt.mpr h)
end Jvm.RoadKit
namespace Jvm.RoadKit
open Jvm.Free
theorem cmpL_ge {x y : Int64} (h : ¬ x.toInt < y.toInt) : ∃ v : Int32, lcmpW x y = v ∧ ¬ v < (0 : Int32) := by
  by_cases q : y.toInt < x.toInt
  · exact ⟨1, cmpL_gtI q, by decide⟩
  · exact ⟨0, cmpL_eq (Int64.toInt_inj.mp (by omega)), by decide⟩
end Jvm.RoadKit
namespace Jvm.RoadKit
section OwnN
theorem own_mb {i j : Int} {A B : Nat} (hi : i.natAbs ≤ A) (hj : j.natAbs ≤ B) : (i * j).natAbs ≤ A * B := by rw [Int.natAbs_mul]; exact Nat.mul_le_mul hi hj
theorem own_mb2 {i j : Int} {A B : Nat} (hi : -(A : Int) ≤ i ∧ i ≤ A) (hj : -(B : Int) ≤ j ∧ j ≤ B) : -((A * B : Nat) : Int) ≤ i * j ∧ i * j ≤ ((A * B : Nat) : Int) := by
  have h := own_mb (i := i) (j := j) (A := A) (B := B) (by omega) (by omega)
  omega
theorem own_ladd {a b : Int64} (h1 : -9223372036854775808 ≤ a.toInt + b.toInt) (h2 : a.toInt + b.toInt < 9223372036854775808) : (a + b).toInt = a.toInt + b.toInt := by
  have := c_ladd a b; have := rng64 (a + b); omega
theorem own_lsub {a b : Int64} (h1 : -9223372036854775808 ≤ a.toInt - b.toInt) (h2 : a.toInt - b.toInt < 9223372036854775808) : (a - b).toInt = a.toInt - b.toInt := by
  have := c_lsub a b; have := rng64 (a - b); omega
theorem own_lmul {a b : Int64} (h : (a.toInt * b.toInt).natAbs < 9223372036854775808) : (a * b).toInt = a.toInt * b.toInt := by
  have := c_lmul a b; have := rng64 (a * b); omega
theorem own_short (x : Int32) : (x.toInt16.toInt32).toInt.natAbs ≤ 32768 := by
  have := c_i2s x; omega
theorem own_and3 (x : Int32) : (x &&& 3) = 0 ∨ (x &&& 3) = 1 ∨ (x &&& 3) = 2 ∨ (x &&& 3) = 3 := by
  have h := c_and x 3 (by decide)
  have e : (3 : Int32).toInt = 3 := by decide
  simp only [← Int32.toInt_inj]
  rw [show (0 : Int32).toInt = 0 from by decide, show (1 : Int32).toInt = 1 from by decide, show (2 : Int32).toInt = 2 from by decide, e]
  omega
end OwnN
end Jvm.RoadKit
namespace Jvm.Pilot.@@N@@
open Jvm Jvm.ClassFile Sem Op Lib Jvm.Free Jvm.Stand Jvm.LawKit Jvm.RoadKit Jvm.FP Jvm.Free.Fl Bundle Jvm.Pilot.@@N@@.Jvm.D
theorem own_n (x : Int32) : ((1 : Int32) + (x &&& 3)) = 1 ∨ ((1 : Int32) + (x &&& 3)) = 2 ∨ ((1 : Int32) + (x &&& 3)) = 3 ∨ ((1 : Int32) + (x &&& 3)) = 4 := by
  rcases own_and3 x with h | h | h | h <;> rw [h] <;> decide
theorem d1_0 : decode prog_47_method_1_code 0 = .ok (.aload_n 0, 1) := by decide +kernel
theorem d1_1 : decode prog_47_method_1_code 1 = .ok (.invokespecial 1, 3) := by decide +kernel
theorem d1_4 : decode prog_47_method_1_code 4 = .ok (.aload_n 0, 1) := by decide +kernel
theorem d1_5 : decode prog_47_method_1_code 5 = .ok (.iload_n 1, 1) := by decide +kernel
theorem d1_6 : decode prog_47_method_1_code 6 = .ok (.newarray .double, 2) := by decide +kernel
theorem d1_8 : decode prog_47_method_1_code 8 = .ok (.putfield 7, 3) := by decide +kernel
theorem d1_11 : decode prog_47_method_1_code 11 = .ok (.aload_n 0, 1) := by decide +kernel
theorem d1_12 : decode prog_47_method_1_code 12 = .ok (.iload_n 1, 1) := by decide +kernel
theorem d1_13 : decode prog_47_method_1_code 13 = .ok (.newarray .double, 2) := by decide +kernel
theorem d1_15 : decode prog_47_method_1_code 15 = .ok (.putfield 13, 3) := by decide +kernel
theorem d1_18 : decode prog_47_method_1_code 18 = .ok (.aload_n 0, 1) := by decide +kernel
theorem d1_19 : decode prog_47_method_1_code 19 = .ok (.iload_n 1, 1) := by decide +kernel
theorem d1_20 : decode prog_47_method_1_code 20 = .ok (.newarray .double, 2) := by decide +kernel
theorem d1_22 : decode prog_47_method_1_code 22 = .ok (.putfield 16, 3) := by decide +kernel
theorem d1_25 : decode prog_47_method_1_code 25 = .ok (.return_, 1) := by decide +kernel
theorem pn0 : plainName "com/example/brinewright/brinewright/ResidualHelmholtz" = true := by first | (simp [plainName, overriddenIn]; done) | decide +kernel
theorem pd0 : parseMethodDescriptor "(I)V" = some ⟨[.int], none⟩ := by decide +kernel
theorem ef_rm_init4 (m : MethodId) (x0 : Addr) (x1 : Int32) : entryFrame m #[(.ref x0), (.int x1)] 2 = mkF m 0 #[.val (.ref x0), .val (.int x1)] [] := by first | (simp [entryFrame, mkF, argsToLocals, Value.category, maxLocals]; done) | rfl
set_option maxRecDepth 65536 in
set_option maxHeartbeats 40000000 in
theorem rm_init4 (l : Launch) (Z : State) (a0 : Array Value) (hw : ∀ d ∈ tables_1, d.before a0 Z = true) (a : Addr) (h0 : Heap) (n0 : Nat) (Z0 : n0 ≤ h0.size) (EA : Exa Z h0 a "com/example/brinewright/brinewright/ResidualHelmholtz") (F_dN_a : Fld Z h0 a "com/example/brinewright/brinewright/ResidualHelmholtz" "dN" "[D" .null) (F_dNdV_a : Fld Z h0 a "com/example/brinewright/brinewright/ResidualHelmholtz" "dNdV" "[D" .null) (F_dNAtFreeVolume_a : Fld Z h0 a "com/example/brinewright/brinewright/ResidualHelmholtz" "dNAtFreeVolume" "[D" .null) (F_value_a : Fld Z h0 a "com/example/brinewright/brinewright/ResidualHelmholtz" "value" "D" (.double (0 : UInt64))) (F_dV_a : Fld Z h0 a "com/example/brinewright/brinewright/ResidualHelmholtz" "dV" "D" (.double (0 : UInt64))) (ga : n0 ≤ a) :
    Does l (⟨"com/example/brinewright/brinewright/ResidualHelmholtz", "<init>", "(I)V"⟩ : MethodName) prog_47_method_1_code 2 none [] ({ frames := 1, cells := 3, slots := 12, locals := 12 } : Room) Z #[(.ref a), (.int (4 : Int32))] h0 (fun v h L => v = none ∧ (∃ b0 b1 b2, h0.size ≤ b0 ∧ h0.size ≤ b1 ∧ h0.size ≤ b2 ∧ Fld Z h a "com/example/brinewright/brinewright/ResidualHelmholtz" "dN" "[D" (.ref b0) ∧ Fld Z h a "com/example/brinewright/brinewright/ResidualHelmholtz" "dNdV" "[D" (.ref b1) ∧ Fld Z h a "com/example/brinewright/brinewright/ResidualHelmholtz" "dNAtFreeVolume" "[D" (.ref b2) ∧ Fld Z h a "com/example/brinewright/brinewright/ResidualHelmholtz" "value" "D" (.double (0 : UInt64)) ∧ Fld Z h a "com/example/brinewright/brinewright/ResidualHelmholtz" "dV" "D" (.double (0 : UInt64)) ∧ Sar Z h b0 .double (List.replicate 4 (Value.double (0 : UInt64))) ∧ Sar Z h b1 .double (List.replicate 4 (Value.double (0 : UInt64))) ∧ Sar Z h b2 .double (List.replicate 4 (Value.double (0 : UInt64))) ∧ b0 ≠ b1 ∧ b0 ≠ b2 ∧ b1 ≠ b2) ∧ Keep h0 h [a] ∧ Fr n0 L) := by
  refine Does.of (plainFor_of_name pn0) ?_
  intro p e s m below meth c s₁ hx hby hml hret hlk hZ hown hnm X0 e0
  have N0 := Fr.nil n0
  refine Goes.cast (g' := mkF m 0 #[.val (.ref a), .val (.int (4 : Int32))] []) (ef_rm_init4 m a (4 : Int32)) ?_
  have K0 := Keep.refl h0 [a]
  refine Goes.by (T' := s₁) (g' := (mkF m 1 #[.val (.ref a), .val (.int (4 : Int32))] [(.ref a)])) (fun _ k => XS.aloadN X0.here hx rfl (hb hby d1_0) rfl rfl k) ?_
  obtain ⟨T1, X1, e1, st1⟩ := initO X0 hx hZ hown (hw _ (List.mem_of_getElem? (i := 7) rfl)) (hw _ (List.mem_of_getElem? (i := 8) rfl)) (hw _ (List.mem_of_getElem? (i := 9) rfl)) e0 (g := (mkF m 1 #[.val (.ref a), .val (.int (4 : Int32))] [(.ref a)])) rfl (by rw [hml]; rfl) rfl (hb hby d1_1) (by decide) (W := 0) (by show 2 * 0 + _ ≤ _; exact Nat.le_of_eq rfl) (by decide)
  refine Goes.by (T' := T1) (g' := (mkF m 4 #[.val (.ref a), .val (.int (4 : Int32))] [])) st1 ?_
  refine Goes.by (T' := T1) (g' := (mkF m 5 #[.val (.ref a), .val (.int (4 : Int32))] [(.ref a)])) (fun _ k => XS.aloadN X1.here hx rfl (hb hby d1_4) rfl rfl k) ?_
  refine Goes.by (T' := T1) (g' := (mkF m 6 #[.val (.ref a), .val (.int (4 : Int32))] [(.int (4 : Int32)), (.ref a)])) (fun _ k => XS.iloadN X1.here hx rfl (hb hby d1_5) rfl k) ?_
  obtain ⟨T2, h2, k2, X2, e2, E2, A2, st2⟩ := newP X1 hx hZ (hw _ (List.mem_of_getElem? (i := 10) rfl)) e1 (g := (mkF m 6 #[.val (.ref a), .val (.int (4 : Int32))] [(.int (4 : Int32)), (.ref a)])) rfl (hb hby d1_6) rfl (by decide) (cap := 4) (by decide) (by decide) (by decide) (by decide)
  obtain ⟨b0, g2⟩ : ∃ z, z = h0.size := ⟨_, rfl⟩
  rw [← g2] at A2 st2
  have ne_a_b0 : a ≠ b0 := fun q => Nat.lt_irrefl _ (Nat.lt_of_lt_of_eq EA.lt (g2.symm.trans q.symm))
  have ge_b0 : n0 ≤ b0 := Nat.le_trans Z0 (Nat.le_of_eq g2.symm)
  have sz_b0 : h0.size ≤ b0 := Nat.le_trans K0.1 (Nat.le_of_eq g2.symm)
  have EA := EA.ext E2
  have F_dN_a := F_dN_a.ext E2
  have F_dNdV_a := F_dNdV_a.ext E2
  have F_dNAtFreeVolume_a := F_dNAtFreeVolume_a.ext E2
  have F_value_a := F_value_a.ext E2
  have F_dV_a := F_dV_a.ext E2
  have Z0 := Nat.le_trans Z0 E2.1
  have K0 := K0.ext E2
  have V_b0 : Sar Z h2 b0 .double [(.double (0 : UInt64)), (.double (0 : UInt64)), (.double (0 : UInt64)), (.double (0 : UInt64))] := Sar.new (n := 4) A2 (by decide)
  refine Goes.by (T' := T2) (g' := (mkF m 8 #[.val (.ref a), .val (.int (4 : Int32))] [(.ref b0), (.ref a)])) st2 ?_
  obtain ⟨T3, h3, X3, e3, W3, st3⟩ := putF X2 hx hZ hown (host := "") (Or.inl (hw _ (List.mem_of_getElem? (i := 11) rfl))) Via.refl e2 F_dN_a EA (Or.inr ⟨(hw _ (List.mem_of_getElem? (i := 12) rfl)), rfl, hnm⟩) (hw _ (List.mem_of_getElem? (i := 2) rfl)) (ty := (.array .double)) (by decide) rfl rfl (g := (mkF m 8 #[.val (.ref a), .val (.int (4 : Int32))] [(.ref b0), (.ref a)])) rfl rfl (hb hby d1_8)
  have N0 := Fr.snoc X3 N0 ga
  have EA := EA.wr W3
  have F_dN_a := F_dN_a.same W3
  have F_dNdV_a := F_dNdV_a.other W3 (Or.inr (slot_ne (t := (.array .double)) (t' := (.array .double)) (Or.inr (hw _ (List.mem_of_getElem? (i := 14) rfl))) (Or.inr (hw _ (List.mem_of_getElem? (i := 12) rfl))) (by decide) (by decide) (by decide)))
  have F_dNAtFreeVolume_a := F_dNAtFreeVolume_a.other W3 (Or.inr (slot_ne (t := (.array .double)) (t' := (.array .double)) (Or.inr (hw _ (List.mem_of_getElem? (i := 16) rfl))) (Or.inr (hw _ (List.mem_of_getElem? (i := 12) rfl))) (by decide) (by decide) (by decide)))
  have F_value_a := F_value_a.other W3 (Or.inr (slot_ne (t := .double) (t' := (.array .double)) (Or.inl (hw _ (List.mem_of_getElem? (i := 43) rfl))) (Or.inr (hw _ (List.mem_of_getElem? (i := 12) rfl))) (by decide) (by decide) (by decide)))
  have F_dV_a := F_dV_a.other W3 (Or.inr (slot_ne (t := .double) (t' := (.array .double)) (Or.inl (hw _ (List.mem_of_getElem? (i := 50) rfl))) (Or.inr (hw _ (List.mem_of_getElem? (i := 12) rfl))) (by decide) (by decide) (by decide)))
  have V_b0 := V_b0.other W3 (Ne.symm ne_a_b0)
  have Z0 := Nat.le_trans Z0 (Nat.le_of_eq W3.size.symm)
  have K0 := K0.wr W3 (Or.inl (List.mem_singleton.mpr rfl))
  refine Goes.by (T' := T3) (g' := (mkF m 11 #[.val (.ref a), .val (.int (4 : Int32))] [])) st3 ?_
  refine Goes.by (T' := T3) (g' := (mkF m 12 #[.val (.ref a), .val (.int (4 : Int32))] [(.ref a)])) (fun _ k => XS.aloadN X3.here hx rfl (hb hby d1_11) rfl rfl k) ?_
  refine Goes.by (T' := T3) (g' := (mkF m 13 #[.val (.ref a), .val (.int (4 : Int32))] [(.int (4 : Int32)), (.ref a)])) (fun _ k => XS.iloadN X3.here hx rfl (hb hby d1_12) rfl k) ?_
  obtain ⟨T4, h4, k4, X4, e4, E4, A4, st4⟩ := newP X3 hx hZ (hw _ (List.mem_of_getElem? (i := 10) rfl)) e3 (g := (mkF m 13 #[.val (.ref a), .val (.int (4 : Int32))] [(.int (4 : Int32)), (.ref a)])) rfl (hb hby d1_13) rfl (by decide) (cap := 4) (by decide) (by decide) (by decide) (by decide)
  obtain ⟨b1, g4⟩ : ∃ z, z = h3.size := ⟨_, rfl⟩
  rw [← g4] at A4 st4
  have ne_a_b1 : a ≠ b1 := fun q => Nat.lt_irrefl _ (Nat.lt_of_lt_of_eq EA.lt (g4.symm.trans q.symm))
  have ne_b0_b1 : b0 ≠ b1 := fun q => Nat.lt_irrefl _ (Nat.lt_of_lt_of_eq V_b0.lt (g4.symm.trans q.symm))
  have ge_b1 : n0 ≤ b1 := Nat.le_trans Z0 (Nat.le_of_eq g4.symm)
  have sz_b1 : h0.size ≤ b1 := Nat.le_trans K0.1 (Nat.le_of_eq g4.symm)
  have EA := EA.ext E4
  have F_dN_a := F_dN_a.ext E4
  have F_dNdV_a := F_dNdV_a.ext E4
  have F_dNAtFreeVolume_a := F_dNAtFreeVolume_a.ext E4
  have F_value_a := F_value_a.ext E4
  have F_dV_a := F_dV_a.ext E4
  have V_b0 := V_b0.ext E4
  have Z0 := Nat.le_trans Z0 E4.1
  have K0 := K0.ext E4
  have V_b1 : Sar Z h4 b1 .double [(.double (0 : UInt64)), (.double (0 : UInt64)), (.double (0 : UInt64)), (.double (0 : UInt64))] := Sar.new (n := 4) A4 (by decide)
  refine Goes.by (T' := T4) (g' := (mkF m 15 #[.val (.ref a), .val (.int (4 : Int32))] [(.ref b1), (.ref a)])) st4 ?_
  obtain ⟨T5, h5, X5, e5, W5, st5⟩ := putF X4 hx hZ hown (host := "") (Or.inl (hw _ (List.mem_of_getElem? (i := 13) rfl))) Via.refl e4 F_dNdV_a EA (Or.inr ⟨(hw _ (List.mem_of_getElem? (i := 14) rfl)), rfl, hnm⟩) (hw _ (List.mem_of_getElem? (i := 2) rfl)) (ty := (.array .double)) (by decide) rfl rfl (g := (mkF m 15 #[.val (.ref a), .val (.int (4 : Int32))] [(.ref b1), (.ref a)])) rfl rfl (hb hby d1_15)
  have N0 := Fr.snoc X5 N0 ga
  have EA := EA.wr W5
  have F_dN_a := F_dN_a.other W5 (Or.inr (slot_ne (t := (.array .double)) (t' := (.array .double)) (Or.inr (hw _ (List.mem_of_getElem? (i := 12) rfl))) (Or.inr (hw _ (List.mem_of_getElem? (i := 14) rfl))) (by decide) (by decide) (by decide)))
  have F_dNdV_a := F_dNdV_a.same W5
  have F_dNAtFreeVolume_a := F_dNAtFreeVolume_a.other W5 (Or.inr (slot_ne (t := (.array .double)) (t' := (.array .double)) (Or.inr (hw _ (List.mem_of_getElem? (i := 16) rfl))) (Or.inr (hw _ (List.mem_of_getElem? (i := 14) rfl))) (by decide) (by decide) (by decide)))
  have F_value_a := F_value_a.other W5 (Or.inr (slot_ne (t := .double) (t' := (.array .double)) (Or.inl (hw _ (List.mem_of_getElem? (i := 43) rfl))) (Or.inr (hw _ (List.mem_of_getElem? (i := 14) rfl))) (by decide) (by decide) (by decide)))
  have F_dV_a := F_dV_a.other W5 (Or.inr (slot_ne (t := .double) (t' := (.array .double)) (Or.inl (hw _ (List.mem_of_getElem? (i := 50) rfl))) (Or.inr (hw _ (List.mem_of_getElem? (i := 14) rfl))) (by decide) (by decide) (by decide)))
  have V_b0 := V_b0.other W5 (Ne.symm ne_a_b0)
  have V_b1 := V_b1.other W5 (Ne.symm ne_a_b1)
  have Z0 := Nat.le_trans Z0 (Nat.le_of_eq W5.size.symm)
  have K0 := K0.wr W5 (Or.inl (List.mem_singleton.mpr rfl))
  refine Goes.by (T' := T5) (g' := (mkF m 18 #[.val (.ref a), .val (.int (4 : Int32))] [])) st5 ?_
  refine Goes.by (T' := T5) (g' := (mkF m 19 #[.val (.ref a), .val (.int (4 : Int32))] [(.ref a)])) (fun _ k => XS.aloadN X5.here hx rfl (hb hby d1_18) rfl rfl k) ?_
  refine Goes.by (T' := T5) (g' := (mkF m 20 #[.val (.ref a), .val (.int (4 : Int32))] [(.int (4 : Int32)), (.ref a)])) (fun _ k => XS.iloadN X5.here hx rfl (hb hby d1_19) rfl k) ?_
  obtain ⟨T6, h6, k6, X6, e6, E6, A6, st6⟩ := newP X5 hx hZ (hw _ (List.mem_of_getElem? (i := 10) rfl)) e5 (g := (mkF m 20 #[.val (.ref a), .val (.int (4 : Int32))] [(.int (4 : Int32)), (.ref a)])) rfl (hb hby d1_20) rfl (by decide) (cap := 4) (by decide) (by decide) (by decide) (by decide)
  obtain ⟨b2, g6⟩ : ∃ z, z = h5.size := ⟨_, rfl⟩
  rw [← g6] at A6 st6
  have ne_a_b2 : a ≠ b2 := fun q => Nat.lt_irrefl _ (Nat.lt_of_lt_of_eq EA.lt (g6.symm.trans q.symm))
  have ne_b0_b2 : b0 ≠ b2 := fun q => Nat.lt_irrefl _ (Nat.lt_of_lt_of_eq V_b0.lt (g6.symm.trans q.symm))
  have ne_b1_b2 : b1 ≠ b2 := fun q => Nat.lt_irrefl _ (Nat.lt_of_lt_of_eq V_b1.lt (g6.symm.trans q.symm))
  have ge_b2 : n0 ≤ b2 := Nat.le_trans Z0 (Nat.le_of_eq g6.symm)
  have sz_b2 : h0.size ≤ b2 := Nat.le_trans K0.1 (Nat.le_of_eq g6.symm)
  have EA := EA.ext E6
  have F_dN_a := F_dN_a.ext E6
  have F_dNdV_a := F_dNdV_a.ext E6
  have F_dNAtFreeVolume_a := F_dNAtFreeVolume_a.ext E6
  have F_value_a := F_value_a.ext E6
  have F_dV_a := F_dV_a.ext E6
  have V_b0 := V_b0.ext E6
  have V_b1 := V_b1.ext E6
  have Z0 := Nat.le_trans Z0 E6.1
  have K0 := K0.ext E6
  have V_b2 : Sar Z h6 b2 .double [(.double (0 : UInt64)), (.double (0 : UInt64)), (.double (0 : UInt64)), (.double (0 : UInt64))] := Sar.new (n := 4) A6 (by decide)
  refine Goes.by (T' := T6) (g' := (mkF m 22 #[.val (.ref a), .val (.int (4 : Int32))] [(.ref b2), (.ref a)])) st6 ?_
  obtain ⟨T7, h7, X7, e7, W7, st7⟩ := putF X6 hx hZ hown (host := "") (Or.inl (hw _ (List.mem_of_getElem? (i := 15) rfl))) Via.refl e6 F_dNAtFreeVolume_a EA (Or.inr ⟨(hw _ (List.mem_of_getElem? (i := 16) rfl)), rfl, hnm⟩) (hw _ (List.mem_of_getElem? (i := 2) rfl)) (ty := (.array .double)) (by decide) rfl rfl (g := (mkF m 22 #[.val (.ref a), .val (.int (4 : Int32))] [(.ref b2), (.ref a)])) rfl rfl (hb hby d1_22)
  have N0 := Fr.snoc X7 N0 ga
  have EA := EA.wr W7
  have F_dN_a := F_dN_a.other W7 (Or.inr (slot_ne (t := (.array .double)) (t' := (.array .double)) (Or.inr (hw _ (List.mem_of_getElem? (i := 12) rfl))) (Or.inr (hw _ (List.mem_of_getElem? (i := 16) rfl))) (by decide) (by decide) (by decide)))
  have F_dNdV_a := F_dNdV_a.other W7 (Or.inr (slot_ne (t := (.array .double)) (t' := (.array .double)) (Or.inr (hw _ (List.mem_of_getElem? (i := 14) rfl))) (Or.inr (hw _ (List.mem_of_getElem? (i := 16) rfl))) (by decide) (by decide) (by decide)))
  have F_dNAtFreeVolume_a := F_dNAtFreeVolume_a.same W7
  have F_value_a := F_value_a.other W7 (Or.inr (slot_ne (t := .double) (t' := (.array .double)) (Or.inl (hw _ (List.mem_of_getElem? (i := 43) rfl))) (Or.inr (hw _ (List.mem_of_getElem? (i := 16) rfl))) (by decide) (by decide) (by decide)))
  have F_dV_a := F_dV_a.other W7 (Or.inr (slot_ne (t := .double) (t' := (.array .double)) (Or.inl (hw _ (List.mem_of_getElem? (i := 50) rfl))) (Or.inr (hw _ (List.mem_of_getElem? (i := 16) rfl))) (by decide) (by decide) (by decide)))
  have V_b0 := V_b0.other W7 (Ne.symm ne_a_b0)
  have V_b1 := V_b1.other W7 (Ne.symm ne_a_b1)
  have V_b2 := V_b2.other W7 (Ne.symm ne_a_b2)
  have Z0 := Nat.le_trans Z0 (Nat.le_of_eq W7.size.symm)
  have K0 := K0.wr W7 (Or.inl (List.mem_singleton.mpr rfl))
  refine Goes.by (T' := T7) (g' := (mkF m 25 #[.val (.ref a), .val (.int (4 : Int32))] [])) st7 ?_
  exact outV X7 hx hlk hret (hb hby d1_25) (by rw [e7]; exact ⟨rfl, ⟨b0, b1, b2, sz_b0, sz_b1, sz_b2, F_dN_a, F_dNdV_a, F_dNAtFreeVolume_a, F_value_a, F_dV_a, V_b0, V_b1, V_b2, ne_b0_b1, ne_b0_b2, ne_b1_b2⟩, K0, N0⟩) (by decide) (by decide)
theorem ef_rm_init3 (m : MethodId) (x0 : Addr) (x1 : Int32) : entryFrame m #[(.ref x0), (.int x1)] 2 = mkF m 0 #[.val (.ref x0), .val (.int x1)] [] := by first | (simp [entryFrame, mkF, argsToLocals, Value.category, maxLocals]; done) | rfl
set_option maxRecDepth 65536 in
set_option maxHeartbeats 40000000 in
theorem rm_init3 (l : Launch) (Z : State) (a0 : Array Value) (hw : ∀ d ∈ tables_1, d.before a0 Z = true) (a : Addr) (h0 : Heap) (n0 : Nat) (Z0 : n0 ≤ h0.size) (EA : Exa Z h0 a "com/example/brinewright/brinewright/ResidualHelmholtz") (F_dN_a : Fld Z h0 a "com/example/brinewright/brinewright/ResidualHelmholtz" "dN" "[D" .null) (F_dNdV_a : Fld Z h0 a "com/example/brinewright/brinewright/ResidualHelmholtz" "dNdV" "[D" .null) (F_dNAtFreeVolume_a : Fld Z h0 a "com/example/brinewright/brinewright/ResidualHelmholtz" "dNAtFreeVolume" "[D" .null) (F_value_a : Fld Z h0 a "com/example/brinewright/brinewright/ResidualHelmholtz" "value" "D" (.double (0 : UInt64))) (F_dV_a : Fld Z h0 a "com/example/brinewright/brinewright/ResidualHelmholtz" "dV" "D" (.double (0 : UInt64))) (ga : n0 ≤ a) :
    Does l (⟨"com/example/brinewright/brinewright/ResidualHelmholtz", "<init>", "(I)V"⟩ : MethodName) prog_47_method_1_code 2 none [] ({ frames := 1, cells := 3, slots := 12, locals := 12 } : Room) Z #[(.ref a), (.int (3 : Int32))] h0 (fun v h L => v = none ∧ (∃ b0 b1 b2, h0.size ≤ b0 ∧ h0.size ≤ b1 ∧ h0.size ≤ b2 ∧ Fld Z h a "com/example/brinewright/brinewright/ResidualHelmholtz" "dN" "[D" (.ref b0) ∧ Fld Z h a "com/example/brinewright/brinewright/ResidualHelmholtz" "dNdV" "[D" (.ref b1) ∧ Fld Z h a "com/example/brinewright/brinewright/ResidualHelmholtz" "dNAtFreeVolume" "[D" (.ref b2) ∧ Fld Z h a "com/example/brinewright/brinewright/ResidualHelmholtz" "value" "D" (.double (0 : UInt64)) ∧ Fld Z h a "com/example/brinewright/brinewright/ResidualHelmholtz" "dV" "D" (.double (0 : UInt64)) ∧ Sar Z h b0 .double (List.replicate 3 (Value.double (0 : UInt64))) ∧ Sar Z h b1 .double (List.replicate 3 (Value.double (0 : UInt64))) ∧ Sar Z h b2 .double (List.replicate 3 (Value.double (0 : UInt64))) ∧ b0 ≠ b1 ∧ b0 ≠ b2 ∧ b1 ≠ b2) ∧ Keep h0 h [a] ∧ Fr n0 L) := by
  refine Does.of (plainFor_of_name pn0) ?_
  intro p e s m below meth c s₁ hx hby hml hret hlk hZ hown hnm X0 e0
  have N0 := Fr.nil n0
  refine Goes.cast (g' := mkF m 0 #[.val (.ref a), .val (.int (3 : Int32))] []) (ef_rm_init3 m a (3 : Int32)) ?_
  have K0 := Keep.refl h0 [a]
  refine Goes.by (T' := s₁) (g' := (mkF m 1 #[.val (.ref a), .val (.int (3 : Int32))] [(.ref a)])) (fun _ k => XS.aloadN X0.here hx rfl (hb hby d1_0) rfl rfl k) ?_
  obtain ⟨T8, X8, e8, st8⟩ := initO X0 hx hZ hown (hw _ (List.mem_of_getElem? (i := 7) rfl)) (hw _ (List.mem_of_getElem? (i := 8) rfl)) (hw _ (List.mem_of_getElem? (i := 9) rfl)) e0 (g := (mkF m 1 #[.val (.ref a), .val (.int (3 : Int32))] [(.ref a)])) rfl (by rw [hml]; rfl) rfl (hb hby d1_1) (by decide) (W := 0) (by show 2 * 0 + _ ≤ _; exact Nat.le_of_eq rfl) (by decide)
  refine Goes.by (T' := T8) (g' := (mkF m 4 #[.val (.ref a), .val (.int (3 : Int32))] [])) st8 ?_
  refine Goes.by (T' := T8) (g' := (mkF m 5 #[.val (.ref a), .val (.int (3 : Int32))] [(.ref a)])) (fun _ k => XS.aloadN X8.here hx rfl (hb hby d1_4) rfl rfl k) ?_
  refine Goes.by (T' := T8) (g' := (mkF m 6 #[.val (.ref a), .val (.int (3 : Int32))] [(.int (3 : Int32)), (.ref a)])) (fun _ k => XS.iloadN X8.here hx rfl (hb hby d1_5) rfl k) ?_
  obtain ⟨T9, h9, k9, X9, e9, E9, A9, st9⟩ := newP X8 hx hZ (hw _ (List.mem_of_getElem? (i := 10) rfl)) e8 (g := (mkF m 6 #[.val (.ref a), .val (.int (3 : Int32))] [(.int (3 : Int32)), (.ref a)])) rfl (hb hby d1_6) rfl (by decide) (cap := 3) (by decide) (by decide) (by decide) (by decide)
  obtain ⟨b0, g9⟩ : ∃ z, z = h0.size := ⟨_, rfl⟩
  rw [← g9] at A9 st9
  have ne_a_b0 : a ≠ b0 := fun q => Nat.lt_irrefl _ (Nat.lt_of_lt_of_eq EA.lt (g9.symm.trans q.symm))
  have ge_b0 : n0 ≤ b0 := Nat.le_trans Z0 (Nat.le_of_eq g9.symm)
  have sz_b0 : h0.size ≤ b0 := Nat.le_trans K0.1 (Nat.le_of_eq g9.symm)
  have EA := EA.ext E9
  have F_dN_a := F_dN_a.ext E9
  have F_dNdV_a := F_dNdV_a.ext E9
  have F_dNAtFreeVolume_a := F_dNAtFreeVolume_a.ext E9
  have F_value_a := F_value_a.ext E9
  have F_dV_a := F_dV_a.ext E9
  have Z0 := Nat.le_trans Z0 E9.1
  have K0 := K0.ext E9
  have V_b0 : Sar Z h9 b0 .double [(.double (0 : UInt64)), (.double (0 : UInt64)), (.double (0 : UInt64))] := Sar.new (n := 3) A9 (by decide)
  refine Goes.by (T' := T9) (g' := (mkF m 8 #[.val (.ref a), .val (.int (3 : Int32))] [(.ref b0), (.ref a)])) st9 ?_
  obtain ⟨T10, h10, X10, e10, W10, st10⟩ := putF X9 hx hZ hown (host := "") (Or.inl (hw _ (List.mem_of_getElem? (i := 11) rfl))) Via.refl e9 F_dN_a EA (Or.inr ⟨(hw _ (List.mem_of_getElem? (i := 12) rfl)), rfl, hnm⟩) (hw _ (List.mem_of_getElem? (i := 2) rfl)) (ty := (.array .double)) (by decide) rfl rfl (g := (mkF m 8 #[.val (.ref a), .val (.int (3 : Int32))] [(.ref b0), (.ref a)])) rfl rfl (hb hby d1_8)
  have N0 := Fr.snoc X10 N0 ga
  have EA := EA.wr W10
  have F_dN_a := F_dN_a.same W10
  have F_dNdV_a := F_dNdV_a.other W10 (Or.inr (slot_ne (t := (.array .double)) (t' := (.array .double)) (Or.inr (hw _ (List.mem_of_getElem? (i := 14) rfl))) (Or.inr (hw _ (List.mem_of_getElem? (i := 12) rfl))) (by decide) (by decide) (by decide)))
  have F_dNAtFreeVolume_a := F_dNAtFreeVolume_a.other W10 (Or.inr (slot_ne (t := (.array .double)) (t' := (.array .double)) (Or.inr (hw _ (List.mem_of_getElem? (i := 16) rfl))) (Or.inr (hw _ (List.mem_of_getElem? (i := 12) rfl))) (by decide) (by decide) (by decide)))
  have F_value_a := F_value_a.other W10 (Or.inr (slot_ne (t := .double) (t' := (.array .double)) (Or.inl (hw _ (List.mem_of_getElem? (i := 43) rfl))) (Or.inr (hw _ (List.mem_of_getElem? (i := 12) rfl))) (by decide) (by decide) (by decide)))
  have F_dV_a := F_dV_a.other W10 (Or.inr (slot_ne (t := .double) (t' := (.array .double)) (Or.inl (hw _ (List.mem_of_getElem? (i := 50) rfl))) (Or.inr (hw _ (List.mem_of_getElem? (i := 12) rfl))) (by decide) (by decide) (by decide)))
  have V_b0 := V_b0.other W10 (Ne.symm ne_a_b0)
  have Z0 := Nat.le_trans Z0 (Nat.le_of_eq W10.size.symm)
  have K0 := K0.wr W10 (Or.inl (List.mem_singleton.mpr rfl))
  refine Goes.by (T' := T10) (g' := (mkF m 11 #[.val (.ref a), .val (.int (3 : Int32))] [])) st10 ?_
  refine Goes.by (T' := T10) (g' := (mkF m 12 #[.val (.ref a), .val (.int (3 : Int32))] [(.ref a)])) (fun _ k => XS.aloadN X10.here hx rfl (hb hby d1_11) rfl rfl k) ?_
  refine Goes.by (T' := T10) (g' := (mkF m 13 #[.val (.ref a), .val (.int (3 : Int32))] [(.int (3 : Int32)), (.ref a)])) (fun _ k => XS.iloadN X10.here hx rfl (hb hby d1_12) rfl k) ?_
  obtain ⟨T11, h11, k11, X11, e11, E11, A11, st11⟩ := newP X10 hx hZ (hw _ (List.mem_of_getElem? (i := 10) rfl)) e10 (g := (mkF m 13 #[.val (.ref a), .val (.int (3 : Int32))] [(.int (3 : Int32)), (.ref a)])) rfl (hb hby d1_13) rfl (by decide) (cap := 3) (by decide) (by decide) (by decide) (by decide)
  obtain ⟨b1, g11⟩ : ∃ z, z = h10.size := ⟨_, rfl⟩
  rw [← g11] at A11 st11
  have ne_a_b1 : a ≠ b1 := fun q => Nat.lt_irrefl _ (Nat.lt_of_lt_of_eq EA.lt (g11.symm.trans q.symm))
  have ne_b0_b1 : b0 ≠ b1 := fun q => Nat.lt_irrefl _ (Nat.lt_of_lt_of_eq V_b0.lt (g11.symm.trans q.symm))
  have ge_b1 : n0 ≤ b1 := Nat.le_trans Z0 (Nat.le_of_eq g11.symm)
  have sz_b1 : h0.size ≤ b1 := Nat.le_trans K0.1 (Nat.le_of_eq g11.symm)
  have EA := EA.ext E11
  have F_dN_a := F_dN_a.ext E11
  have F_dNdV_a := F_dNdV_a.ext E11
  have F_dNAtFreeVolume_a := F_dNAtFreeVolume_a.ext E11
  have F_value_a := F_value_a.ext E11
  have F_dV_a := F_dV_a.ext E11
  have V_b0 := V_b0.ext E11
  have Z0 := Nat.le_trans Z0 E11.1
  have K0 := K0.ext E11
  have V_b1 : Sar Z h11 b1 .double [(.double (0 : UInt64)), (.double (0 : UInt64)), (.double (0 : UInt64))] := Sar.new (n := 3) A11 (by decide)
  refine Goes.by (T' := T11) (g' := (mkF m 15 #[.val (.ref a), .val (.int (3 : Int32))] [(.ref b1), (.ref a)])) st11 ?_
  obtain ⟨T12, h12, X12, e12, W12, st12⟩ := putF X11 hx hZ hown (host := "") (Or.inl (hw _ (List.mem_of_getElem? (i := 13) rfl))) Via.refl e11 F_dNdV_a EA (Or.inr ⟨(hw _ (List.mem_of_getElem? (i := 14) rfl)), rfl, hnm⟩) (hw _ (List.mem_of_getElem? (i := 2) rfl)) (ty := (.array .double)) (by decide) rfl rfl (g := (mkF m 15 #[.val (.ref a), .val (.int (3 : Int32))] [(.ref b1), (.ref a)])) rfl rfl (hb hby d1_15)
  have N0 := Fr.snoc X12 N0 ga
  have EA := EA.wr W12
  have F_dN_a := F_dN_a.other W12 (Or.inr (slot_ne (t := (.array .double)) (t' := (.array .double)) (Or.inr (hw _ (List.mem_of_getElem? (i := 12) rfl))) (Or.inr (hw _ (List.mem_of_getElem? (i := 14) rfl))) (by decide) (by decide) (by decide)))
  have F_dNdV_a := F_dNdV_a.same W12
  have F_dNAtFreeVolume_a := F_dNAtFreeVolume_a.other W12 (Or.inr (slot_ne (t := (.array .double)) (t' := (.array .double)) (Or.inr (hw _ (List.mem_of_getElem? (i := 16) rfl))) (Or.inr (hw _ (List.mem_of_getElem? (i := 14) rfl))) (by decide) (by decide) (by decide)))
  have F_value_a := F_value_a.other W12 (Or.inr (slot_ne (t := .double) (t' := (.array .double)) (Or.inl (hw _ (List.mem_of_getElem? (i := 43) rfl))) (Or.inr (hw _ (List.mem_of_getElem? (i := 14) rfl))) (by decide) (by decide) (by decide)))
  have F_dV_a := F_dV_a.other W12 (Or.inr (slot_ne (t := .double) (t' := (.array .double)) (Or.inl (hw _ (List.mem_of_getElem? (i := 50) rfl))) (Or.inr (hw _ (List.mem_of_getElem? (i := 14) rfl))) (by decide) (by decide) (by decide)))
  have V_b0 := V_b0.other W12 (Ne.symm ne_a_b0)
  have V_b1 := V_b1.other W12 (Ne.symm ne_a_b1)
  have Z0 := Nat.le_trans Z0 (Nat.le_of_eq W12.size.symm)
  have K0 := K0.wr W12 (Or.inl (List.mem_singleton.mpr rfl))
  refine Goes.by (T' := T12) (g' := (mkF m 18 #[.val (.ref a), .val (.int (3 : Int32))] [])) st12 ?_
  refine Goes.by (T' := T12) (g' := (mkF m 19 #[.val (.ref a), .val (.int (3 : Int32))] [(.ref a)])) (fun _ k => XS.aloadN X12.here hx rfl (hb hby d1_18) rfl rfl k) ?_
  refine Goes.by (T' := T12) (g' := (mkF m 20 #[.val (.ref a), .val (.int (3 : Int32))] [(.int (3 : Int32)), (.ref a)])) (fun _ k => XS.iloadN X12.here hx rfl (hb hby d1_19) rfl k) ?_
  obtain ⟨T13, h13, k13, X13, e13, E13, A13, st13⟩ := newP X12 hx hZ (hw _ (List.mem_of_getElem? (i := 10) rfl)) e12 (g := (mkF m 20 #[.val (.ref a), .val (.int (3 : Int32))] [(.int (3 : Int32)), (.ref a)])) rfl (hb hby d1_20) rfl (by decide) (cap := 3) (by decide) (by decide) (by decide) (by decide)
  obtain ⟨b2, g13⟩ : ∃ z, z = h12.size := ⟨_, rfl⟩
  rw [← g13] at A13 st13
  have ne_a_b2 : a ≠ b2 := fun q => Nat.lt_irrefl _ (Nat.lt_of_lt_of_eq EA.lt (g13.symm.trans q.symm))
  have ne_b0_b2 : b0 ≠ b2 := fun q => Nat.lt_irrefl _ (Nat.lt_of_lt_of_eq V_b0.lt (g13.symm.trans q.symm))
  have ne_b1_b2 : b1 ≠ b2 := fun q => Nat.lt_irrefl _ (Nat.lt_of_lt_of_eq V_b1.lt (g13.symm.trans q.symm))
  have ge_b2 : n0 ≤ b2 := Nat.le_trans Z0 (Nat.le_of_eq g13.symm)
  have sz_b2 : h0.size ≤ b2 := Nat.le_trans K0.1 (Nat.le_of_eq g13.symm)
  have EA := EA.ext E13
  have F_dN_a := F_dN_a.ext E13
  have F_dNdV_a := F_dNdV_a.ext E13
  have F_dNAtFreeVolume_a := F_dNAtFreeVolume_a.ext E13
  have F_value_a := F_value_a.ext E13
  have F_dV_a := F_dV_a.ext E13
  have V_b0 := V_b0.ext E13
  have V_b1 := V_b1.ext E13
  have Z0 := Nat.le_trans Z0 E13.1
  have K0 := K0.ext E13
  have V_b2 : Sar Z h13 b2 .double [(.double (0 : UInt64)), (.double (0 : UInt64)), (.double (0 : UInt64))] := Sar.new (n := 3) A13 (by decide)
  refine Goes.by (T' := T13) (g' := (mkF m 22 #[.val (.ref a), .val (.int (3 : Int32))] [(.ref b2), (.ref a)])) st13 ?_
  obtain ⟨T14, h14, X14, e14, W14, st14⟩ := putF X13 hx hZ hown (host := "") (Or.inl (hw _ (List.mem_of_getElem? (i := 15) rfl))) Via.refl e13 F_dNAtFreeVolume_a EA (Or.inr ⟨(hw _ (List.mem_of_getElem? (i := 16) rfl)), rfl, hnm⟩) (hw _ (List.mem_of_getElem? (i := 2) rfl)) (ty := (.array .double)) (by decide) rfl rfl (g := (mkF m 22 #[.val (.ref a), .val (.int (3 : Int32))] [(.ref b2), (.ref a)])) rfl rfl (hb hby d1_22)
  have N0 := Fr.snoc X14 N0 ga
  have EA := EA.wr W14
  have F_dN_a := F_dN_a.other W14 (Or.inr (slot_ne (t := (.array .double)) (t' := (.array .double)) (Or.inr (hw _ (List.mem_of_getElem? (i := 12) rfl))) (Or.inr (hw _ (List.mem_of_getElem? (i := 16) rfl))) (by decide) (by decide) (by decide)))
  have F_dNdV_a := F_dNdV_a.other W14 (Or.inr (slot_ne (t := (.array .double)) (t' := (.array .double)) (Or.inr (hw _ (List.mem_of_getElem? (i := 14) rfl))) (Or.inr (hw _ (List.mem_of_getElem? (i := 16) rfl))) (by decide) (by decide) (by decide)))
  have F_dNAtFreeVolume_a := F_dNAtFreeVolume_a.same W14
  have F_value_a := F_value_a.other W14 (Or.inr (slot_ne (t := .double) (t' := (.array .double)) (Or.inl (hw _ (List.mem_of_getElem? (i := 43) rfl))) (Or.inr (hw _ (List.mem_of_getElem? (i := 16) rfl))) (by decide) (by decide) (by decide)))
  have F_dV_a := F_dV_a.other W14 (Or.inr (slot_ne (t := .double) (t' := (.array .double)) (Or.inl (hw _ (List.mem_of_getElem? (i := 50) rfl))) (Or.inr (hw _ (List.mem_of_getElem? (i := 16) rfl))) (by decide) (by decide) (by decide)))
  have V_b0 := V_b0.other W14 (Ne.symm ne_a_b0)
  have V_b1 := V_b1.other W14 (Ne.symm ne_a_b1)
  have V_b2 := V_b2.other W14 (Ne.symm ne_a_b2)
  have Z0 := Nat.le_trans Z0 (Nat.le_of_eq W14.size.symm)
  have K0 := K0.wr W14 (Or.inl (List.mem_singleton.mpr rfl))
  refine Goes.by (T' := T14) (g' := (mkF m 25 #[.val (.ref a), .val (.int (3 : Int32))] [])) st14 ?_
  exact outV X14 hx hlk hret (hb hby d1_25) (by rw [e14]; exact ⟨rfl, ⟨b0, b1, b2, sz_b0, sz_b1, sz_b2, F_dN_a, F_dNdV_a, F_dNAtFreeVolume_a, F_value_a, F_dV_a, V_b0, V_b1, V_b2, ne_b0_b1, ne_b0_b2, ne_b1_b2⟩, K0, N0⟩) (by decide) (by decide)
theorem ef_rm_init2 (m : MethodId) (x0 : Addr) (x1 : Int32) : entryFrame m #[(.ref x0), (.int x1)] 2 = mkF m 0 #[.val (.ref x0), .val (.int x1)] [] := by first | (simp [entryFrame, mkF, argsToLocals, Value.category, maxLocals]; done) | rfl
set_option maxRecDepth 65536 in
set_option maxHeartbeats 40000000 in
theorem rm_init2 (l : Launch) (Z : State) (a0 : Array Value) (hw : ∀ d ∈ tables_1, d.before a0 Z = true) (a : Addr) (h0 : Heap) (n0 : Nat) (Z0 : n0 ≤ h0.size) (EA : Exa Z h0 a "com/example/brinewright/brinewright/ResidualHelmholtz") (F_dN_a : Fld Z h0 a "com/example/brinewright/brinewright/ResidualHelmholtz" "dN" "[D" .null) (F_dNdV_a : Fld Z h0 a "com/example/brinewright/brinewright/ResidualHelmholtz" "dNdV" "[D" .null) (F_dNAtFreeVolume_a : Fld Z h0 a "com/example/brinewright/brinewright/ResidualHelmholtz" "dNAtFreeVolume" "[D" .null) (F_value_a : Fld Z h0 a "com/example/brinewright/brinewright/ResidualHelmholtz" "value" "D" (.double (0 : UInt64))) (F_dV_a : Fld Z h0 a "com/example/brinewright/brinewright/ResidualHelmholtz" "dV" "D" (.double (0 : UInt64))) (ga : n0 ≤ a) :
    Does l (⟨"com/example/brinewright/brinewright/ResidualHelmholtz", "<init>", "(I)V"⟩ : MethodName) prog_47_method_1_code 2 none [] ({ frames := 1, cells := 3, slots := 12, locals := 12 } : Room) Z #[(.ref a), (.int (2 : Int32))] h0 (fun v h L => v = none ∧ (∃ b0 b1 b2, h0.size ≤ b0 ∧ h0.size ≤ b1 ∧ h0.size ≤ b2 ∧ Fld Z h a "com/example/brinewright/brinewright/ResidualHelmholtz" "dN" "[D" (.ref b0) ∧ Fld Z h a "com/example/brinewright/brinewright/ResidualHelmholtz" "dNdV" "[D" (.ref b1) ∧ Fld Z h a "com/example/brinewright/brinewright/ResidualHelmholtz" "dNAtFreeVolume" "[D" (.ref b2) ∧ Fld Z h a "com/example/brinewright/brinewright/ResidualHelmholtz" "value" "D" (.double (0 : UInt64)) ∧ Fld Z h a "com/example/brinewright/brinewright/ResidualHelmholtz" "dV" "D" (.double (0 : UInt64)) ∧ Sar Z h b0 .double (List.replicate 2 (Value.double (0 : UInt64))) ∧ Sar Z h b1 .double (List.replicate 2 (Value.double (0 : UInt64))) ∧ Sar Z h b2 .double (List.replicate 2 (Value.double (0 : UInt64))) ∧ b0 ≠ b1 ∧ b0 ≠ b2 ∧ b1 ≠ b2) ∧ Keep h0 h [a] ∧ Fr n0 L) := by
  refine Does.of (plainFor_of_name pn0) ?_
  intro p e s m below meth c s₁ hx hby hml hret hlk hZ hown hnm X0 e0
  have N0 := Fr.nil n0
  refine Goes.cast (g' := mkF m 0 #[.val (.ref a), .val (.int (2 : Int32))] []) (ef_rm_init2 m a (2 : Int32)) ?_
  have K0 := Keep.refl h0 [a]
  refine Goes.by (T' := s₁) (g' := (mkF m 1 #[.val (.ref a), .val (.int (2 : Int32))] [(.ref a)])) (fun _ k => XS.aloadN X0.here hx rfl (hb hby d1_0) rfl rfl k) ?_
  obtain ⟨T15, X15, e15, st15⟩ := initO X0 hx hZ hown (hw _ (List.mem_of_getElem? (i := 7) rfl)) (hw _ (List.mem_of_getElem? (i := 8) rfl)) (hw _ (List.mem_of_getElem? (i := 9) rfl)) e0 (g := (mkF m 1 #[.val (.ref a), .val (.int (2 : Int32))] [(.ref a)])) rfl (by rw [hml]; rfl) rfl (hb hby d1_1) (by decide) (W := 0) (by show 2 * 0 + _ ≤ _; exact Nat.le_of_eq rfl) (by decide)
  refine Goes.by (T' := T15) (g' := (mkF m 4 #[.val (.ref a), .val (.int (2 : Int32))] [])) st15 ?_
  refine Goes.by (T' := T15) (g' := (mkF m 5 #[.val (.ref a), .val (.int (2 : Int32))] [(.ref a)])) (fun _ k => XS.aloadN X15.here hx rfl (hb hby d1_4) rfl rfl k) ?_
  refine Goes.by (T' := T15) (g' := (mkF m 6 #[.val (.ref a), .val (.int (2 : Int32))] [(.int (2 : Int32)), (.ref a)])) (fun _ k => XS.iloadN X15.here hx rfl (hb hby d1_5) rfl k) ?_
  obtain ⟨T16, h16, k16, X16, e16, E16, A16, st16⟩ := newP X15 hx hZ (hw _ (List.mem_of_getElem? (i := 10) rfl)) e15 (g := (mkF m 6 #[.val (.ref a), .val (.int (2 : Int32))] [(.int (2 : Int32)), (.ref a)])) rfl (hb hby d1_6) rfl (by decide) (cap := 2) (by decide) (by decide) (by decide) (by decide)
  obtain ⟨b0, g16⟩ : ∃ z, z = h0.size := ⟨_, rfl⟩
  rw [← g16] at A16 st16
  have ne_a_b0 : a ≠ b0 := fun q => Nat.lt_irrefl _ (Nat.lt_of_lt_of_eq EA.lt (g16.symm.trans q.symm))
  have ge_b0 : n0 ≤ b0 := Nat.le_trans Z0 (Nat.le_of_eq g16.symm)
  have sz_b0 : h0.size ≤ b0 := Nat.le_trans K0.1 (Nat.le_of_eq g16.symm)
  have EA := EA.ext E16
  have F_dN_a := F_dN_a.ext E16
  have F_dNdV_a := F_dNdV_a.ext E16
  have F_dNAtFreeVolume_a := F_dNAtFreeVolume_a.ext E16
  have F_value_a := F_value_a.ext E16
  have F_dV_a := F_dV_a.ext E16
  have Z0 := Nat.le_trans Z0 E16.1
  have K0 := K0.ext E16
  have V_b0 : Sar Z h16 b0 .double [(.double (0 : UInt64)), (.double (0 : UInt64))] := Sar.new (n := 2) A16 (by decide)
  refine Goes.by (T' := T16) (g' := (mkF m 8 #[.val (.ref a), .val (.int (2 : Int32))] [(.ref b0), (.ref a)])) st16 ?_
  obtain ⟨T17, h17, X17, e17, W17, st17⟩ := putF X16 hx hZ hown (host := "") (Or.inl (hw _ (List.mem_of_getElem? (i := 11) rfl))) Via.refl e16 F_dN_a EA (Or.inr ⟨(hw _ (List.mem_of_getElem? (i := 12) rfl)), rfl, hnm⟩) (hw _ (List.mem_of_getElem? (i := 2) rfl)) (ty := (.array .double)) (by decide) rfl rfl (g := (mkF m 8 #[.val (.ref a), .val (.int (2 : Int32))] [(.ref b0), (.ref a)])) rfl rfl (hb hby d1_8)
  have N0 := Fr.snoc X17 N0 ga
  have EA := EA.wr W17
  have F_dN_a := F_dN_a.same W17
  have F_dNdV_a := F_dNdV_a.other W17 (Or.inr (slot_ne (t := (.array .double)) (t' := (.array .double)) (Or.inr (hw _ (List.mem_of_getElem? (i := 14) rfl))) (Or.inr (hw _ (List.mem_of_getElem? (i := 12) rfl))) (by decide) (by decide) (by decide)))
  have F_dNAtFreeVolume_a := F_dNAtFreeVolume_a.other W17 (Or.inr (slot_ne (t := (.array .double)) (t' := (.array .double)) (Or.inr (hw _ (List.mem_of_getElem? (i := 16) rfl))) (Or.inr (hw _ (List.mem_of_getElem? (i := 12) rfl))) (by decide) (by decide) (by decide)))
  have F_value_a := F_value_a.other W17 (Or.inr (slot_ne (t := .double) (t' := (.array .double)) (Or.inl (hw _ (List.mem_of_getElem? (i := 43) rfl))) (Or.inr (hw _ (List.mem_of_getElem? (i := 12) rfl))) (by decide) (by decide) (by decide)))
  have F_dV_a := F_dV_a.other W17 (Or.inr (slot_ne (t := .double) (t' := (.array .double)) (Or.inl (hw _ (List.mem_of_getElem? (i := 50) rfl))) (Or.inr (hw _ (List.mem_of_getElem? (i := 12) rfl))) (by decide) (by decide) (by decide)))
  have V_b0 := V_b0.other W17 (Ne.symm ne_a_b0)
  have Z0 := Nat.le_trans Z0 (Nat.le_of_eq W17.size.symm)
  have K0 := K0.wr W17 (Or.inl (List.mem_singleton.mpr rfl))
  refine Goes.by (T' := T17) (g' := (mkF m 11 #[.val (.ref a), .val (.int (2 : Int32))] [])) st17 ?_
  refine Goes.by (T' := T17) (g' := (mkF m 12 #[.val (.ref a), .val (.int (2 : Int32))] [(.ref a)])) (fun _ k => XS.aloadN X17.here hx rfl (hb hby d1_11) rfl rfl k) ?_
  refine Goes.by (T' := T17) (g' := (mkF m 13 #[.val (.ref a), .val (.int (2 : Int32))] [(.int (2 : Int32)), (.ref a)])) (fun _ k => XS.iloadN X17.here hx rfl (hb hby d1_12) rfl k) ?_
  obtain ⟨T18, h18, k18, X18, e18, E18, A18, st18⟩ := newP X17 hx hZ (hw _ (List.mem_of_getElem? (i := 10) rfl)) e17 (g := (mkF m 13 #[.val (.ref a), .val (.int (2 : Int32))] [(.int (2 : Int32)), (.ref a)])) rfl (hb hby d1_13) rfl (by decide) (cap := 2) (by decide) (by decide) (by decide) (by decide)
  obtain ⟨b1, g18⟩ : ∃ z, z = h17.size := ⟨_, rfl⟩
  rw [← g18] at A18 st18
  have ne_a_b1 : a ≠ b1 := fun q => Nat.lt_irrefl _ (Nat.lt_of_lt_of_eq EA.lt (g18.symm.trans q.symm))
  have ne_b0_b1 : b0 ≠ b1 := fun q => Nat.lt_irrefl _ (Nat.lt_of_lt_of_eq V_b0.lt (g18.symm.trans q.symm))
  have ge_b1 : n0 ≤ b1 := Nat.le_trans Z0 (Nat.le_of_eq g18.symm)
  have sz_b1 : h0.size ≤ b1 := Nat.le_trans K0.1 (Nat.le_of_eq g18.symm)
  have EA := EA.ext E18
  have F_dN_a := F_dN_a.ext E18
  have F_dNdV_a := F_dNdV_a.ext E18
  have F_dNAtFreeVolume_a := F_dNAtFreeVolume_a.ext E18
  have F_value_a := F_value_a.ext E18
  have F_dV_a := F_dV_a.ext E18
  have V_b0 := V_b0.ext E18
  have Z0 := Nat.le_trans Z0 E18.1
  have K0 := K0.ext E18
  have V_b1 : Sar Z h18 b1 .double [(.double (0 : UInt64)), (.double (0 : UInt64))] := Sar.new (n := 2) A18 (by decide)
  refine Goes.by (T' := T18) (g' := (mkF m 15 #[.val (.ref a), .val (.int (2 : Int32))] [(.ref b1), (.ref a)])) st18 ?_
  obtain ⟨T19, h19, X19, e19, W19, st19⟩ := putF X18 hx hZ hown (host := "") (Or.inl (hw _ (List.mem_of_getElem? (i := 13) rfl))) Via.refl e18 F_dNdV_a EA (Or.inr ⟨(hw _ (List.mem_of_getElem? (i := 14) rfl)), rfl, hnm⟩) (hw _ (List.mem_of_getElem? (i := 2) rfl)) (ty := (.array .double)) (by decide) rfl rfl (g := (mkF m 15 #[.val (.ref a), .val (.int (2 : Int32))] [(.ref b1), (.ref a)])) rfl rfl (hb hby d1_15)
  have N0 := Fr.snoc X19 N0 ga
  have EA := EA.wr W19
  have F_dN_a := F_dN_a.other W19 (Or.inr (slot_ne (t := (.array .double)) (t' := (.array .double)) (Or.inr (hw _ (List.mem_of_getElem? (i := 12) rfl))) (Or.inr (hw _ (List.mem_of_getElem? (i := 14) rfl))) (by decide) (by decide) (by decide)))
  have F_dNdV_a := F_dNdV_a.same W19
  have F_dNAtFreeVolume_a := F_dNAtFreeVolume_a.other W19 (Or.inr (slot_ne (t := (.array .double)) (t' := (.array .double)) (Or.inr (hw _ (List.mem_of_getElem? (i := 16) rfl))) (Or.inr (hw _ (List.mem_of_getElem? (i := 14) rfl))) (by decide) (by decide) (by decide)))
  have F_value_a := F_value_a.other W19 (Or.inr (slot_ne (t := .double) (t' := (.array .double)) (Or.inl (hw _ (List.mem_of_getElem? (i := 43) rfl))) (Or.inr (hw _ (List.mem_of_getElem? (i := 14) rfl))) (by decide) (by decide) (by decide)))
  have F_dV_a := F_dV_a.other W19 (Or.inr (slot_ne (t := .double) (t' := (.array .double)) (Or.inl (hw _ (List.mem_of_getElem? (i := 50) rfl))) (Or.inr (hw _ (List.mem_of_getElem? (i := 14) rfl))) (by decide) (by decide) (by decide)))
  have V_b0 := V_b0.other W19 (Ne.symm ne_a_b0)
  have V_b1 := V_b1.other W19 (Ne.symm ne_a_b1)
  have Z0 := Nat.le_trans Z0 (Nat.le_of_eq W19.size.symm)
  have K0 := K0.wr W19 (Or.inl (List.mem_singleton.mpr rfl))
  refine Goes.by (T' := T19) (g' := (mkF m 18 #[.val (.ref a), .val (.int (2 : Int32))] [])) st19 ?_
  refine Goes.by (T' := T19) (g' := (mkF m 19 #[.val (.ref a), .val (.int (2 : Int32))] [(.ref a)])) (fun _ k => XS.aloadN X19.here hx rfl (hb hby d1_18) rfl rfl k) ?_
  refine Goes.by (T' := T19) (g' := (mkF m 20 #[.val (.ref a), .val (.int (2 : Int32))] [(.int (2 : Int32)), (.ref a)])) (fun _ k => XS.iloadN X19.here hx rfl (hb hby d1_19) rfl k) ?_
  obtain ⟨T20, h20, k20, X20, e20, E20, A20, st20⟩ := newP X19 hx hZ (hw _ (List.mem_of_getElem? (i := 10) rfl)) e19 (g := (mkF m 20 #[.val (.ref a), .val (.int (2 : Int32))] [(.int (2 : Int32)), (.ref a)])) rfl (hb hby d1_20) rfl (by decide) (cap := 2) (by decide) (by decide) (by decide) (by decide)
  obtain ⟨b2, g20⟩ : ∃ z, z = h19.size := ⟨_, rfl⟩
  rw [← g20] at A20 st20
  have ne_a_b2 : a ≠ b2 := fun q => Nat.lt_irrefl _ (Nat.lt_of_lt_of_eq EA.lt (g20.symm.trans q.symm))
  have ne_b0_b2 : b0 ≠ b2 := fun q => Nat.lt_irrefl _ (Nat.lt_of_lt_of_eq V_b0.lt (g20.symm.trans q.symm))
  have ne_b1_b2 : b1 ≠ b2 := fun q => Nat.lt_irrefl _ (Nat.lt_of_lt_of_eq V_b1.lt (g20.symm.trans q.symm))
  have ge_b2 : n0 ≤ b2 := Nat.le_trans Z0 (Nat.le_of_eq g20.symm)
  have sz_b2 : h0.size ≤ b2 := Nat.le_trans K0.1 (Nat.le_of_eq g20.symm)
  have EA := EA.ext E20
  have F_dN_a := F_dN_a.ext E20
  have F_dNdV_a := F_dNdV_a.ext E20
  have F_dNAtFreeVolume_a := F_dNAtFreeVolume_a.ext E20
  have F_value_a := F_value_a.ext E20
  have F_dV_a := F_dV_a.ext E20
  have V_b0 := V_b0.ext E20
  have V_b1 := V_b1.ext E20
  have Z0 := Nat.le_trans Z0 E20.1
  have K0 := K0.ext E20
  have V_b2 : Sar Z h20 b2 .double [(.double (0 : UInt64)), (.double (0 : UInt64))] := Sar.new (n := 2) A20 (by decide)
  refine Goes.by (T' := T20) (g' := (mkF m 22 #[.val (.ref a), .val (.int (2 : Int32))] [(.ref b2), (.ref a)])) st20 ?_
  obtain ⟨T21, h21, X21, e21, W21, st21⟩ := putF X20 hx hZ hown (host := "") (Or.inl (hw _ (List.mem_of_getElem? (i := 15) rfl))) Via.refl e20 F_dNAtFreeVolume_a EA (Or.inr ⟨(hw _ (List.mem_of_getElem? (i := 16) rfl)), rfl, hnm⟩) (hw _ (List.mem_of_getElem? (i := 2) rfl)) (ty := (.array .double)) (by decide) rfl rfl (g := (mkF m 22 #[.val (.ref a), .val (.int (2 : Int32))] [(.ref b2), (.ref a)])) rfl rfl (hb hby d1_22)
  have N0 := Fr.snoc X21 N0 ga
  have EA := EA.wr W21
  have F_dN_a := F_dN_a.other W21 (Or.inr (slot_ne (t := (.array .double)) (t' := (.array .double)) (Or.inr (hw _ (List.mem_of_getElem? (i := 12) rfl))) (Or.inr (hw _ (List.mem_of_getElem? (i := 16) rfl))) (by decide) (by decide) (by decide)))
  have F_dNdV_a := F_dNdV_a.other W21 (Or.inr (slot_ne (t := (.array .double)) (t' := (.array .double)) (Or.inr (hw _ (List.mem_of_getElem? (i := 14) rfl))) (Or.inr (hw _ (List.mem_of_getElem? (i := 16) rfl))) (by decide) (by decide) (by decide)))
  have F_dNAtFreeVolume_a := F_dNAtFreeVolume_a.same W21
  have F_value_a := F_value_a.other W21 (Or.inr (slot_ne (t := .double) (t' := (.array .double)) (Or.inl (hw _ (List.mem_of_getElem? (i := 43) rfl))) (Or.inr (hw _ (List.mem_of_getElem? (i := 16) rfl))) (by decide) (by decide) (by decide)))
  have F_dV_a := F_dV_a.other W21 (Or.inr (slot_ne (t := .double) (t' := (.array .double)) (Or.inl (hw _ (List.mem_of_getElem? (i := 50) rfl))) (Or.inr (hw _ (List.mem_of_getElem? (i := 16) rfl))) (by decide) (by decide) (by decide)))
  have V_b0 := V_b0.other W21 (Ne.symm ne_a_b0)
  have V_b1 := V_b1.other W21 (Ne.symm ne_a_b1)
  have V_b2 := V_b2.other W21 (Ne.symm ne_a_b2)
  have Z0 := Nat.le_trans Z0 (Nat.le_of_eq W21.size.symm)
  have K0 := K0.wr W21 (Or.inl (List.mem_singleton.mpr rfl))
  refine Goes.by (T' := T21) (g' := (mkF m 25 #[.val (.ref a), .val (.int (2 : Int32))] [])) st21 ?_
  exact outV X21 hx hlk hret (hb hby d1_25) (by rw [e21]; exact ⟨rfl, ⟨b0, b1, b2, sz_b0, sz_b1, sz_b2, F_dN_a, F_dNdV_a, F_dNAtFreeVolume_a, F_value_a, F_dV_a, V_b0, V_b1, V_b2, ne_b0_b1, ne_b0_b2, ne_b1_b2⟩, K0, N0⟩) (by decide) (by decide)
theorem ef_rm_init1 (m : MethodId) (x0 : Addr) (x1 : Int32) : entryFrame m #[(.ref x0), (.int x1)] 2 = mkF m 0 #[.val (.ref x0), .val (.int x1)] [] := by first | (simp [entryFrame, mkF, argsToLocals, Value.category, maxLocals]; done) | rfl
set_option maxRecDepth 65536 in
set_option maxHeartbeats 40000000 in
theorem rm_init1 (l : Launch) (Z : State) (a0 : Array Value) (hw : ∀ d ∈ tables_1, d.before a0 Z = true) (a : Addr) (h0 : Heap) (n0 : Nat) (Z0 : n0 ≤ h0.size) (EA : Exa Z h0 a "com/example/brinewright/brinewright/ResidualHelmholtz") (F_dN_a : Fld Z h0 a "com/example/brinewright/brinewright/ResidualHelmholtz" "dN" "[D" .null) (F_dNdV_a : Fld Z h0 a "com/example/brinewright/brinewright/ResidualHelmholtz" "dNdV" "[D" .null) (F_dNAtFreeVolume_a : Fld Z h0 a "com/example/brinewright/brinewright/ResidualHelmholtz" "dNAtFreeVolume" "[D" .null) (F_value_a : Fld Z h0 a "com/example/brinewright/brinewright/ResidualHelmholtz" "value" "D" (.double (0 : UInt64))) (F_dV_a : Fld Z h0 a "com/example/brinewright/brinewright/ResidualHelmholtz" "dV" "D" (.double (0 : UInt64))) (ga : n0 ≤ a) :
    Does l (⟨"com/example/brinewright/brinewright/ResidualHelmholtz", "<init>", "(I)V"⟩ : MethodName) prog_47_method_1_code 2 none [] ({ frames := 1, cells := 3, slots := 12, locals := 12 } : Room) Z #[(.ref a), (.int (1 : Int32))] h0 (fun v h L => v = none ∧ (∃ b0 b1 b2, h0.size ≤ b0 ∧ h0.size ≤ b1 ∧ h0.size ≤ b2 ∧ Fld Z h a "com/example/brinewright/brinewright/ResidualHelmholtz" "dN" "[D" (.ref b0) ∧ Fld Z h a "com/example/brinewright/brinewright/ResidualHelmholtz" "dNdV" "[D" (.ref b1) ∧ Fld Z h a "com/example/brinewright/brinewright/ResidualHelmholtz" "dNAtFreeVolume" "[D" (.ref b2) ∧ Fld Z h a "com/example/brinewright/brinewright/ResidualHelmholtz" "value" "D" (.double (0 : UInt64)) ∧ Fld Z h a "com/example/brinewright/brinewright/ResidualHelmholtz" "dV" "D" (.double (0 : UInt64)) ∧ Sar Z h b0 .double (List.replicate 1 (Value.double (0 : UInt64))) ∧ Sar Z h b1 .double (List.replicate 1 (Value.double (0 : UInt64))) ∧ Sar Z h b2 .double (List.replicate 1 (Value.double (0 : UInt64))) ∧ b0 ≠ b1 ∧ b0 ≠ b2 ∧ b1 ≠ b2) ∧ Keep h0 h [a] ∧ Fr n0 L) := by
  refine Does.of (plainFor_of_name pn0) ?_
  intro p e s m below meth c s₁ hx hby hml hret hlk hZ hown hnm X0 e0
  have N0 := Fr.nil n0
  refine Goes.cast (g' := mkF m 0 #[.val (.ref a), .val (.int (1 : Int32))] []) (ef_rm_init1 m a (1 : Int32)) ?_
  have K0 := Keep.refl h0 [a]
  refine Goes.by (T' := s₁) (g' := (mkF m 1 #[.val (.ref a), .val (.int (1 : Int32))] [(.ref a)])) (fun _ k => XS.aloadN X0.here hx rfl (hb hby d1_0) rfl rfl k) ?_
  obtain ⟨T22, X22, e22, st22⟩ := initO X0 hx hZ hown (hw _ (List.mem_of_getElem? (i := 7) rfl)) (hw _ (List.mem_of_getElem? (i := 8) rfl)) (hw _ (List.mem_of_getElem? (i := 9) rfl)) e0 (g := (mkF m 1 #[.val (.ref a), .val (.int (1 : Int32))] [(.ref a)])) rfl (by rw [hml]; rfl) rfl (hb hby d1_1) (by decide) (W := 0) (by show 2 * 0 + _ ≤ _; exact Nat.le_of_eq rfl) (by decide)
  refine Goes.by (T' := T22) (g' := (mkF m 4 #[.val (.ref a), .val (.int (1 : Int32))] [])) st22 ?_
  refine Goes.by (T' := T22) (g' := (mkF m 5 #[.val (.ref a), .val (.int (1 : Int32))] [(.ref a)])) (fun _ k => XS.aloadN X22.here hx rfl (hb hby d1_4) rfl rfl k) ?_
  refine Goes.by (T' := T22) (g' := (mkF m 6 #[.val (.ref a), .val (.int (1 : Int32))] [(.int (1 : Int32)), (.ref a)])) (fun _ k => XS.iloadN X22.here hx rfl (hb hby d1_5) rfl k) ?_
  obtain ⟨T23, h23, k23, X23, e23, E23, A23, st23⟩ := newP X22 hx hZ (hw _ (List.mem_of_getElem? (i := 10) rfl)) e22 (g := (mkF m 6 #[.val (.ref a), .val (.int (1 : Int32))] [(.int (1 : Int32)), (.ref a)])) rfl (hb hby d1_6) rfl (by decide) (cap := 1) (by decide) (by decide) (by decide) (by decide)
  obtain ⟨b0, g23⟩ : ∃ z, z = h0.size := ⟨_, rfl⟩
  rw [← g23] at A23 st23
  have ne_a_b0 : a ≠ b0 := fun q => Nat.lt_irrefl _ (Nat.lt_of_lt_of_eq EA.lt (g23.symm.trans q.symm))
  have ge_b0 : n0 ≤ b0 := Nat.le_trans Z0 (Nat.le_of_eq g23.symm)
  have sz_b0 : h0.size ≤ b0 := Nat.le_trans K0.1 (Nat.le_of_eq g23.symm)
  have EA := EA.ext E23
  have F_dN_a := F_dN_a.ext E23
  have F_dNdV_a := F_dNdV_a.ext E23
  have F_dNAtFreeVolume_a := F_dNAtFreeVolume_a.ext E23
  have F_value_a := F_value_a.ext E23
  have F_dV_a := F_dV_a.ext E23
  have Z0 := Nat.le_trans Z0 E23.1
  have K0 := K0.ext E23
  have V_b0 : Sar Z h23 b0 .double [(.double (0 : UInt64))] := Sar.new (n := 1) A23 (by decide)
  refine Goes.by (T' := T23) (g' := (mkF m 8 #[.val (.ref a), .val (.int (1 : Int32))] [(.ref b0), (.ref a)])) st23 ?_
  obtain ⟨T24, h24, X24, e24, W24, st24⟩ := putF X23 hx hZ hown (host := "") (Or.inl (hw _ (List.mem_of_getElem? (i := 11) rfl))) Via.refl e23 F_dN_a EA (Or.inr ⟨(hw _ (List.mem_of_getElem? (i := 12) rfl)), rfl, hnm⟩) (hw _ (List.mem_of_getElem? (i := 2) rfl)) (ty := (.array .double)) (by decide) rfl rfl (g := (mkF m 8 #[.val (.ref a), .val (.int (1 : Int32))] [(.ref b0), (.ref a)])) rfl rfl (hb hby d1_8)
  have N0 := Fr.snoc X24 N0 ga
  have EA := EA.wr W24
  have F_dN_a := F_dN_a.same W24
  have F_dNdV_a := F_dNdV_a.other W24 (Or.inr (slot_ne (t := (.array .double)) (t' := (.array .double)) (Or.inr (hw _ (List.mem_of_getElem? (i := 14) rfl))) (Or.inr (hw _ (List.mem_of_getElem? (i := 12) rfl))) (by decide) (by decide) (by decide)))
  have F_dNAtFreeVolume_a := F_dNAtFreeVolume_a.other W24 (Or.inr (slot_ne (t := (.array .double)) (t' := (.array .double)) (Or.inr (hw _ (List.mem_of_getElem? (i := 16) rfl))) (Or.inr (hw _ (List.mem_of_getElem? (i := 12) rfl))) (by decide) (by decide) (by decide)))
  have F_value_a := F_value_a.other W24 (Or.inr (slot_ne (t := .double) (t' := (.array .double)) (Or.inl (hw _ (List.mem_of_getElem? (i := 43) rfl))) (Or.inr (hw _ (List.mem_of_getElem? (i := 12) rfl))) (by decide) (by decide) (by decide)))
  have F_dV_a := F_dV_a.other W24 (Or.inr (slot_ne (t := .double) (t' := (.array .double)) (Or.inl (hw _ (List.mem_of_getElem? (i := 50) rfl))) (Or.inr (hw _ (List.mem_of_getElem? (i := 12) rfl))) (by decide) (by decide) (by decide)))
  have V_b0 := V_b0.other W24 (Ne.symm ne_a_b0)
  have Z0 := Nat.le_trans Z0 (Nat.le_of_eq W24.size.symm)
  have K0 := K0.wr W24 (Or.inl (List.mem_singleton.mpr rfl))
  refine Goes.by (T' := T24) (g' := (mkF m 11 #[.val (.ref a), .val (.int (1 : Int32))] [])) st24 ?_
  refine Goes.by (T' := T24) (g' := (mkF m 12 #[.val (.ref a), .val (.int (1 : Int32))] [(.ref a)])) (fun _ k => XS.aloadN X24.here hx rfl (hb hby d1_11) rfl rfl k) ?_
  refine Goes.by (T' := T24) (g' := (mkF m 13 #[.val (.ref a), .val (.int (1 : Int32))] [(.int (1 : Int32)), (.ref a)])) (fun _ k => XS.iloadN X24.here hx rfl (hb hby d1_12) rfl k) ?_
  obtain ⟨T25, h25, k25, X25, e25, E25, A25, st25⟩ := newP X24 hx hZ (hw _ (List.mem_of_getElem? (i := 10) rfl)) e24 (g := (mkF m 13 #[.val (.ref a), .val (.int (1 : Int32))] [(.int (1 : Int32)), (.ref a)])) rfl (hb hby d1_13) rfl (by decide) (cap := 1) (by decide) (by decide) (by decide) (by decide)
  obtain ⟨b1, g25⟩ : ∃ z, z = h24.size := ⟨_, rfl⟩
  rw [← g25] at A25 st25
  have ne_a_b1 : a ≠ b1 := fun q => Nat.lt_irrefl _ (Nat.lt_of_lt_of_eq EA.lt (g25.symm.trans q.symm))
  have ne_b0_b1 : b0 ≠ b1 := fun q => Nat.lt_irrefl _ (Nat.lt_of_lt_of_eq V_b0.lt (g25.symm.trans q.symm))
  have ge_b1 : n0 ≤ b1 := Nat.le_trans Z0 (Nat.le_of_eq g25.symm)
  have sz_b1 : h0.size ≤ b1 := Nat.le_trans K0.1 (Nat.le_of_eq g25.symm)
  have EA := EA.ext E25
  have F_dN_a := F_dN_a.ext E25
  have F_dNdV_a := F_dNdV_a.ext E25
  have F_dNAtFreeVolume_a := F_dNAtFreeVolume_a.ext E25
  have F_value_a := F_value_a.ext E25
  have F_dV_a := F_dV_a.ext E25
  have V_b0 := V_b0.ext E25
  have Z0 := Nat.le_trans Z0 E25.1
  have K0 := K0.ext E25
  have V_b1 : Sar Z h25 b1 .double [(.double (0 : UInt64))] := Sar.new (n := 1) A25 (by decide)
  refine Goes.by (T' := T25) (g' := (mkF m 15 #[.val (.ref a), .val (.int (1 : Int32))] [(.ref b1), (.ref a)])) st25 ?_
  obtain ⟨T26, h26, X26, e26, W26, st26⟩ := putF X25 hx hZ hown (host := "") (Or.inl (hw _ (List.mem_of_getElem? (i := 13) rfl))) Via.refl e25 F_dNdV_a EA (Or.inr ⟨(hw _ (List.mem_of_getElem? (i := 14) rfl)), rfl, hnm⟩) (hw _ (List.mem_of_getElem? (i := 2) rfl)) (ty := (.array .double)) (by decide) rfl rfl (g := (mkF m 15 #[.val (.ref a), .val (.int (1 : Int32))] [(.ref b1), (.ref a)])) rfl rfl (hb hby d1_15)
  have N0 := Fr.snoc X26 N0 ga
  have EA := EA.wr W26
  have F_dN_a := F_dN_a.other W26 (Or.inr (slot_ne (t := (.array .double)) (t' := (.array .double)) (Or.inr (hw _ (List.mem_of_getElem? (i := 12) rfl))) (Or.inr (hw _ (List.mem_of_getElem? (i := 14) rfl))) (by decide) (by decide) (by decide)))
  have F_dNdV_a := F_dNdV_a.same W26
  have F_dNAtFreeVolume_a := F_dNAtFreeVolume_a.other W26 (Or.inr (slot_ne (t := (.array .double)) (t' := (.array .double)) (Or.inr (hw _ (List.mem_of_getElem? (i := 16) rfl))) (Or.inr (hw _ (List.mem_of_getElem? (i := 14) rfl))) (by decide) (by decide) (by decide)))
  have F_value_a := F_value_a.other W26 (Or.inr (slot_ne (t := .double) (t' := (.array .double)) (Or.inl (hw _ (List.mem_of_getElem? (i := 43) rfl))) (Or.inr (hw _ (List.mem_of_getElem? (i := 14) rfl))) (by decide) (by decide) (by decide)))
  have F_dV_a := F_dV_a.other W26 (Or.inr (slot_ne (t := .double) (t' := (.array .double)) (Or.inl (hw _ (List.mem_of_getElem? (i := 50) rfl))) (Or.inr (hw _ (List.mem_of_getElem? (i := 14) rfl))) (by decide) (by decide) (by decide)))
  have V_b0 := V_b0.other W26 (Ne.symm ne_a_b0)
  have V_b1 := V_b1.other W26 (Ne.symm ne_a_b1)
  have Z0 := Nat.le_trans Z0 (Nat.le_of_eq W26.size.symm)
  have K0 := K0.wr W26 (Or.inl (List.mem_singleton.mpr rfl))
  refine Goes.by (T' := T26) (g' := (mkF m 18 #[.val (.ref a), .val (.int (1 : Int32))] [])) st26 ?_
  refine Goes.by (T' := T26) (g' := (mkF m 19 #[.val (.ref a), .val (.int (1 : Int32))] [(.ref a)])) (fun _ k => XS.aloadN X26.here hx rfl (hb hby d1_18) rfl rfl k) ?_
  refine Goes.by (T' := T26) (g' := (mkF m 20 #[.val (.ref a), .val (.int (1 : Int32))] [(.int (1 : Int32)), (.ref a)])) (fun _ k => XS.iloadN X26.here hx rfl (hb hby d1_19) rfl k) ?_
  obtain ⟨T27, h27, k27, X27, e27, E27, A27, st27⟩ := newP X26 hx hZ (hw _ (List.mem_of_getElem? (i := 10) rfl)) e26 (g := (mkF m 20 #[.val (.ref a), .val (.int (1 : Int32))] [(.int (1 : Int32)), (.ref a)])) rfl (hb hby d1_20) rfl (by decide) (cap := 1) (by decide) (by decide) (by decide) (by decide)
  obtain ⟨b2, g27⟩ : ∃ z, z = h26.size := ⟨_, rfl⟩
  rw [← g27] at A27 st27
  have ne_a_b2 : a ≠ b2 := fun q => Nat.lt_irrefl _ (Nat.lt_of_lt_of_eq EA.lt (g27.symm.trans q.symm))
  have ne_b0_b2 : b0 ≠ b2 := fun q => Nat.lt_irrefl _ (Nat.lt_of_lt_of_eq V_b0.lt (g27.symm.trans q.symm))
  have ne_b1_b2 : b1 ≠ b2 := fun q => Nat.lt_irrefl _ (Nat.lt_of_lt_of_eq V_b1.lt (g27.symm.trans q.symm))
  have ge_b2 : n0 ≤ b2 := Nat.le_trans Z0 (Nat.le_of_eq g27.symm)
  have sz_b2 : h0.size ≤ b2 := Nat.le_trans K0.1 (Nat.le_of_eq g27.symm)
  have EA := EA.ext E27
  have F_dN_a := F_dN_a.ext E27
  have F_dNdV_a := F_dNdV_a.ext E27
  have F_dNAtFreeVolume_a := F_dNAtFreeVolume_a.ext E27
  have F_value_a := F_value_a.ext E27
  have F_dV_a := F_dV_a.ext E27
  have V_b0 := V_b0.ext E27
  have V_b1 := V_b1.ext E27
  have Z0 := Nat.le_trans Z0 E27.1
  have K0 := K0.ext E27
  have V_b2 : Sar Z h27 b2 .double [(.double (0 : UInt64))] := Sar.new (n := 1) A27 (by decide)
  refine Goes.by (T' := T27) (g' := (mkF m 22 #[.val (.ref a), .val (.int (1 : Int32))] [(.ref b2), (.ref a)])) st27 ?_
  obtain ⟨T28, h28, X28, e28, W28, st28⟩ := putF X27 hx hZ hown (host := "") (Or.inl (hw _ (List.mem_of_getElem? (i := 15) rfl))) Via.refl e27 F_dNAtFreeVolume_a EA (Or.inr ⟨(hw _ (List.mem_of_getElem? (i := 16) rfl)), rfl, hnm⟩) (hw _ (List.mem_of_getElem? (i := 2) rfl)) (ty := (.array .double)) (by decide) rfl rfl (g := (mkF m 22 #[.val (.ref a), .val (.int (1 : Int32))] [(.ref b2), (.ref a)])) rfl rfl (hb hby d1_22)
  have N0 := Fr.snoc X28 N0 ga
  have EA := EA.wr W28
  have F_dN_a := F_dN_a.other W28 (Or.inr (slot_ne (t := (.array .double)) (t' := (.array .double)) (Or.inr (hw _ (List.mem_of_getElem? (i := 12) rfl))) (Or.inr (hw _ (List.mem_of_getElem? (i := 16) rfl))) (by decide) (by decide) (by decide)))
  have F_dNdV_a := F_dNdV_a.other W28 (Or.inr (slot_ne (t := (.array .double)) (t' := (.array .double)) (Or.inr (hw _ (List.mem_of_getElem? (i := 14) rfl))) (Or.inr (hw _ (List.mem_of_getElem? (i := 16) rfl))) (by decide) (by decide) (by decide)))
  have F_dNAtFreeVolume_a := F_dNAtFreeVolume_a.same W28
  have F_value_a := F_value_a.other W28 (Or.inr (slot_ne (t := .double) (t' := (.array .double)) (Or.inl (hw _ (List.mem_of_getElem? (i := 43) rfl))) (Or.inr (hw _ (List.mem_of_getElem? (i := 16) rfl))) (by decide) (by decide) (by decide)))
  have F_dV_a := F_dV_a.other W28 (Or.inr (slot_ne (t := .double) (t' := (.array .double)) (Or.inl (hw _ (List.mem_of_getElem? (i := 50) rfl))) (Or.inr (hw _ (List.mem_of_getElem? (i := 16) rfl))) (by decide) (by decide) (by decide)))
  have V_b0 := V_b0.other W28 (Ne.symm ne_a_b0)
  have V_b1 := V_b1.other W28 (Ne.symm ne_a_b1)
  have V_b2 := V_b2.other W28 (Ne.symm ne_a_b2)
  have Z0 := Nat.le_trans Z0 (Nat.le_of_eq W28.size.symm)
  have K0 := K0.wr W28 (Or.inl (List.mem_singleton.mpr rfl))
  refine Goes.by (T' := T28) (g' := (mkF m 25 #[.val (.ref a), .val (.int (1 : Int32))] [])) st28 ?_
  exact outV X28 hx hlk hret (hb hby d1_25) (by rw [e28]; exact ⟨rfl, ⟨b0, b1, b2, sz_b0, sz_b1, sz_b2, F_dN_a, F_dNdV_a, F_dNAtFreeVolume_a, F_value_a, F_dV_a, V_b0, V_b1, V_b2, ne_b0_b1, ne_b0_b2, ne_b1_b2⟩, K0, N0⟩) (by decide) (by decide)
theorem rm_init (l : Launch) (Z : State) (a0 : Array Value) (hw : ∀ d ∈ tables_1, d.before a0 Z = true) (a : Addr) (n : Int32) (nn : Nat) (h0 : Heap) (n0 : Nat) (Z0 : n0 ≤ h0.size) (hn : n = 1 ∨ n = 2 ∨ n = 3 ∨ n = 4) (hnn : n.toInt = nn) (EA : Exa Z h0 a "com/example/brinewright/brinewright/ResidualHelmholtz") (F_dN_a : Fld Z h0 a "com/example/brinewright/brinewright/ResidualHelmholtz" "dN" "[D" .null) (F_dNdV_a : Fld Z h0 a "com/example/brinewright/brinewright/ResidualHelmholtz" "dNdV" "[D" .null) (F_dNAtFreeVolume_a : Fld Z h0 a "com/example/brinewright/brinewright/ResidualHelmholtz" "dNAtFreeVolume" "[D" .null) (F_value_a : Fld Z h0 a "com/example/brinewright/brinewright/ResidualHelmholtz" "value" "D" (.double (0 : UInt64))) (F_dV_a : Fld Z h0 a "com/example/brinewright/brinewright/ResidualHelmholtz" "dV" "D" (.double (0 : UInt64))) (ga : n0 ≤ a) :
    Does l (⟨"com/example/brinewright/brinewright/ResidualHelmholtz", "<init>", "(I)V"⟩ : MethodName) prog_47_method_1_code 2 none [] ({ frames := 1, cells := 3, slots := 12, locals := 12 } : Room) Z #[(.ref a), (.int n)] h0 (fun v h L => v = none ∧ (∃ b0 b1 b2, h0.size ≤ b0 ∧ h0.size ≤ b1 ∧ h0.size ≤ b2 ∧ Fld Z h a "com/example/brinewright/brinewright/ResidualHelmholtz" "dN" "[D" (.ref b0) ∧ Fld Z h a "com/example/brinewright/brinewright/ResidualHelmholtz" "dNdV" "[D" (.ref b1) ∧ Fld Z h a "com/example/brinewright/brinewright/ResidualHelmholtz" "dNAtFreeVolume" "[D" (.ref b2) ∧ Fld Z h a "com/example/brinewright/brinewright/ResidualHelmholtz" "value" "D" (.double (0 : UInt64)) ∧ Fld Z h a "com/example/brinewright/brinewright/ResidualHelmholtz" "dV" "D" (.double (0 : UInt64)) ∧ Sar Z h b0 .double (List.replicate nn (Value.double (0 : UInt64))) ∧ Sar Z h b1 .double (List.replicate nn (Value.double (0 : UInt64))) ∧ Sar Z h b2 .double (List.replicate nn (Value.double (0 : UInt64))) ∧ b0 ≠ b1 ∧ b0 ≠ b2 ∧ b1 ≠ b2) ∧ Keep h0 h [a] ∧ Fr n0 L) := by
  rcases hn with hn | hn | hn | hn <;> subst hn
  · have e : (1 : Int32).toInt = 1 := by decide
    have q : nn = 1 := by omega
    subst q; exact rm_init1 l Z a0 hw a h0 n0 Z0 EA F_dN_a F_dNdV_a F_dNAtFreeVolume_a F_value_a F_dV_a ga
  · have e : (2 : Int32).toInt = 2 := by decide
    have q : nn = 2 := by omega
    subst q; exact rm_init2 l Z a0 hw a h0 n0 Z0 EA F_dN_a F_dNdV_a F_dNAtFreeVolume_a F_value_a F_dV_a ga
  · have e : (3 : Int32).toInt = 3 := by decide
    have q : nn = 3 := by omega
    subst q; exact rm_init3 l Z a0 hw a h0 n0 Z0 EA F_dN_a F_dNdV_a F_dNAtFreeVolume_a F_value_a F_dV_a ga
  · have e : (4 : Int32).toInt = 4 := by decide
    have q : nn = 4 := by omega
    subst q; exact rm_init4 l Z a0 hw a h0 n0 Z0 EA F_dN_a F_dNdV_a F_dNAtFreeVolume_a F_value_a F_dV_a ga
theorem d3_0 : decode prog_47_method_3_code 0 = .ok (.aload_n 0, 1) := by decide +kernel
theorem d3_1 : decode prog_47_method_3_code 1 = .ok (.getfield 7, 3) := by decide +kernel
theorem d3_4 : decode prog_47_method_3_code 4 = .ok (.iload_n 1, 1) := by decide +kernel
theorem d3_5 : decode prog_47_method_3_code 5 = .ok (.dup2, 1) := by decide +kernel
theorem d3_6 : decode prog_47_method_3_code 6 = .ok (.daload, 1) := by decide +kernel
theorem d3_7 : decode prog_47_method_3_code 7 = .ok (.dload_n 2, 1) := by decide +kernel
theorem d3_8 : decode prog_47_method_3_code 8 = .ok (.dadd, 1) := by decide +kernel
theorem d3_9 : decode prog_47_method_3_code 9 = .ok (.dastore, 1) := by decide +kernel
theorem d3_10 : decode prog_47_method_3_code 10 = .ok (.aload_n 0, 1) := by decide +kernel
theorem d3_11 : decode prog_47_method_3_code 11 = .ok (.getfield 13, 3) := by decide +kernel
theorem d3_14 : decode prog_47_method_3_code 14 = .ok (.iload_n 1, 1) := by decide +kernel
theorem d3_15 : decode prog_47_method_3_code 15 = .ok (.dup2, 1) := by decide +kernel
theorem d3_16 : decode prog_47_method_3_code 16 = .ok (.daload, 1) := by decide +kernel
theorem d3_17 : decode prog_47_method_3_code 17 = .ok (.dload 4, 2) := by decide +kernel
theorem d3_19 : decode prog_47_method_3_code 19 = .ok (.dadd, 1) := by decide +kernel
theorem d3_20 : decode prog_47_method_3_code 20 = .ok (.dastore, 1) := by decide +kernel
theorem d3_21 : decode prog_47_method_3_code 21 = .ok (.aload_n 0, 1) := by decide +kernel
theorem d3_22 : decode prog_47_method_3_code 22 = .ok (.getfield 16, 3) := by decide +kernel
theorem d3_25 : decode prog_47_method_3_code 25 = .ok (.iload_n 1, 1) := by decide +kernel
theorem d3_26 : decode prog_47_method_3_code 26 = .ok (.dup2, 1) := by decide +kernel
theorem d3_27 : decode prog_47_method_3_code 27 = .ok (.daload, 1) := by decide +kernel
theorem d3_28 : decode prog_47_method_3_code 28 = .ok (.dload 6, 2) := by decide +kernel
theorem d3_30 : decode prog_47_method_3_code 30 = .ok (.dadd, 1) := by decide +kernel
theorem d3_31 : decode prog_47_method_3_code 31 = .ok (.dastore, 1) := by decide +kernel
theorem d3_32 : decode prog_47_method_3_code 32 = .ok (.return_, 1) := by decide +kernel
theorem pd1 : parseMethodDescriptor "(IDDD)V" = some ⟨[.int, .double, .double, .double], none⟩ := by decide +kernel
theorem ef_rm_add (m : MethodId) (x0 : Addr) (x1 : Int32) (x2 : UInt64) (x3 : UInt64) (x4 : UInt64) : entryFrame m #[(.ref x0), (.int x1), (.double x2), (.double x3), (.double x4)] 8 = mkF m 0 #[.val (.ref x0), .val (.int x1), .val (.double x2), .second, .val (.double x3), .second, .val (.double x4), .second] [] := by first | (simp [entryFrame, mkF, argsToLocals, Value.category, maxLocals]; done) | rfl
set_option maxRecDepth 65536 in
set_option maxHeartbeats 40000000 in
theorem rm_add (l : Launch) (Z : State) (a0 : Array Value) (hw : ∀ d ∈ tables_1, d.before a0 Z = true) (a b0 b1 b2 : Addr) (ix : Int32) (k : Nat) (us0 us1 us2 : List Value) (u0 u1 u2 v0 v1 v2 : UInt64) (i0 i1 i2 j0 j1 j2 : Int) (h0 : Heap) (n0 : Nat) (Z0 : n0 ≤ h0.size) (F_dN_a : Fld Z h0 a "com/example/brinewright/brinewright/ResidualHelmholtz" "dN" "[D" (.ref b0)) (F_dNdV_a : Fld Z h0 a "com/example/brinewright/brinewright/ResidualHelmholtz" "dNdV" "[D" (.ref b1)) (F_dNAtFreeVolume_a : Fld Z h0 a "com/example/brinewright/brinewright/ResidualHelmholtz" "dNAtFreeVolume" "[D" (.ref b2)) (V0 : Sar Z h0 b0 .double us0) (hu0 : us0[k]? = some (.double u0)) (na0 : a ≠ b0) (g0 : n0 ≤ b0) (V1 : Sar Z h0 b1 .double us1) (hu1 : us1[k]? = some (.double u1)) (na1 : a ≠ b1) (g1 : n0 ≤ b1) (V2 : Sar Z h0 b2 .double us2) (hu2 : us2[k]? = some (.double u2)) (na2 : a ≠ b2) (g2 : n0 ≤ b2) (n01 : b0 ≠ b1) (n02 : b0 ≠ b2) (n12 : b1 ≠ b2) (hk : ix.toInt = k) (I0 : Core.DInt i0 u0) (J0 : Core.DInt j0 v0) (bi0 : i0.natAbs ≤ 4294967296) (bj0 : j0.natAbs ≤ 4294967296) (I1 : Core.DInt i1 u1) (J1 : Core.DInt j1 v1) (bi1 : i1.natAbs ≤ 4294967296) (bj1 : j1.natAbs ≤ 4294967296) (I2 : Core.DInt i2 u2) (J2 : Core.DInt j2 v2) (bi2 : i2.natAbs ≤ 4294967296) (bj2 : j2.natAbs ≤ 4294967296)  :
    Does l (⟨"com/example/brinewright/brinewright/ResidualHelmholtz", "addComponent", "(IDDD)V"⟩ : MethodName) prog_47_method_3_code 8 none [] ({ frames := 0, cells := 0, slots := 0, locals := 0 } : Room) Z #[(.ref a), (.int ix), (.double v0), (.double v1), (.double v2)] h0 (fun v h L => v = none ∧ (∃ s0 s1 s2, Core.DInt (i0 + j0) s0 ∧ Core.DInt (i1 + j1) s1 ∧ Core.DInt (i2 + j2) s2 ∧ Sar Z h b0 .double (us0.set k (.double s0)) ∧ Sar Z h b1 .double (us1.set k (.double s1)) ∧ Sar Z h b2 .double (us2.set k (.double s2))) ∧ Keep h0 h [b0, b1, b2] ∧ Fr n0 L) := by
  refine Does.of (plainFor_of_name pn0) ?_
  intro p e s m below meth c s₁ hx hby hml hret hlk hZ hown hnm X0 e0
  have N0 := Fr.nil n0
  refine Goes.cast (g' := mkF m 0 #[.val (.ref a), .val (.int ix), .val (.double v0), .second, .val (.double v1), .second, .val (.double v2), .second] []) (ef_rm_add m a ix v0 v1 v2) ?_
  have K0 := Keep.refl h0 [b0, b1, b2]
  refine Goes.by (T' := s₁) (g' := (mkF m 1 #[.val (.ref a), .val (.int ix), .val (.double v0), .second, .val (.double v1), .second, .val (.double v2), .second] [(.ref a)])) (fun _ k => XS.aloadN X0.here hx rfl (hb hby d3_0) rfl rfl k) ?_
  obtain ⟨T29, X29, e29, st29⟩ := getF X0 hx hZ hown (host := "") (Or.inl (hw _ (List.mem_of_getElem? (i := 11) rfl))) Via.refl e0 F_dN_a (g := (mkF m 1 #[.val (.ref a), .val (.int ix), .val (.double v0), .second, .val (.double v1), .second, .val (.double v2), .second] [(.ref a)])) rfl rfl (hb hby d3_1)
  refine Goes.by (T' := T29) (g' := (mkF m 4 #[.val (.ref a), .val (.int ix), .val (.double v0), .second, .val (.double v1), .second, .val (.double v2), .second] [(.ref b0)])) st29 ?_
  refine Goes.by (T' := T29) (g' := (mkF m 5 #[.val (.ref a), .val (.int ix), .val (.double v0), .second, .val (.double v1), .second, .val (.double v2), .second] [(.int ix), (.ref b0)])) (fun _ k => XS.iloadN X29.here hx rfl (hb hby d3_4) rfl k) ?_
  refine Goes.by (T' := T29) (g' := (mkF m 6 #[.val (.ref a), .val (.int ix), .val (.double v0), .second, .val (.double v1), .second, .val (.double v2), .second] [(.int ix), (.ref b0), (.int ix), (.ref b0)])) (fun _ k => XT.dup2 X29.here hx rfl (hb hby d3_5) rfl rfl rfl k) ?_
  refine Goes.by (T' := T29) (g' := (mkF m 7 #[.val (.ref a), .val (.int ix), .val (.double v0), .second, .val (.double v1), .second, .val (.double v2), .second] [(.double u0), (.int ix), (.ref b0)])) (ldDS X29 hx hZ e29 V0 (v := (.double u0)) (j := ix) k hk hu0 (g := (mkF m 6 #[.val (.ref a), .val (.int ix), .val (.double v0), .second, .val (.double v1), .second, .val (.double v2), .second] [(.int ix), (.ref b0), (.int ix), (.ref b0)])) rfl rfl (hb hby d3_6)) ?_
  refine Goes.by (T' := T29) (g' := (mkF m 8 #[.val (.ref a), .val (.int ix), .val (.double v0), .second, .val (.double v1), .second, .val (.double v2), .second] [(.double v0), (.double u0), (.int ix), (.ref b0)])) (fun _ k => XS.dloadN X29.here hx rfl (hb hby d3_7) rfl k) ?_
  obtain ⟨s0, q_s0⟩ : ∃ zz, FP.dadd u0 v0 = zz := ⟨_, rfl⟩
  have DS0 := DInt_add q_s0 I0 J0 (by omega)
  refine Goes.by (T' := T29) (g' := (mkF m 9 #[.val (.ref a), .val (.int ix), .val (.double v0), .second, .val (.double v1), .second, .val (.double v2), .second] [(.double s0), (.int ix), (.ref b0)])) (fun _ k => XS.daddS X29.here hx rfl (hb hby d3_8) rfl (by rw [q_s0]; exact DInt_nn DS0) q_s0 k) ?_
  obtain ⟨T30, h30, X30, e30, W30, V30, st30⟩ := stDS X29 hx hZ e29 V0 (j := ix) k hk (List.getElem?_eq_some_iff.mp hu0).1 (g := (mkF m 9 #[.val (.ref a), .val (.int ix), .val (.double v0), .second, .val (.double v1), .second, .val (.double v2), .second] [(.double s0), (.int ix), (.ref b0)])) rfl rfl (hb hby d3_9)
  have N0 := Fr.snoc X30 N0 g0
  have F_dN_a := F_dN_a.other W30 (Or.inl na0)
  have F_dNdV_a := F_dNdV_a.other W30 (Or.inl na0)
  have V1 := V1.other W30 (Ne.symm n01)
  have F_dNAtFreeVolume_a := F_dNAtFreeVolume_a.other W30 (Or.inl na0)
  have V2 := V2.other W30 (Ne.symm n02)
  have Z0 := Nat.le_trans Z0 (Nat.le_of_eq W30.size.symm)
  have K0 := K0.wr W30 (Or.inl (by simp))
  have V0 : Sar Z h30 b0 .double (us0.set k (.double s0)) := V30
  refine Goes.by (T' := T30) (g' := (mkF m 10 #[.val (.ref a), .val (.int ix), .val (.double v0), .second, .val (.double v1), .second, .val (.double v2), .second] [])) st30 ?_
  refine Goes.by (T' := T30) (g' := (mkF m 11 #[.val (.ref a), .val (.int ix), .val (.double v0), .second, .val (.double v1), .second, .val (.double v2), .second] [(.ref a)])) (fun _ k => XS.aloadN X30.here hx rfl (hb hby d3_10) rfl rfl k) ?_
  obtain ⟨T31, X31, e31, st31⟩ := getF X30 hx hZ hown (host := "") (Or.inl (hw _ (List.mem_of_getElem? (i := 13) rfl))) Via.refl e30 F_dNdV_a (g := (mkF m 11 #[.val (.ref a), .val (.int ix), .val (.double v0), .second, .val (.double v1), .second, .val (.double v2), .second] [(.ref a)])) rfl rfl (hb hby d3_11)
  refine Goes.by (T' := T31) (g' := (mkF m 14 #[.val (.ref a), .val (.int ix), .val (.double v0), .second, .val (.double v1), .second, .val (.double v2), .second] [(.ref b1)])) st31 ?_
  refine Goes.by (T' := T31) (g' := (mkF m 15 #[.val (.ref a), .val (.int ix), .val (.double v0), .second, .val (.double v1), .second, .val (.double v2), .second] [(.int ix), (.ref b1)])) (fun _ k => XS.iloadN X31.here hx rfl (hb hby d3_14) rfl k) ?_
  refine Goes.by (T' := T31) (g' := (mkF m 16 #[.val (.ref a), .val (.int ix), .val (.double v0), .second, .val (.double v1), .second, .val (.double v2), .second] [(.int ix), (.ref b1), (.int ix), (.ref b1)])) (fun _ k => XT.dup2 X31.here hx rfl (hb hby d3_15) rfl rfl rfl k) ?_
  refine Goes.by (T' := T31) (g' := (mkF m 17 #[.val (.ref a), .val (.int ix), .val (.double v0), .second, .val (.double v1), .second, .val (.double v2), .second] [(.double u1), (.int ix), (.ref b1)])) (ldDS X31 hx hZ e31 V1 (v := (.double u1)) (j := ix) k hk hu1 (g := (mkF m 16 #[.val (.ref a), .val (.int ix), .val (.double v0), .second, .val (.double v1), .second, .val (.double v2), .second] [(.int ix), (.ref b1), (.int ix), (.ref b1)])) rfl rfl (hb hby d3_16)) ?_
  refine Goes.by (T' := T31) (g' := (mkF m 19 #[.val (.ref a), .val (.int ix), .val (.double v0), .second, .val (.double v1), .second, .val (.double v2), .second] [(.double v1), (.double u1), (.int ix), (.ref b1)])) (fun _ k => XS.dload X31.here hx rfl (hb hby d3_17) rfl k) ?_
  obtain ⟨s1, q_s1⟩ : ∃ zz, FP.dadd u1 v1 = zz := ⟨_, rfl⟩
  have DS1 := DInt_add q_s1 I1 J1 (by omega)
  refine Goes.by (T' := T31) (g' := (mkF m 20 #[.val (.ref a), .val (.int ix), .val (.double v0), .second, .val (.double v1), .second, .val (.double v2), .second] [(.double s1), (.int ix), (.ref b1)])) (fun _ k => XS.daddS X31.here hx rfl (hb hby d3_19) rfl (by rw [q_s1]; exact DInt_nn DS1) q_s1 k) ?_
  obtain ⟨T32, h32, X32, e32, W32, V32, st32⟩ := stDS X31 hx hZ e31 V1 (j := ix) k hk (List.getElem?_eq_some_iff.mp hu1).1 (g := (mkF m 20 #[.val (.ref a), .val (.int ix), .val (.double v0), .second, .val (.double v1), .second, .val (.double v2), .second] [(.double s1), (.int ix), (.ref b1)])) rfl rfl (hb hby d3_20)
  have N0 := Fr.snoc X32 N0 g1
  have F_dN_a := F_dN_a.other W32 (Or.inl na1)
  have V0 := V0.other W32 n01
  have F_dNdV_a := F_dNdV_a.other W32 (Or.inl na1)
  have F_dNAtFreeVolume_a := F_dNAtFreeVolume_a.other W32 (Or.inl na1)
  have V2 := V2.other W32 (Ne.symm n12)
  have Z0 := Nat.le_trans Z0 (Nat.le_of_eq W32.size.symm)
  have K0 := K0.wr W32 (Or.inl (by simp))
  have V1 : Sar Z h32 b1 .double (us1.set k (.double s1)) := V32
  refine Goes.by (T' := T32) (g' := (mkF m 21 #[.val (.ref a), .val (.int ix), .val (.double v0), .second, .val (.double v1), .second, .val (.double v2), .second] [])) st32 ?_
  refine Goes.by (T' := T32) (g' := (mkF m 22 #[.val (.ref a), .val (.int ix), .val (.double v0), .second, .val (.double v1), .second, .val (.double v2), .second] [(.ref a)])) (fun _ k => XS.aloadN X32.here hx rfl (hb hby d3_21) rfl rfl k) ?_
  obtain ⟨T33, X33, e33, st33⟩ := getF X32 hx hZ hown (host := "") (Or.inl (hw _ (List.mem_of_getElem? (i := 15) rfl))) Via.refl e32 F_dNAtFreeVolume_a (g := (mkF m 22 #[.val (.ref a), .val (.int ix), .val (.double v0), .second, .val (.double v1), .second, .val (.double v2), .second] [(.ref a)])) rfl rfl (hb hby d3_22)
  refine Goes.by (T' := T33) (g' := (mkF m 25 #[.val (.ref a), .val (.int ix), .val (.double v0), .second, .val (.double v1), .second, .val (.double v2), .second] [(.ref b2)])) st33 ?_
  refine Goes.by (T' := T33) (g' := (mkF m 26 #[.val (.ref a), .val (.int ix), .val (.double v0), .second, .val (.double v1), .second, .val (.double v2), .second] [(.int ix), (.ref b2)])) (fun _ k => XS.iloadN X33.here hx rfl (hb hby d3_25) rfl k) ?_
  refine Goes.by (T' := T33) (g' := (mkF m 27 #[.val (.ref a), .val (.int ix), .val (.double v0), .second, .val (.double v1), .second, .val (.double v2), .second] [(.int ix), (.ref b2), (.int ix), (.ref b2)])) (fun _ k => XT.dup2 X33.here hx rfl (hb hby d3_26) rfl rfl rfl k) ?_
  refine Goes.by (T' := T33) (g' := (mkF m 28 #[.val (.ref a), .val (.int ix), .val (.double v0), .second, .val (.double v1), .second, .val (.double v2), .second] [(.double u2), (.int ix), (.ref b2)])) (ldDS X33 hx hZ e33 V2 (v := (.double u2)) (j := ix) k hk hu2 (g := (mkF m 27 #[.val (.ref a), .val (.int ix), .val (.double v0), .second, .val (.double v1), .second, .val (.double v2), .second] [(.int ix), (.ref b2), (.int ix), (.ref b2)])) rfl rfl (hb hby d3_27)) ?_
  refine Goes.by (T' := T33) (g' := (mkF m 30 #[.val (.ref a), .val (.int ix), .val (.double v0), .second, .val (.double v1), .second, .val (.double v2), .second] [(.double v2), (.double u2), (.int ix), (.ref b2)])) (fun _ k => XS.dload X33.here hx rfl (hb hby d3_28) rfl k) ?_
  obtain ⟨s2, q_s2⟩ : ∃ zz, FP.dadd u2 v2 = zz := ⟨_, rfl⟩
  have DS2 := DInt_add q_s2 I2 J2 (by omega)
  refine Goes.by (T' := T33) (g' := (mkF m 31 #[.val (.ref a), .val (.int ix), .val (.double v0), .second, .val (.double v1), .second, .val (.double v2), .second] [(.double s2), (.int ix), (.ref b2)])) (fun _ k => XS.daddS X33.here hx rfl (hb hby d3_30) rfl (by rw [q_s2]; exact DInt_nn DS2) q_s2 k) ?_
  obtain ⟨T34, h34, X34, e34, W34, V34, st34⟩ := stDS X33 hx hZ e33 V2 (j := ix) k hk (List.getElem?_eq_some_iff.mp hu2).1 (g := (mkF m 31 #[.val (.ref a), .val (.int ix), .val (.double v0), .second, .val (.double v1), .second, .val (.double v2), .second] [(.double s2), (.int ix), (.ref b2)])) rfl rfl (hb hby d3_31)
  have N0 := Fr.snoc X34 N0 g2
  have F_dN_a := F_dN_a.other W34 (Or.inl na2)
  have V0 := V0.other W34 n02
  have F_dNdV_a := F_dNdV_a.other W34 (Or.inl na2)
  have V1 := V1.other W34 n12
  have F_dNAtFreeVolume_a := F_dNAtFreeVolume_a.other W34 (Or.inl na2)
  have Z0 := Nat.le_trans Z0 (Nat.le_of_eq W34.size.symm)
  have K0 := K0.wr W34 (Or.inl (by simp))
  have V2 : Sar Z h34 b2 .double (us2.set k (.double s2)) := V34
  refine Goes.by (T' := T34) (g' := (mkF m 32 #[.val (.ref a), .val (.int ix), .val (.double v0), .second, .val (.double v1), .second, .val (.double v2), .second] [])) st34 ?_
  exact outV X34 hx hlk hret (hb hby d3_32) (by rw [e34]; exact ⟨rfl, ⟨s0, s1, s2, DS0, DS1, DS2, V0, V1, V2⟩, K0, N0⟩) (by decide) (by decide)
theorem d7_0 : decode prog_47_method_4_code 0 = .ok (.aload_n 0, 1) := by decide +kernel
theorem d7_1 : decode prog_47_method_4_code 1 = .ok (.getfield 19, 3) := by decide +kernel
theorem d7_4 : decode prog_47_method_4_code 4 = .ok (.dreturn, 1) := by decide +kernel
theorem pd2 : parseMethodDescriptor "()D" = some ⟨[], some .double⟩ := by decide +kernel
theorem ef_rm_value (m : MethodId) (x0 : Addr) : entryFrame m #[(.ref x0)] 1 = mkF m 0 #[.val (.ref x0)] [] := by first | (simp [entryFrame, mkF, argsToLocals, Value.category, maxLocals]; done) | rfl
set_option maxRecDepth 65536 in
set_option maxHeartbeats 40000000 in
theorem rm_value (l : Launch) (Z : State) (a0 : Array Value) (hw : ∀ d ∈ tables_1, d.before a0 Z = true) (a : Addr) (u : UInt64) (h0 : Heap) (n0 : Nat) (Z0 : n0 ≤ h0.size) (F1 : Fld Z h0 a "com/example/brinewright/brinewright/ResidualHelmholtz" "value" "D" (.double u)) :
    Does l (⟨"com/example/brinewright/brinewright/ResidualHelmholtz", "value", "()D"⟩ : MethodName) prog_47_method_4_code 1 (some .double) [] ({ frames := 0, cells := 0, slots := 0, locals := 0 } : Room) Z #[(.ref a)] h0 (fun v h L => v = some (.double u) ∧ Fr n0 L ∧ h = h0) := by
  refine Does.of (plainFor_of_name pn0) ?_
  intro p e s m below meth c s₁ hx hby hml hret hlk hZ hown hnm X0 e0
  have N0 := Fr.nil n0
  refine Goes.cast (g' := mkF m 0 #[.val (.ref a)] []) (ef_rm_value m a) ?_
  refine Goes.by (T' := s₁) (g' := (mkF m 1 #[.val (.ref a)] [(.ref a)])) (fun _ k => XS.aloadN X0.here hx rfl (hb hby d7_0) rfl rfl k) ?_
  obtain ⟨T35, X35, e35, st35⟩ := getF X0 hx hZ hown (host := "") (Or.inl (hw _ (List.mem_of_getElem? (i := 42) rfl))) Via.refl e0 F1 (g := (mkF m 1 #[.val (.ref a)] [(.ref a)])) rfl rfl (hb hby d7_1)
  refine Goes.by (T' := T35) (g' := (mkF m 4 #[.val (.ref a)] [(.double u)])) st35 ?_
  exact outD X35 hx hlk hret (hb hby d7_4) (by rw [e35]; exact ⟨rfl, N0, rfl⟩) (by decide) (by decide)
theorem d8_0 : decode prog_47_method_5_code 0 = .ok (.aload_n 0, 1) := by decide +kernel
theorem d8_1 : decode prog_47_method_5_code 1 = .ok (.getfield 23, 3) := by decide +kernel
theorem d8_4 : decode prog_47_method_5_code 4 = .ok (.dreturn, 1) := by decide +kernel
theorem ef_rm_dV (m : MethodId) (x0 : Addr) : entryFrame m #[(.ref x0)] 1 = mkF m 0 #[.val (.ref x0)] [] := by first | (simp [entryFrame, mkF, argsToLocals, Value.category, maxLocals]; done) | rfl
set_option maxRecDepth 65536 in
set_option maxHeartbeats 40000000 in
theorem rm_dV (l : Launch) (Z : State) (a0 : Array Value) (hw : ∀ d ∈ tables_1, d.before a0 Z = true) (a : Addr) (u : UInt64) (h0 : Heap) (n0 : Nat) (Z0 : n0 ≤ h0.size) (F1 : Fld Z h0 a "com/example/brinewright/brinewright/ResidualHelmholtz" "dV" "D" (.double u)) :
    Does l (⟨"com/example/brinewright/brinewright/ResidualHelmholtz", "dV", "()D"⟩ : MethodName) prog_47_method_5_code 1 (some .double) [] ({ frames := 0, cells := 0, slots := 0, locals := 0 } : Room) Z #[(.ref a)] h0 (fun v h L => v = some (.double u) ∧ Fr n0 L ∧ h = h0) := by
  refine Does.of (plainFor_of_name pn0) ?_
  intro p e s m below meth c s₁ hx hby hml hret hlk hZ hown hnm X0 e0
  have N0 := Fr.nil n0
  refine Goes.cast (g' := mkF m 0 #[.val (.ref a)] []) (ef_rm_dV m a) ?_
  refine Goes.by (T' := s₁) (g' := (mkF m 1 #[.val (.ref a)] [(.ref a)])) (fun _ k => XS.aloadN X0.here hx rfl (hb hby d8_0) rfl rfl k) ?_
  obtain ⟨T36, X36, e36, st36⟩ := getF X0 hx hZ hown (host := "") (Or.inl (hw _ (List.mem_of_getElem? (i := 49) rfl))) Via.refl e0 F1 (g := (mkF m 1 #[.val (.ref a)] [(.ref a)])) rfl rfl (hb hby d8_1)
  refine Goes.by (T' := T36) (g' := (mkF m 4 #[.val (.ref a)] [(.double u)])) st36 ?_
  exact outD X36 hx hlk hret (hb hby d8_4) (by rw [e36]; exact ⟨rfl, N0, rfl⟩) (by decide) (by decide)
theorem d4_0 : decode prog_47_method_7_code 0 = .ok (.aload_n 0, 1) := by decide +kernel
theorem d4_1 : decode prog_47_method_7_code 1 = .ok (.getfield 7, 3) := by decide +kernel
theorem d4_4 : decode prog_47_method_7_code 4 = .ok (.iload_n 1, 1) := by decide +kernel
theorem d4_5 : decode prog_47_method_7_code 5 = .ok (.daload, 1) := by decide +kernel
theorem d4_6 : decode prog_47_method_7_code 6 = .ok (.dreturn, 1) := by decide +kernel
theorem pd3 : parseMethodDescriptor "(I)D" = some ⟨[.int], some .double⟩ := by decide +kernel
theorem ef_rm_dN (m : MethodId) (x0 : Addr) (x1 : Int32) : entryFrame m #[(.ref x0), (.int x1)] 2 = mkF m 0 #[.val (.ref x0), .val (.int x1)] [] := by first | (simp [entryFrame, mkF, argsToLocals, Value.category, maxLocals]; done) | rfl
set_option maxRecDepth 65536 in
set_option maxHeartbeats 40000000 in
theorem rm_dN (l : Launch) (Z : State) (a0 : Array Value) (hw : ∀ d ∈ tables_1, d.before a0 Z = true) (a b : Addr) (i : Int32) (us : List Value) (k : Nat) (u : UInt64) (h0 : Heap) (n0 : Nat) (Z0 : n0 ≤ h0.size) (F1 : Fld Z h0 a "com/example/brinewright/brinewright/ResidualHelmholtz" "dN" "[D" (.ref b)) (V1 : Sar Z h0 b .double us) (hk : i.toInt = k) (hu : us[k]? = some (.double u)) :
    Does l (⟨"com/example/brinewright/brinewright/ResidualHelmholtz", "dN", "(I)D"⟩ : MethodName) prog_47_method_7_code 2 (some .double) [] ({ frames := 0, cells := 0, slots := 0, locals := 0 } : Room) Z #[(.ref a), (.int i)] h0 (fun v h L => v = some (.double u) ∧ Fr n0 L ∧ h = h0) := by
  refine Does.of (plainFor_of_name pn0) ?_
  intro p e s m below meth c s₁ hx hby hml hret hlk hZ hown hnm X0 e0
  have N0 := Fr.nil n0
  refine Goes.cast (g' := mkF m 0 #[.val (.ref a), .val (.int i)] []) (ef_rm_dN m a i) ?_
  refine Goes.by (T' := s₁) (g' := (mkF m 1 #[.val (.ref a), .val (.int i)] [(.ref a)])) (fun _ k => XS.aloadN X0.here hx rfl (hb hby d4_0) rfl rfl k) ?_
  obtain ⟨T37, X37, e37, st37⟩ := getF X0 hx hZ hown (host := "") (Or.inl (hw _ (List.mem_of_getElem? (i := 11) rfl))) Via.refl e0 F1 (g := (mkF m 1 #[.val (.ref a), .val (.int i)] [(.ref a)])) rfl rfl (hb hby d4_1)
  refine Goes.by (T' := T37) (g' := (mkF m 4 #[.val (.ref a), .val (.int i)] [(.ref b)])) st37 ?_
  refine Goes.by (T' := T37) (g' := (mkF m 5 #[.val (.ref a), .val (.int i)] [(.int i), (.ref b)])) (fun _ k => XS.iloadN X37.here hx rfl (hb hby d4_4) rfl k) ?_
  refine Goes.by (T' := T37) (g' := (mkF m 6 #[.val (.ref a), .val (.int i)] [(.double u)])) (ldDS X37 hx hZ e37 V1 (v := (.double u)) (j := i) k hk hu (g := (mkF m 5 #[.val (.ref a), .val (.int i)] [(.int i), (.ref b)])) rfl rfl (hb hby d4_5)) ?_
  exact outD X37 hx hlk hret (hb hby d4_6) (by rw [e37]; exact ⟨rfl, N0, rfl⟩) (by decide) (by decide)
theorem d5_0 : decode prog_47_method_8_code 0 = .ok (.aload_n 0, 1) := by decide +kernel
theorem d5_1 : decode prog_47_method_8_code 1 = .ok (.getfield 13, 3) := by decide +kernel
theorem d5_4 : decode prog_47_method_8_code 4 = .ok (.iload_n 1, 1) := by decide +kernel
theorem d5_5 : decode prog_47_method_8_code 5 = .ok (.daload, 1) := by decide +kernel
theorem d5_6 : decode prog_47_method_8_code 6 = .ok (.dreturn, 1) := by decide +kernel
theorem ef_rm_dNdV (m : MethodId) (x0 : Addr) (x1 : Int32) : entryFrame m #[(.ref x0), (.int x1)] 2 = mkF m 0 #[.val (.ref x0), .val (.int x1)] [] := by first | (simp [entryFrame, mkF, argsToLocals, Value.category, maxLocals]; done) | rfl
set_option maxRecDepth 65536 in
set_option maxHeartbeats 40000000 in
theorem rm_dNdV (l : Launch) (Z : State) (a0 : Array Value) (hw : ∀ d ∈ tables_1, d.before a0 Z = true) (a b : Addr) (i : Int32) (us : List Value) (k : Nat) (u : UInt64) (h0 : Heap) (n0 : Nat) (Z0 : n0 ≤ h0.size) (F1 : Fld Z h0 a "com/example/brinewright/brinewright/ResidualHelmholtz" "dNdV" "[D" (.ref b)) (V1 : Sar Z h0 b .double us) (hk : i.toInt = k) (hu : us[k]? = some (.double u)) :
    Does l (⟨"com/example/brinewright/brinewright/ResidualHelmholtz", "dNdV", "(I)D"⟩ : MethodName) prog_47_method_8_code 2 (some .double) [] ({ frames := 0, cells := 0, slots := 0, locals := 0 } : Room) Z #[(.ref a), (.int i)] h0 (fun v h L => v = some (.double u) ∧ Fr n0 L ∧ h = h0) := by
  refine Does.of (plainFor_of_name pn0) ?_
  intro p e s m below meth c s₁ hx hby hml hret hlk hZ hown hnm X0 e0
  have N0 := Fr.nil n0
  refine Goes.cast (g' := mkF m 0 #[.val (.ref a), .val (.int i)] []) (ef_rm_dNdV m a i) ?_
  refine Goes.by (T' := s₁) (g' := (mkF m 1 #[.val (.ref a), .val (.int i)] [(.ref a)])) (fun _ k => XS.aloadN X0.here hx rfl (hb hby d5_0) rfl rfl k) ?_
  obtain ⟨T38, X38, e38, st38⟩ := getF X0 hx hZ hown (host := "") (Or.inl (hw _ (List.mem_of_getElem? (i := 13) rfl))) Via.refl e0 F1 (g := (mkF m 1 #[.val (.ref a), .val (.int i)] [(.ref a)])) rfl rfl (hb hby d5_1)
  refine Goes.by (T' := T38) (g' := (mkF m 4 #[.val (.ref a), .val (.int i)] [(.ref b)])) st38 ?_
  refine Goes.by (T' := T38) (g' := (mkF m 5 #[.val (.ref a), .val (.int i)] [(.int i), (.ref b)])) (fun _ k => XS.iloadN X38.here hx rfl (hb hby d5_4) rfl k) ?_
  refine Goes.by (T' := T38) (g' := (mkF m 6 #[.val (.ref a), .val (.int i)] [(.double u)])) (ldDS X38 hx hZ e38 V1 (v := (.double u)) (j := i) k hk hu (g := (mkF m 5 #[.val (.ref a), .val (.int i)] [(.int i), (.ref b)])) rfl rfl (hb hby d5_5)) ?_
  exact outD X38 hx hlk hret (hb hby d5_6) (by rw [e38]; exact ⟨rfl, N0, rfl⟩) (by decide) (by decide)
theorem d6_0 : decode prog_47_method_9_code 0 = .ok (.aload_n 0, 1) := by decide +kernel
theorem d6_1 : decode prog_47_method_9_code 1 = .ok (.getfield 16, 3) := by decide +kernel
theorem d6_4 : decode prog_47_method_9_code 4 = .ok (.iload_n 1, 1) := by decide +kernel
theorem d6_5 : decode prog_47_method_9_code 5 = .ok (.daload, 1) := by decide +kernel
theorem d6_6 : decode prog_47_method_9_code 6 = .ok (.dreturn, 1) := by decide +kernel
theorem ef_rm_dNAtFreeVolume (m : MethodId) (x0 : Addr) (x1 : Int32) : entryFrame m #[(.ref x0), (.int x1)] 2 = mkF m 0 #[.val (.ref x0), .val (.int x1)] [] := by first | (simp [entryFrame, mkF, argsToLocals, Value.category, maxLocals]; done) | rfl
set_option maxRecDepth 65536 in
set_option maxHeartbeats 40000000 in
theorem rm_dNAtFreeVolume (l : Launch) (Z : State) (a0 : Array Value) (hw : ∀ d ∈ tables_1, d.before a0 Z = true) (a b : Addr) (i : Int32) (us : List Value) (k : Nat) (u : UInt64) (h0 : Heap) (n0 : Nat) (Z0 : n0 ≤ h0.size) (F1 : Fld Z h0 a "com/example/brinewright/brinewright/ResidualHelmholtz" "dNAtFreeVolume" "[D" (.ref b)) (V1 : Sar Z h0 b .double us) (hk : i.toInt = k) (hu : us[k]? = some (.double u)) :
    Does l (⟨"com/example/brinewright/brinewright/ResidualHelmholtz", "dNAtFreeVolume", "(I)D"⟩ : MethodName) prog_47_method_9_code 2 (some .double) [] ({ frames := 0, cells := 0, slots := 0, locals := 0 } : Room) Z #[(.ref a), (.int i)] h0 (fun v h L => v = some (.double u) ∧ Fr n0 L ∧ h = h0) := by
  refine Does.of (plainFor_of_name pn0) ?_
  intro p e s m below meth c s₁ hx hby hml hret hlk hZ hown hnm X0 e0
  have N0 := Fr.nil n0
  refine Goes.cast (g' := mkF m 0 #[.val (.ref a), .val (.int i)] []) (ef_rm_dNAtFreeVolume m a i) ?_
  refine Goes.by (T' := s₁) (g' := (mkF m 1 #[.val (.ref a), .val (.int i)] [(.ref a)])) (fun _ k => XS.aloadN X0.here hx rfl (hb hby d6_0) rfl rfl k) ?_
  obtain ⟨T39, X39, e39, st39⟩ := getF X0 hx hZ hown (host := "") (Or.inl (hw _ (List.mem_of_getElem? (i := 15) rfl))) Via.refl e0 F1 (g := (mkF m 1 #[.val (.ref a), .val (.int i)] [(.ref a)])) rfl rfl (hb hby d6_1)
  refine Goes.by (T' := T39) (g' := (mkF m 4 #[.val (.ref a), .val (.int i)] [(.ref b)])) st39 ?_
  refine Goes.by (T' := T39) (g' := (mkF m 5 #[.val (.ref a), .val (.int i)] [(.int i), (.ref b)])) (fun _ k => XS.iloadN X39.here hx rfl (hb hby d6_4) rfl k) ?_
  refine Goes.by (T' := T39) (g' := (mkF m 6 #[.val (.ref a), .val (.int i)] [(.double u)])) (ldDS X39 hx hZ e39 V1 (v := (.double u)) (j := i) k hk hu (g := (mkF m 5 #[.val (.ref a), .val (.int i)] [(.int i), (.ref b)])) rfl rfl (hb hby d6_5)) ?_
  exact outD X39 hx hlk hret (hb hby d6_6) (by rw [e39]; exact ⟨rfl, N0, rfl⟩) (by decide) (by decide)
theorem pn1 : plainName "com/example/brinewright/brinewright/ResidualHelmholtzAddComponentPinLaw" = true := by first | (simp [plainName, overriddenIn]; done) | decide +kernel
theorem ef_rm_law (m : MethodId) (x0 : Int32) (x1 : Int32) (x2 : Int32) (x3 : Int32) (x4 : Int32) (x5 : Int32) : entryFrame m #[(.int x0), (.int x1), (.int x2), (.int x3), (.int x4), (.int x5)] maxLocals = mkF m 0 #[.val (.int x0), .val (.int x1), .val (.int x2), .val (.int x3), .val (.int x4), .val (.int x5), .unset, .unset, .unset, .unset, .unset, .unset, .unset, .unset, .unset, .unset, .unset] [] := by first | (simp [entryFrame, mkF, argsToLocals, Value.category, maxLocals]; done) | rfl
set_option maxRecDepth 65536 in
set_option maxHeartbeats 40000000 in
theorem rm_law (l : Launch) (Z : State) (a0 : Array Value) (hw : ∀ d ∈ tables_1, d.before a0 Z = true) (x0 x1 x2 x3 x4 x5 : Int32) (h0 : Heap) (n0 : Nat) (Z0 : n0 ≤ h0.size)  :
    Does l x code maxLocals ret tables_1 room_1 Z #[(.int x0), (.int x1), (.int x2), (.int x3), (.int x4), (.int x5)] h0 (fun v h L => v = some (.int 1) ∧ Fr n0 L) := by
  refine Does.of (plainFor_of_name pn1) ?_
  intro p e s m below meth c s₁ hx hby hml hret hlk hZ hown hnm X0 e0
  have N0 := Fr.nil n0
  refine Goes.cast (g' := mkF m 0 #[.val (.int x0), .val (.int x1), .val (.int x2), .val (.int x3), .val (.int x4), .val (.int x5), .unset, .unset, .unset, .unset, .unset, .unset, .unset, .unset, .unset, .unset, .unset] []) (ef_rm_law m x0 x1 x2 x3 x4 x5) ?_
  refine Goes.by (T' := s₁) (g' := (mkF m 1 #[.val (.int x0), .val (.int x1), .val (.int x2), .val (.int x3), .val (.int x4), .val (.int x5), .unset, .unset, .unset, .unset, .unset, .unset, .unset, .unset, .unset, .unset, .unset] [(.int (1 : Int32))])) (fun _ k => XS.iconst X0.here hx rfl (hb hby at_0)  k) ?_
  refine Goes.by (T' := s₁) (g' := (mkF m 2 #[.val (.int x0), .val (.int x1), .val (.int x2), .val (.int x3), .val (.int x4), .val (.int x5), .unset, .unset, .unset, .unset, .unset, .unset, .unset, .unset, .unset, .unset, .unset] [(.int x0), (.int (1 : Int32))])) (fun _ k => XS.iloadN X0.here hx rfl (hb hby at_1) rfl k) ?_
  refine Goes.by (T' := s₁) (g' := (mkF m 3 #[.val (.int x0), .val (.int x1), .val (.int x2), .val (.int x3), .val (.int x4), .val (.int x5), .unset, .unset, .unset, .unset, .unset, .unset, .unset, .unset, .unset, .unset, .unset] [(.int (3 : Int32)), (.int x0), (.int (1 : Int32))])) (fun _ k => XS.iconst X0.here hx rfl (hb hby at_2)  k) ?_
  refine Goes.by (T' := s₁) (g' := (mkF m 4 #[.val (.int x0), .val (.int x1), .val (.int x2), .val (.int x3), .val (.int x4), .val (.int x5), .unset, .unset, .unset, .unset, .unset, .unset, .unset, .unset, .unset, .unset, .unset] [(.int (x0 &&& (3 : Int32))), (.int (1 : Int32))])) (fun _ k => XS.iand X0.here hx rfl (hb hby at_3) rfl k) ?_
  refine Goes.by (T' := s₁) (g' := (mkF m 5 #[.val (.int x0), .val (.int x1), .val (.int x2), .val (.int x3), .val (.int x4), .val (.int x5), .unset, .unset, .unset, .unset, .unset, .unset, .unset, .unset, .unset, .unset, .unset] [(.int ((1 : Int32) + (x0 &&& (3 : Int32))))])) (fun _ k => XS.iadd X0.here hx rfl (hb hby at_4) rfl k) ?_
  obtain ⟨n, q_n⟩ : ∃ zz : Int32, zz = ((1 : Int32) + (x0 &&& (3 : Int32))) := ⟨_, rfl⟩
  rw [← q_n]
  have hn : n = 1 ∨ n = 2 ∨ n = 3 ∨ n = 4 := by rw [q_n]; exact own_n x0
  have hnp : 1 ≤ n.toInt ∧ n.toInt ≤ 4 := by rcases hn with h | h | h | h <;> rw [h] <;> decide
  have hnz : n ≠ 0 := by rcases hn with h | h | h | h <;> rw [h] <;> decide
  obtain ⟨nn, hnn⟩ : ∃ k : Nat, n.toInt = k := ⟨n.toInt.toNat, by omega⟩
  refine Goes.by (T' := s₁) (g' := (mkF m 7 #[.val (.int x0), .val (.int x1), .val (.int x2), .val (.int x3), .val (.int x4), .val (.int x5), .val (.int n), .unset, .unset, .unset, .unset, .unset, .unset, .unset, .unset, .unset, .unset] [])) (fun _ k => XS.istore X0.here hx rfl (hb hby at_5) rfl (l' := #[.val (.int x0), .val (.int x1), .val (.int x2), .val (.int x3), .val (.int x4), .val (.int x5), .val (.int n), .unset, .unset, .unset, .unset, .unset, .unset, .unset, .unset, .unset, .unset]) rfl k) ?_
  refine Goes.by (T' := s₁) (g' := (mkF m 8 #[.val (.int x0), .val (.int x1), .val (.int x2), .val (.int x3), .val (.int x4), .val (.int x5), .val (.int n), .unset, .unset, .unset, .unset, .unset, .unset, .unset, .unset, .unset, .unset] [(.int x1)])) (fun _ k => XS.iloadN X0.here hx rfl (hb hby at_7) rfl k) ?_
  refine Goes.by (T' := s₁) (g' := (mkF m 10 #[.val (.int x0), .val (.int x1), .val (.int x2), .val (.int x3), .val (.int x4), .val (.int x5), .val (.int n), .unset, .unset, .unset, .unset, .unset, .unset, .unset, .unset, .unset, .unset] [(.int (2147483647 : Int32)), (.int x1)])) (X0.ldcInt hx hown (mvT hZ (hw _ (List.mem_of_getElem? (i := 0) rfl))) (g := (mkF m 8 #[.val (.int x0), .val (.int x1), .val (.int x2), .val (.int x3), .val (.int x4), .val (.int x5), .val (.int n), .unset, .unset, .unset, .unset, .unset, .unset, .unset, .unset, .unset, .unset] [(.int x1)])) rfl (hb hby at_8)) ?_
  refine Goes.by (T' := s₁) (g' := (mkF m 11 #[.val (.int x0), .val (.int x1), .val (.int x2), .val (.int x3), .val (.int x4), .val (.int x5), .val (.int n), .unset, .unset, .unset, .unset, .unset, .unset, .unset, .unset, .unset, .unset] [(.int (x1 &&& (2147483647 : Int32)))])) (fun _ k => XS.iand X0.here hx rfl (hb hby at_10) rfl k) ?_
  refine Goes.by (T' := s₁) (g' := (mkF m 13 #[.val (.int x0), .val (.int x1), .val (.int x2), .val (.int x3), .val (.int x4), .val (.int x5), .val (.int n), .unset, .unset, .unset, .unset, .unset, .unset, .unset, .unset, .unset, .unset] [(.int n), (.int (x1 &&& (2147483647 : Int32)))])) (fun _ k => XS.iload X0.here hx rfl (hb hby at_11) rfl k) ?_
  obtain ⟨t_ci, q_t_ci⟩ : ∃ zz : Int32, zz = (x1 &&& (2147483647 : Int32)) := ⟨_, rfl⟩
  rw [← q_t_ci]
  refine Goes.by (T' := s₁) (g' := (mkF m 14 #[.val (.int x0), .val (.int x1), .val (.int x2), .val (.int x3), .val (.int x4), .val (.int x5), .val (.int n), .unset, .unset, .unset, .unset, .unset, .unset, .unset, .unset, .unset, .unset] [(.int (t_ci % n))])) (fun _ k => iremM (g := (mkF m 13 #[.val (.int x0), .val (.int x1), .val (.int x2), .val (.int x3), .val (.int x4), .val (.int x5), .val (.int n), .unset, .unset, .unset, .unset, .unset, .unset, .unset, .unset, .unset, .unset] [(.int n), (.int t_ci)])) X0 hx rfl (hb hby at_13) rfl hnz k) ?_
  obtain ⟨ci, q_ci⟩ : ∃ zz : Int32, zz = (t_ci % n) := ⟨_, rfl⟩
  rw [← q_ci]
  obtain ⟨kci, hkci, lkci⟩ : ∃ k : Nat, ci.toInt = k ∧ k < nn := by
    have t := (c_iremV t_ci n).1 (by rw [q_t_ci]; exact (c_and x1 (2147483647 : Int32) (by decide)).1) (by omega)
    rw [← q_ci] at t
    exact ⟨ci.toInt.toNat, by omega, by omega⟩
  refine Goes.by (T' := s₁) (g' := (mkF m 16 #[.val (.int x0), .val (.int x1), .val (.int x2), .val (.int x3), .val (.int x4), .val (.int x5), .val (.int n), .val (.int ci), .unset, .unset, .unset, .unset, .unset, .unset, .unset, .unset, .unset] [])) (fun _ k => XS.istore X0.here hx rfl (hb hby at_14) rfl (l' := #[.val (.int x0), .val (.int x1), .val (.int x2), .val (.int x3), .val (.int x4), .val (.int x5), .val (.int n), .val (.int ci), .unset, .unset, .unset, .unset, .unset, .unset, .unset, .unset, .unset]) rfl k) ?_
  refine Goes.by (T' := s₁) (g' := (mkF m 17 #[.val (.int x0), .val (.int x1), .val (.int x2), .val (.int x3), .val (.int x4), .val (.int x5), .val (.int n), .val (.int ci), .unset, .unset, .unset, .unset, .unset, .unset, .unset, .unset, .unset] [(.int x2)])) (fun _ k => XS.iloadN X0.here hx rfl (hb hby at_16) rfl k) ?_
  refine Goes.by (T' := s₁) (g' := (mkF m 19 #[.val (.int x0), .val (.int x1), .val (.int x2), .val (.int x3), .val (.int x4), .val (.int x5), .val (.int n), .val (.int ci), .unset, .unset, .unset, .unset, .unset, .unset, .unset, .unset, .unset] [(.int (2147483647 : Int32)), (.int x2)])) (X0.ldcInt hx hown (mvT hZ (hw _ (List.mem_of_getElem? (i := 0) rfl))) (g := (mkF m 17 #[.val (.int x0), .val (.int x1), .val (.int x2), .val (.int x3), .val (.int x4), .val (.int x5), .val (.int n), .val (.int ci), .unset, .unset, .unset, .unset, .unset, .unset, .unset, .unset, .unset] [(.int x2)])) rfl (hb hby at_17)) ?_
  refine Goes.by (T' := s₁) (g' := (mkF m 20 #[.val (.int x0), .val (.int x1), .val (.int x2), .val (.int x3), .val (.int x4), .val (.int x5), .val (.int n), .val (.int ci), .unset, .unset, .unset, .unset, .unset, .unset, .unset, .unset, .unset] [(.int (x2 &&& (2147483647 : Int32)))])) (fun _ k => XS.iand X0.here hx rfl (hb hby at_19) rfl k) ?_
  refine Goes.by (T' := s₁) (g' := (mkF m 22 #[.val (.int x0), .val (.int x1), .val (.int x2), .val (.int x3), .val (.int x4), .val (.int x5), .val (.int n), .val (.int ci), .unset, .unset, .unset, .unset, .unset, .unset, .unset, .unset, .unset] [(.int n), (.int (x2 &&& (2147483647 : Int32)))])) (fun _ k => XS.iload X0.here hx rfl (hb hby at_20) rfl k) ?_
  obtain ⟨t_oi, q_t_oi⟩ : ∃ zz : Int32, zz = (x2 &&& (2147483647 : Int32)) := ⟨_, rfl⟩
  rw [← q_t_oi]
  refine Goes.by (T' := s₁) (g' := (mkF m 23 #[.val (.int x0), .val (.int x1), .val (.int x2), .val (.int x3), .val (.int x4), .val (.int x5), .val (.int n), .val (.int ci), .unset, .unset, .unset, .unset, .unset, .unset, .unset, .unset, .unset] [(.int (t_oi % n))])) (fun _ k => iremM (g := (mkF m 22 #[.val (.int x0), .val (.int x1), .val (.int x2), .val (.int x3), .val (.int x4), .val (.int x5), .val (.int n), .val (.int ci), .unset, .unset, .unset, .unset, .unset, .unset, .unset, .unset, .unset] [(.int n), (.int t_oi)])) X0 hx rfl (hb hby at_22) rfl hnz k) ?_
  obtain ⟨oi, q_oi⟩ : ∃ zz : Int32, zz = (t_oi % n) := ⟨_, rfl⟩
  rw [← q_oi]
  obtain ⟨koi, hkoi, lkoi⟩ : ∃ k : Nat, oi.toInt = k ∧ k < nn := by
    have t := (c_iremV t_oi n).1 (by rw [q_t_oi]; exact (c_and x2 (2147483647 : Int32) (by decide)).1) (by omega)
    rw [← q_oi] at t
    exact ⟨oi.toInt.toNat, by omega, by omega⟩
  refine Goes.by (T' := s₁) (g' := (mkF m 25 #[.val (.int x0), .val (.int x1), .val (.int x2), .val (.int x3), .val (.int x4), .val (.int x5), .val (.int n), .val (.int ci), .val (.int oi), .unset, .unset, .unset, .unset, .unset, .unset, .unset, .unset] [])) (fun _ k => XS.istore X0.here hx rfl (hb hby at_23) rfl (l' := #[.val (.int x0), .val (.int x1), .val (.int x2), .val (.int x3), .val (.int x4), .val (.int x5), .val (.int n), .val (.int ci), .val (.int oi), .unset, .unset, .unset, .unset, .unset, .unset, .unset, .unset]) rfl k) ?_
  obtain ⟨T40, h40, X40, e40, E40, A40, D40, -, st40⟩ := newO X0 hx hZ hown (hw _ (List.mem_of_getElem? (i := 1) rfl)) (hw _ (List.mem_of_getElem? (i := 2) rfl)) (hw _ (List.mem_of_getElem? (i := 3) rfl)) e0 (g := (mkF m 25 #[.val (.int x0), .val (.int x1), .val (.int x2), .val (.int x3), .val (.int x4), .val (.int x5), .val (.int n), .val (.int ci), .val (.int oi), .unset, .unset, .unset, .unset, .unset, .unset, .unset, .unset] [])) rfl (hb hby at_25) (by decide) (by decide)
  obtain ⟨a, g40⟩ : ∃ z, z = h0.size := ⟨_, rfl⟩
  rw [← g40] at A40 D40 st40
  have ge_a : n0 ≤ a := Nat.le_trans Z0 (Nat.le_of_eq g40.symm)
  have Z0 := Nat.le_trans Z0 E40.1
  have E_a := A40
  have F_dN_a : Fld Z h40 a "com/example/brinewright/brinewright/ResidualHelmholtz" "dN" "[D" .null := D40 (Or.inr (hw _ (List.mem_of_getElem? (i := 12) rfl))) (ty := (.array .double)) (by decide)
  have F_dNdV_a : Fld Z h40 a "com/example/brinewright/brinewright/ResidualHelmholtz" "dNdV" "[D" .null := D40 (Or.inr (hw _ (List.mem_of_getElem? (i := 14) rfl))) (ty := (.array .double)) (by decide)
  have F_dNAtFreeVolume_a : Fld Z h40 a "com/example/brinewright/brinewright/ResidualHelmholtz" "dNAtFreeVolume" "[D" .null := D40 (Or.inr (hw _ (List.mem_of_getElem? (i := 16) rfl))) (ty := (.array .double)) (by decide)
  have F_value_a : Fld Z h40 a "com/example/brinewright/brinewright/ResidualHelmholtz" "value" "D" (.double (0 : UInt64)) := D40 (Or.inl (hw _ (List.mem_of_getElem? (i := 43) rfl))) (ty := .double) (by decide)
  have F_dV_a : Fld Z h40 a "com/example/brinewright/brinewright/ResidualHelmholtz" "dV" "D" (.double (0 : UInt64)) := D40 (Or.inl (hw _ (List.mem_of_getElem? (i := 50) rfl))) (ty := .double) (by decide)
  refine Goes.by (T' := T40) (g' := (mkF m 28 #[.val (.int x0), .val (.int x1), .val (.int x2), .val (.int x3), .val (.int x4), .val (.int x5), .val (.int n), .val (.int ci), .val (.int oi), .unset, .unset, .unset, .unset, .unset, .unset, .unset, .unset] [(.ref a)])) st40 ?_
  refine Goes.by (T' := T40) (g' := (mkF m 29 #[.val (.int x0), .val (.int x1), .val (.int x2), .val (.int x3), .val (.int x4), .val (.int x5), .val (.int n), .val (.int ci), .val (.int oi), .unset, .unset, .unset, .unset, .unset, .unset, .unset, .unset] [(.ref a), (.ref a)])) (fun _ k => XS.dup X40.here hx rfl (hb hby at_28) rfl rfl k) ?_
  refine Goes.by (T' := T40) (g' := (mkF m 31 #[.val (.int x0), .val (.int x1), .val (.int x2), .val (.int x3), .val (.int x4), .val (.int x5), .val (.int n), .val (.int ci), .val (.int oi), .unset, .unset, .unset, .unset, .unset, .unset, .unset, .unset] [(.int n), (.ref a), (.ref a)])) (fun _ k => XS.iload X40.here hx rfl (hb hby at_29) rfl k) ?_
  obtain ⟨v41, T41, L41, X41, hQ41, st41⟩ := callI X40 hx hZ (y := (⟨"com/example/brinewright/brinewright/ResidualHelmholtz", "<init>", "(I)V"⟩ : MethodName)) rfl hown (hw _ (List.mem_of_getElem? (i := 4) rfl)) (hw _ (List.mem_of_getElem? (i := 5) rfl)) (hw _ (List.mem_of_getElem? (i := 6) rfl)) (hw _ (List.mem_of_getElem? (i := 3) rfl)) (by decide) e40 (a := a) (argsL := [(.int n)]) (rest := [(.ref a)]) (W := 1) (rm_init l Z a0 hw a n nn h40 n0 Z0 hn hnn E_a F_dN_a F_dNdV_a F_dNAtFreeVolume_a F_value_a F_dV_a ge_a) rfl (by decide) (by decide) (by decide) (by decide) (g := (mkF m 31 #[.val (.int x0), .val (.int x1), .val (.int x2), .val (.int x3), .val (.int x4), .val (.int x5), .val (.int n), .val (.int ci), .val (.int oi), .unset, .unset, .unset, .unset, .unset, .unset, .unset, .unset] [(.int n), (.ref a), (.ref a)])) rfl (by rw [hml]; rfl) (lenOf pd0 rfl) rfl (by show 2 * 0 + _ ≤ _; exact Nat.le_of_eq rfl) (hb hby at_31)
  obtain ⟨rfl, ⟨b0, b1, b2, sz0, sz1, sz2, F_dN_a, F_dNdV_a, F_dNAtFreeVolume_a, F_value_a, F_dV_a, V_b0, V_b1, V_b2, ne_b0_b1, ne_b0_b2, ne_b1_b2⟩, K41, NL41⟩ := hQ41
  have N0 := Fr.app N0 NL41
  have ne_a_b0 : a ≠ b0 := fun q => Nat.lt_irrefl _ (Nat.lt_of_lt_of_le E_a.lt (Nat.le_trans sz0 (Nat.le_of_eq q.symm)))
  have ge_b0 : n0 ≤ b0 := Nat.le_trans Z0 sz0
  have ne_a_b1 : a ≠ b1 := fun q => Nat.lt_irrefl _ (Nat.lt_of_lt_of_le E_a.lt (Nat.le_trans sz1 (Nat.le_of_eq q.symm)))
  have ge_b1 : n0 ≤ b1 := Nat.le_trans Z0 sz1
  have ne_a_b2 : a ≠ b2 := fun q => Nat.lt_irrefl _ (Nat.lt_of_lt_of_le E_a.lt (Nat.le_trans sz2 (Nat.le_of_eq q.symm)))
  have ge_b2 : n0 ≤ b2 := Nat.le_trans Z0 sz2
  have e41 : T41.heap = T41.heap := rfl
  have E_a := E_a.keep K41
  have Z0 := Nat.le_trans Z0 K41.1
  refine Goes.by (T' := T41) (g' := (mkF m 34 #[.val (.int x0), .val (.int x1), .val (.int x2), .val (.int x3), .val (.int x4), .val (.int x5), .val (.int n), .val (.int ci), .val (.int oi), .unset, .unset, .unset, .unset, .unset, .unset, .unset, .unset] [(.ref a)])) st41 ?_
  have bx3 : x3.toInt.natAbs ≤ 2147483648 := by have := rng32 x3; omega
  have bx4 : x4.toInt.natAbs ≤ 2147483648 := by have := rng32 x4; omega
  have bx5 : x5.toInt.natAbs ≤ 2147483648 := by have := rng32 x5; omega
  have rep0 : ∀ k : Nat, k < nn → (List.replicate nn (Value.double (0 : UInt64)))[k]? = some (.double (0 : UInt64)) := fun k hk => by rw [List.getElem?_replicate, if_pos hk]
  refine Goes.by (T' := T41) (g' := (mkF m 36 #[.val (.int x0), .val (.int x1), .val (.int x2), .val (.int x3), .val (.int x4), .val (.int x5), .val (.int n), .val (.int ci), .val (.int oi), .val (.ref a), .unset, .unset, .unset, .unset, .unset, .unset, .unset] [])) (fun _ k => XS.astore X41.here hx rfl (hb hby at_34) rfl rfl (l' := #[.val (.int x0), .val (.int x1), .val (.int x2), .val (.int x3), .val (.int x4), .val (.int x5), .val (.int n), .val (.int ci), .val (.int oi), .val (.ref a), .unset, .unset, .unset, .unset, .unset, .unset, .unset]) rfl k) ?_
  refine Goes.by (T' := T41) (g' := (mkF m 38 #[.val (.int x0), .val (.int x1), .val (.int x2), .val (.int x3), .val (.int x4), .val (.int x5), .val (.int n), .val (.int ci), .val (.int oi), .val (.ref a), .unset, .unset, .unset, .unset, .unset, .unset, .unset] [(.ref a)])) (fun _ k => XS.aload X41.here hx rfl (hb hby at_36) rfl rfl k) ?_
  refine Goes.by (T' := T41) (g' := (mkF m 40 #[.val (.int x0), .val (.int x1), .val (.int x2), .val (.int x3), .val (.int x4), .val (.int x5), .val (.int n), .val (.int ci), .val (.int oi), .val (.ref a), .unset, .unset, .unset, .unset, .unset, .unset, .unset] [(.int ci), (.ref a)])) (fun _ k => XS.iload X41.here hx rfl (hb hby at_38) rfl k) ?_
  refine Goes.by (T' := T41) (g' := (mkF m 41 #[.val (.int x0), .val (.int x1), .val (.int x2), .val (.int x3), .val (.int x4), .val (.int x5), .val (.int n), .val (.int ci), .val (.int oi), .val (.ref a), .unset, .unset, .unset, .unset, .unset, .unset, .unset] [(.int x3), (.int ci), (.ref a)])) (fun _ k => XS.iloadN X41.here hx rfl (hb hby at_40) rfl k) ?_
  obtain ⟨v0, q_v0⟩ : ∃ zz, FP.i2d x3 = zz := ⟨_, rfl⟩
  refine Goes.by (T' := T41) (g' := (mkF m 42 #[.val (.int x0), .val (.int x1), .val (.int x2), .val (.int x3), .val (.int x4), .val (.int x5), .val (.int n), .val (.int ci), .val (.int oi), .val (.ref a), .unset, .unset, .unset, .unset, .unset, .unset, .unset] [(.double v0), (.int ci), (.ref a)])) (fun _ k => XS.i2dS X41.here hx rfl (hb hby at_41) rfl q_v0 k) ?_
  refine Goes.by (T' := T41) (g' := (mkF m 44 #[.val (.int x0), .val (.int x1), .val (.int x2), .val (.int x3), .val (.int x4), .val (.int x5), .val (.int n), .val (.int ci), .val (.int oi), .val (.ref a), .unset, .unset, .unset, .unset, .unset, .unset, .unset] [(.int x4), (.double v0), (.int ci), (.ref a)])) (fun _ k => XS.iload X41.here hx rfl (hb hby at_42) rfl k) ?_
  obtain ⟨v1, q_v1⟩ : ∃ zz, FP.i2d x4 = zz := ⟨_, rfl⟩
  refine Goes.by (T' := T41) (g' := (mkF m 45 #[.val (.int x0), .val (.int x1), .val (.int x2), .val (.int x3), .val (.int x4), .val (.int x5), .val (.int n), .val (.int ci), .val (.int oi), .val (.ref a), .unset, .unset, .unset, .unset, .unset, .unset, .unset] [(.double v1), (.double v0), (.int ci), (.ref a)])) (fun _ k => XS.i2dS X41.here hx rfl (hb hby at_44) rfl q_v1 k) ?_
  refine Goes.by (T' := T41) (g' := (mkF m 47 #[.val (.int x0), .val (.int x1), .val (.int x2), .val (.int x3), .val (.int x4), .val (.int x5), .val (.int n), .val (.int ci), .val (.int oi), .val (.ref a), .unset, .unset, .unset, .unset, .unset, .unset, .unset] [(.int x5), (.double v1), (.double v0), (.int ci), (.ref a)])) (fun _ k => XS.iload X41.here hx rfl (hb hby at_45) rfl k) ?_
  obtain ⟨v2, q_v2⟩ : ∃ zz, FP.i2d x5 = zz := ⟨_, rfl⟩
  refine Goes.by (T' := T41) (g' := (mkF m 48 #[.val (.int x0), .val (.int x1), .val (.int x2), .val (.int x3), .val (.int x4), .val (.int x5), .val (.int n), .val (.int ci), .val (.int oi), .val (.ref a), .unset, .unset, .unset, .unset, .unset, .unset, .unset] [(.double v2), (.double v1), (.double v0), (.int ci), (.ref a)])) (fun _ k => XS.i2dS X41.here hx rfl (hb hby at_47) rfl q_v2 k) ?_
  obtain ⟨v42, T42, L42, X42, hQ42, st42⟩ := callV X41 hx hZ (y := (⟨"com/example/brinewright/brinewright/ResidualHelmholtz", "addComponent", "(IDDD)V"⟩ : MethodName)) hown (hw _ (List.mem_of_getElem? (i := 17) rfl)) (hw _ (List.mem_of_getElem? (i := 18) rfl)) (hw _ (List.mem_of_getElem? (i := 20) rfl)) (hw _ (List.mem_of_getElem? (i := 19) rfl)) (hw _ (List.mem_of_getElem? (i := 21) rfl)) (hw _ (List.mem_of_getElem? (i := 3) rfl)) (by decide) e41 E_a (argsL := [(.int ci), (.double v0), (.double v1), (.double v2)]) (rest := []) (W := 0) (rm_add l Z a0 hw a b0 b1 b2 ci kci (List.replicate nn (Value.double (0 : UInt64))) (List.replicate nn (Value.double (0 : UInt64))) (List.replicate nn (Value.double (0 : UInt64))) (0 : UInt64) (0 : UInt64) (0 : UInt64) v0 v1 v2 0 0 0 x3.toInt x4.toInt x5.toInt T41.heap n0 Z0 F_dN_a F_dNdV_a F_dNAtFreeVolume_a V_b0 (rep0 kci lkci) ne_a_b0 ge_b0 V_b1 (rep0 kci lkci) ne_a_b1 ge_b1 V_b2 (rep0 kci lkci) ne_a_b2 ge_b2 ne_b0_b1 ne_b0_b2 ne_b1_b2 hkci DInt_zero (DInt_i2d q_v0) (by omega) (by omega) DInt_zero (DInt_i2d q_v1) (by omega) (by omega) DInt_zero (DInt_i2d q_v2) (by omega) (by omega)) rfl (by decide) (by decide) (by decide) (by decide) (g := (mkF m 48 #[.val (.int x0), .val (.int x1), .val (.int x2), .val (.int x3), .val (.int x4), .val (.int x5), .val (.int n), .val (.int ci), .val (.int oi), .val (.ref a), .unset, .unset, .unset, .unset, .unset, .unset, .unset] [(.double v2), (.double v1), (.double v0), (.int ci), (.ref a)])) rfl (by rw [hml]; rfl) (lenOf pd1 rfl) rfl (by show 2 * 0 + _ ≤ _; exact Nat.le_of_eq rfl) (hb hby at_48)
  obtain ⟨rfl, ⟨s0, s1, s2, Ds0, Ds1, Ds2, V_b0, V_b1, V_b2⟩, K42, NL42⟩ := hQ42
  have N0 := Fr.app N0 NL42
  have e42 : T42.heap = T42.heap := rfl
  have E_a := E_a.keep K42
  have F_dN_a := F_dN_a.keep K42 (ninS ne_a_b0 (ninS ne_a_b1 (ninS ne_a_b2 nin0)))
  have F_dNdV_a := F_dNdV_a.keep K42 (ninS ne_a_b0 (ninS ne_a_b1 (ninS ne_a_b2 nin0)))
  have F_dNAtFreeVolume_a := F_dNAtFreeVolume_a.keep K42 (ninS ne_a_b0 (ninS ne_a_b1 (ninS ne_a_b2 nin0)))
  have F_value_a := F_value_a.keep K42 (ninS ne_a_b0 (ninS ne_a_b1 (ninS ne_a_b2 nin0)))
  have F_dV_a := F_dV_a.keep K42 (ninS ne_a_b0 (ninS ne_a_b1 (ninS ne_a_b2 nin0)))
  have Z0 := Nat.le_trans Z0 K42.1
  refine Goes.by (T' := T42) (g' := (mkF m 51 #[.val (.int x0), .val (.int x1), .val (.int x2), .val (.int x3), .val (.int x4), .val (.int x5), .val (.int n), .val (.int ci), .val (.int oi), .val (.ref a), .unset, .unset, .unset, .unset, .unset, .unset, .unset] [])) st42 ?_
  refine Goes.by (T' := T42) (g' := (mkF m 53 #[.val (.int x0), .val (.int x1), .val (.int x2), .val (.int x3), .val (.int x4), .val (.int x5), .val (.int n), .val (.int ci), .val (.int oi), .val (.ref a), .unset, .unset, .unset, .unset, .unset, .unset, .unset] [(.ref a)])) (fun _ k => XS.aload X42.here hx rfl (hb hby at_51) rfl rfl k) ?_
  refine Goes.by (T' := T42) (g' := (mkF m 55 #[.val (.int x0), .val (.int x1), .val (.int x2), .val (.int x3), .val (.int x4), .val (.int x5), .val (.int n), .val (.int ci), .val (.int oi), .val (.ref a), .unset, .unset, .unset, .unset, .unset, .unset, .unset] [(.int ci), (.ref a)])) (fun _ k => XS.iload X42.here hx rfl (hb hby at_53) rfl k) ?_
  refine Goes.by (T' := T42) (g' := (mkF m 57 #[.val (.int x0), .val (.int x1), .val (.int x2), .val (.int x3), .val (.int x4), .val (.int x5), .val (.int n), .val (.int ci), .val (.int oi), .val (.ref a), .unset, .unset, .unset, .unset, .unset, .unset, .unset] [(.int x4), (.int ci), (.ref a)])) (fun _ k => XS.iload X42.here hx rfl (hb hby at_55) rfl k) ?_
  obtain ⟨v3, q_v3⟩ : ∃ zz, FP.i2d x4 = zz := ⟨_, rfl⟩
  refine Goes.by (T' := T42) (g' := (mkF m 58 #[.val (.int x0), .val (.int x1), .val (.int x2), .val (.int x3), .val (.int x4), .val (.int x5), .val (.int n), .val (.int ci), .val (.int oi), .val (.ref a), .unset, .unset, .unset, .unset, .unset, .unset, .unset] [(.double v3), (.int ci), (.ref a)])) (fun _ k => XS.i2dS X42.here hx rfl (hb hby at_57) rfl q_v3 k) ?_
  refine Goes.by (T' := T42) (g' := (mkF m 60 #[.val (.int x0), .val (.int x1), .val (.int x2), .val (.int x3), .val (.int x4), .val (.int x5), .val (.int n), .val (.int ci), .val (.int oi), .val (.ref a), .unset, .unset, .unset, .unset, .unset, .unset, .unset] [(.int x5), (.double v3), (.int ci), (.ref a)])) (fun _ k => XS.iload X42.here hx rfl (hb hby at_58) rfl k) ?_
  obtain ⟨v4, q_v4⟩ : ∃ zz, FP.i2d x5 = zz := ⟨_, rfl⟩
  refine Goes.by (T' := T42) (g' := (mkF m 61 #[.val (.int x0), .val (.int x1), .val (.int x2), .val (.int x3), .val (.int x4), .val (.int x5), .val (.int n), .val (.int ci), .val (.int oi), .val (.ref a), .unset, .unset, .unset, .unset, .unset, .unset, .unset] [(.double v4), (.double v3), (.int ci), (.ref a)])) (fun _ k => XS.i2dS X42.here hx rfl (hb hby at_60) rfl q_v4 k) ?_
  refine Goes.by (T' := T42) (g' := (mkF m 62 #[.val (.int x0), .val (.int x1), .val (.int x2), .val (.int x3), .val (.int x4), .val (.int x5), .val (.int n), .val (.int ci), .val (.int oi), .val (.ref a), .unset, .unset, .unset, .unset, .unset, .unset, .unset] [(.int x3), (.double v4), (.double v3), (.int ci), (.ref a)])) (fun _ k => XS.iloadN X42.here hx rfl (hb hby at_61) rfl k) ?_
  obtain ⟨v5, q_v5⟩ : ∃ zz, FP.i2d x3 = zz := ⟨_, rfl⟩
  refine Goes.by (T' := T42) (g' := (mkF m 63 #[.val (.int x0), .val (.int x1), .val (.int x2), .val (.int x3), .val (.int x4), .val (.int x5), .val (.int n), .val (.int ci), .val (.int oi), .val (.ref a), .unset, .unset, .unset, .unset, .unset, .unset, .unset] [(.double v5), (.double v4), (.double v3), (.int ci), (.ref a)])) (fun _ k => XS.i2dS X42.here hx rfl (hb hby at_62) rfl q_v5 k) ?_
  obtain ⟨v43, T43, L43, X43, hQ43, st43⟩ := callV X42 hx hZ (y := (⟨"com/example/brinewright/brinewright/ResidualHelmholtz", "addComponent", "(IDDD)V"⟩ : MethodName)) hown (hw _ (List.mem_of_getElem? (i := 17) rfl)) (hw _ (List.mem_of_getElem? (i := 18) rfl)) (hw _ (List.mem_of_getElem? (i := 20) rfl)) (hw _ (List.mem_of_getElem? (i := 19) rfl)) (hw _ (List.mem_of_getElem? (i := 21) rfl)) (hw _ (List.mem_of_getElem? (i := 3) rfl)) (by decide) e42 E_a (argsL := [(.int ci), (.double v3), (.double v4), (.double v5)]) (rest := []) (W := 0) (rm_add l Z a0 hw a b0 b1 b2 ci kci ((List.replicate nn (Value.double (0 : UInt64))).set kci (.double s0)) ((List.replicate nn (Value.double (0 : UInt64))).set kci (.double s1)) ((List.replicate nn (Value.double (0 : UInt64))).set kci (.double s2)) s0 s1 s2 v3 v4 v5 (0 + x3.toInt) (0 + x4.toInt) (0 + x5.toInt) x4.toInt x5.toInt x3.toInt T42.heap n0 Z0 F_dN_a F_dNdV_a F_dNAtFreeVolume_a V_b0 (by rw [List.getElem?_set_self (by simpa using lkci)]) ne_a_b0 ge_b0 V_b1 (by rw [List.getElem?_set_self (by simpa using lkci)]) ne_a_b1 ge_b1 V_b2 (by rw [List.getElem?_set_self (by simpa using lkci)]) ne_a_b2 ge_b2 ne_b0_b1 ne_b0_b2 ne_b1_b2 hkci Ds0 (DInt_i2d q_v3) (by omega) (by omega) Ds1 (DInt_i2d q_v4) (by omega) (by omega) Ds2 (DInt_i2d q_v5) (by omega) (by omega)) rfl (by decide) (by decide) (by decide) (by decide) (g := (mkF m 63 #[.val (.int x0), .val (.int x1), .val (.int x2), .val (.int x3), .val (.int x4), .val (.int x5), .val (.int n), .val (.int ci), .val (.int oi), .val (.ref a), .unset, .unset, .unset, .unset, .unset, .unset, .unset] [(.double v5), (.double v4), (.double v3), (.int ci), (.ref a)])) rfl (by rw [hml]; rfl) (lenOf pd1 rfl) rfl (by show 2 * 0 + _ ≤ _; exact Nat.le_of_eq rfl) (hb hby at_63)
  obtain ⟨rfl, ⟨t0, t1, t2, Dt0, Dt1, Dt2, V_b0, V_b1, V_b2⟩, K43, NL43⟩ := hQ43
  have N0 := Fr.app N0 NL43
  have e43 : T43.heap = T43.heap := rfl
  have E_a := E_a.keep K43
  have F_dN_a := F_dN_a.keep K43 (ninS ne_a_b0 (ninS ne_a_b1 (ninS ne_a_b2 nin0)))
  have F_dNdV_a := F_dNdV_a.keep K43 (ninS ne_a_b0 (ninS ne_a_b1 (ninS ne_a_b2 nin0)))
  have F_dNAtFreeVolume_a := F_dNAtFreeVolume_a.keep K43 (ninS ne_a_b0 (ninS ne_a_b1 (ninS ne_a_b2 nin0)))
  have F_value_a := F_value_a.keep K43 (ninS ne_a_b0 (ninS ne_a_b1 (ninS ne_a_b2 nin0)))
  have F_dV_a := F_dV_a.keep K43 (ninS ne_a_b0 (ninS ne_a_b1 (ninS ne_a_b2 nin0)))
  have Z0 := Nat.le_trans Z0 K43.1
  refine Goes.by (T' := T43) (g' := (mkF m 66 #[.val (.int x0), .val (.int x1), .val (.int x2), .val (.int x3), .val (.int x4), .val (.int x5), .val (.int n), .val (.int ci), .val (.int oi), .val (.ref a), .unset, .unset, .unset, .unset, .unset, .unset, .unset] [])) st43 ?_
  refine Goes.by (T' := T43) (g' := (mkF m 67 #[.val (.int x0), .val (.int x1), .val (.int x2), .val (.int x3), .val (.int x4), .val (.int x5), .val (.int n), .val (.int ci), .val (.int oi), .val (.ref a), .unset, .unset, .unset, .unset, .unset, .unset, .unset] [(.int x3)])) (fun _ k => XS.iloadN X43.here hx rfl (hb hby at_66) rfl k) ?_
  refine Goes.by (T' := T43) (g' := (mkF m 68 #[.val (.int x0), .val (.int x1), .val (.int x2), .val (.int x3), .val (.int x4), .val (.int x5), .val (.int n), .val (.int ci), .val (.int oi), .val (.ref a), .unset, .unset, .unset, .unset, .unset, .unset, .unset] [(.long ((x3).toInt64))])) (fun _ k => XS.i2l X43.here hx rfl (hb hby at_67) rfl k) ?_
  refine Goes.by (T' := T43) (g' := (mkF m 70 #[.val (.int x0), .val (.int x1), .val (.int x2), .val (.int x3), .val (.int x4), .val (.int x5), .val (.int n), .val (.int ci), .val (.int oi), .val (.ref a), .unset, .unset, .unset, .unset, .unset, .unset, .unset] [(.int x4), (.long ((x3).toInt64))])) (fun _ k => XS.iload X43.here hx rfl (hb hby at_68) rfl k) ?_
  refine Goes.by (T' := T43) (g' := (mkF m 71 #[.val (.int x0), .val (.int x1), .val (.int x2), .val (.int x3), .val (.int x4), .val (.int x5), .val (.int n), .val (.int ci), .val (.int oi), .val (.ref a), .unset, .unset, .unset, .unset, .unset, .unset, .unset] [(.long ((x4).toInt64)), (.long ((x3).toInt64))])) (fun _ k => XS.i2l X43.here hx rfl (hb hby at_70) rfl k) ?_
  refine Goes.by (T' := T43) (g' := (mkF m 72 #[.val (.int x0), .val (.int x1), .val (.int x2), .val (.int x3), .val (.int x4), .val (.int x5), .val (.int n), .val (.int ci), .val (.int oi), .val (.ref a), .unset, .unset, .unset, .unset, .unset, .unset, .unset] [(.long (((x3).toInt64) + ((x4).toInt64)))])) (fun _ k => XS.ladd X43.here hx rfl (hb hby at_71) rfl k) ?_
  obtain ⟨y0, q_y0⟩ : ∃ zz : Int64, zz = (((x3).toInt64) + ((x4).toInt64)) := ⟨_, rfl⟩
  rw [← q_y0]
  have ey0 : y0.toInt = x3.toInt + x4.toInt := by rw [q_y0, own_ladd (by rw [c_i2l, c_i2l]; omega) (by rw [c_i2l, c_i2l]; omega), c_i2l, c_i2l]
  obtain ⟨ev0, q_ev0⟩ : ∃ zz, FP.l2d y0 = zz := ⟨_, rfl⟩
  refine Goes.by (T' := T43) (g' := (mkF m 73 #[.val (.int x0), .val (.int x1), .val (.int x2), .val (.int x3), .val (.int x4), .val (.int x5), .val (.int n), .val (.int ci), .val (.int oi), .val (.ref a), .unset, .unset, .unset, .unset, .unset, .unset, .unset] [(.double ev0)])) (fun _ k => XS.l2dS X43.here hx rfl (hb hby at_72) rfl q_ev0 k) ?_
  have DE0 : Core.DInt y0.toInt ev0 := DInt_l2d q_ev0 (by rw [ey0]; omega)
  refine Goes.by (T' := T43) (g' := (mkF m 75 #[.val (.int x0), .val (.int x1), .val (.int x2), .val (.int x3), .val (.int x4), .val (.int x5), .val (.int n), .val (.int ci), .val (.int oi), .val (.ref a), .val (.double ev0), .second, .unset, .unset, .unset, .unset, .unset] [])) (fun _ k => XS.dstore X43.here hx rfl (hb hby at_73) rfl (l' := #[.val (.int x0), .val (.int x1), .val (.int x2), .val (.int x3), .val (.int x4), .val (.int x5), .val (.int n), .val (.int ci), .val (.int oi), .val (.ref a), .val (.double ev0), .second, .unset, .unset, .unset, .unset, .unset]) rfl k) ?_
  refine Goes.by (T' := T43) (g' := (mkF m 77 #[.val (.int x0), .val (.int x1), .val (.int x2), .val (.int x3), .val (.int x4), .val (.int x5), .val (.int n), .val (.int ci), .val (.int oi), .val (.ref a), .val (.double ev0), .second, .unset, .unset, .unset, .unset, .unset] [(.int x4)])) (fun _ k => XS.iload X43.here hx rfl (hb hby at_75) rfl k) ?_
  refine Goes.by (T' := T43) (g' := (mkF m 78 #[.val (.int x0), .val (.int x1), .val (.int x2), .val (.int x3), .val (.int x4), .val (.int x5), .val (.int n), .val (.int ci), .val (.int oi), .val (.ref a), .val (.double ev0), .second, .unset, .unset, .unset, .unset, .unset] [(.long ((x4).toInt64))])) (fun _ k => XS.i2l X43.here hx rfl (hb hby at_77) rfl k) ?_
  refine Goes.by (T' := T43) (g' := (mkF m 80 #[.val (.int x0), .val (.int x1), .val (.int x2), .val (.int x3), .val (.int x4), .val (.int x5), .val (.int n), .val (.int ci), .val (.int oi), .val (.ref a), .val (.double ev0), .second, .unset, .unset, .unset, .unset, .unset] [(.int x5), (.long ((x4).toInt64))])) (fun _ k => XS.iload X43.here hx rfl (hb hby at_78) rfl k) ?_
  refine Goes.by (T' := T43) (g' := (mkF m 81 #[.val (.int x0), .val (.int x1), .val (.int x2), .val (.int x3), .val (.int x4), .val (.int x5), .val (.int n), .val (.int ci), .val (.int oi), .val (.ref a), .val (.double ev0), .second, .unset, .unset, .unset, .unset, .unset] [(.long ((x5).toInt64)), (.long ((x4).toInt64))])) (fun _ k => XS.i2l X43.here hx rfl (hb hby at_80) rfl k) ?_
  refine Goes.by (T' := T43) (g' := (mkF m 82 #[.val (.int x0), .val (.int x1), .val (.int x2), .val (.int x3), .val (.int x4), .val (.int x5), .val (.int n), .val (.int ci), .val (.int oi), .val (.ref a), .val (.double ev0), .second, .unset, .unset, .unset, .unset, .unset] [(.long (((x4).toInt64) + ((x5).toInt64)))])) (fun _ k => XS.ladd X43.here hx rfl (hb hby at_81) rfl k) ?_
  obtain ⟨y1, q_y1⟩ : ∃ zz : Int64, zz = (((x4).toInt64) + ((x5).toInt64)) := ⟨_, rfl⟩
  rw [← q_y1]
  have ey1 : y1.toInt = x4.toInt + x5.toInt := by rw [q_y1, own_ladd (by rw [c_i2l, c_i2l]; omega) (by rw [c_i2l, c_i2l]; omega), c_i2l, c_i2l]
  obtain ⟨ev1, q_ev1⟩ : ∃ zz, FP.l2d y1 = zz := ⟨_, rfl⟩
  refine Goes.by (T' := T43) (g' := (mkF m 83 #[.val (.int x0), .val (.int x1), .val (.int x2), .val (.int x3), .val (.int x4), .val (.int x5), .val (.int n), .val (.int ci), .val (.int oi), .val (.ref a), .val (.double ev0), .second, .unset, .unset, .unset, .unset, .unset] [(.double ev1)])) (fun _ k => XS.l2dS X43.here hx rfl (hb hby at_82) rfl q_ev1 k) ?_
  have DE1 : Core.DInt y1.toInt ev1 := DInt_l2d q_ev1 (by rw [ey1]; omega)
  refine Goes.by (T' := T43) (g' := (mkF m 85 #[.val (.int x0), .val (.int x1), .val (.int x2), .val (.int x3), .val (.int x4), .val (.int x5), .val (.int n), .val (.int ci), .val (.int oi), .val (.ref a), .val (.double ev0), .second, .val (.double ev1), .second, .unset, .unset, .unset] [])) (fun _ k => XS.dstore X43.here hx rfl (hb hby at_83) rfl (l' := #[.val (.int x0), .val (.int x1), .val (.int x2), .val (.int x3), .val (.int x4), .val (.int x5), .val (.int n), .val (.int ci), .val (.int oi), .val (.ref a), .val (.double ev0), .second, .val (.double ev1), .second, .unset, .unset, .unset]) rfl k) ?_
  refine Goes.by (T' := T43) (g' := (mkF m 87 #[.val (.int x0), .val (.int x1), .val (.int x2), .val (.int x3), .val (.int x4), .val (.int x5), .val (.int n), .val (.int ci), .val (.int oi), .val (.ref a), .val (.double ev0), .second, .val (.double ev1), .second, .unset, .unset, .unset] [(.int x5)])) (fun _ k => XS.iload X43.here hx rfl (hb hby at_85) rfl k) ?_
  refine Goes.by (T' := T43) (g' := (mkF m 88 #[.val (.int x0), .val (.int x1), .val (.int x2), .val (.int x3), .val (.int x4), .val (.int x5), .val (.int n), .val (.int ci), .val (.int oi), .val (.ref a), .val (.double ev0), .second, .val (.double ev1), .second, .unset, .unset, .unset] [(.long ((x5).toInt64))])) (fun _ k => XS.i2l X43.here hx rfl (hb hby at_87) rfl k) ?_
  refine Goes.by (T' := T43) (g' := (mkF m 89 #[.val (.int x0), .val (.int x1), .val (.int x2), .val (.int x3), .val (.int x4), .val (.int x5), .val (.int n), .val (.int ci), .val (.int oi), .val (.ref a), .val (.double ev0), .second, .val (.double ev1), .second, .unset, .unset, .unset] [(.int x3), (.long ((x5).toInt64))])) (fun _ k => XS.iloadN X43.here hx rfl (hb hby at_88) rfl k) ?_
  refine Goes.by (T' := T43) (g' := (mkF m 90 #[.val (.int x0), .val (.int x1), .val (.int x2), .val (.int x3), .val (.int x4), .val (.int x5), .val (.int n), .val (.int ci), .val (.int oi), .val (.ref a), .val (.double ev0), .second, .val (.double ev1), .second, .unset, .unset, .unset] [(.long ((x3).toInt64)), (.long ((x5).toInt64))])) (fun _ k => XS.i2l X43.here hx rfl (hb hby at_89) rfl k) ?_
  refine Goes.by (T' := T43) (g' := (mkF m 91 #[.val (.int x0), .val (.int x1), .val (.int x2), .val (.int x3), .val (.int x4), .val (.int x5), .val (.int n), .val (.int ci), .val (.int oi), .val (.ref a), .val (.double ev0), .second, .val (.double ev1), .second, .unset, .unset, .unset] [(.long (((x5).toInt64) + ((x3).toInt64)))])) (fun _ k => XS.ladd X43.here hx rfl (hb hby at_90) rfl k) ?_
  obtain ⟨y2, q_y2⟩ : ∃ zz : Int64, zz = (((x5).toInt64) + ((x3).toInt64)) := ⟨_, rfl⟩
  rw [← q_y2]
  have ey2 : y2.toInt = x5.toInt + x3.toInt := by rw [q_y2, own_ladd (by rw [c_i2l, c_i2l]; omega) (by rw [c_i2l, c_i2l]; omega), c_i2l, c_i2l]
  obtain ⟨ev2, q_ev2⟩ : ∃ zz, FP.l2d y2 = zz := ⟨_, rfl⟩
  refine Goes.by (T' := T43) (g' := (mkF m 92 #[.val (.int x0), .val (.int x1), .val (.int x2), .val (.int x3), .val (.int x4), .val (.int x5), .val (.int n), .val (.int ci), .val (.int oi), .val (.ref a), .val (.double ev0), .second, .val (.double ev1), .second, .unset, .unset, .unset] [(.double ev2)])) (fun _ k => XS.l2dS X43.here hx rfl (hb hby at_91) rfl q_ev2 k) ?_
  have DE2 : Core.DInt y2.toInt ev2 := DInt_l2d q_ev2 (by rw [ey2]; omega)
  refine Goes.by (T' := T43) (g' := (mkF m 94 #[.val (.int x0), .val (.int x1), .val (.int x2), .val (.int x3), .val (.int x4), .val (.int x5), .val (.int n), .val (.int ci), .val (.int oi), .val (.ref a), .val (.double ev0), .second, .val (.double ev1), .second, .val (.double ev2), .second, .unset] [])) (fun _ k => XS.dstore X43.here hx rfl (hb hby at_92) rfl (l' := #[.val (.int x0), .val (.int x1), .val (.int x2), .val (.int x3), .val (.int x4), .val (.int x5), .val (.int n), .val (.int ci), .val (.int oi), .val (.ref a), .val (.double ev0), .second, .val (.double ev1), .second, .val (.double ev2), .second, .unset]) rfl k) ?_
  refine Goes.by (T' := T43) (g' := (mkF m 96 #[.val (.int x0), .val (.int x1), .val (.int x2), .val (.int x3), .val (.int x4), .val (.int x5), .val (.int n), .val (.int ci), .val (.int oi), .val (.ref a), .val (.double ev0), .second, .val (.double ev1), .second, .val (.double ev2), .second, .unset] [(.ref a)])) (fun _ k => XS.aload X43.here hx rfl (hb hby at_94) rfl rfl k) ?_
  refine Goes.by (T' := T43) (g' := (mkF m 98 #[.val (.int x0), .val (.int x1), .val (.int x2), .val (.int x3), .val (.int x4), .val (.int x5), .val (.int n), .val (.int ci), .val (.int oi), .val (.ref a), .val (.double ev0), .second, .val (.double ev1), .second, .val (.double ev2), .second, .unset] [(.int ci), (.ref a)])) (fun _ k => XS.iload X43.here hx rfl (hb hby at_96) rfl k) ?_
  obtain ⟨v44, T44, L44, X44, hQ44, st44⟩ := callV X43 hx hZ (y := (⟨"com/example/brinewright/brinewright/ResidualHelmholtz", "dN", "(I)D"⟩ : MethodName)) hown (hw _ (List.mem_of_getElem? (i := 22) rfl)) (hw _ (List.mem_of_getElem? (i := 23) rfl)) (hw _ (List.mem_of_getElem? (i := 25) rfl)) (hw _ (List.mem_of_getElem? (i := 24) rfl)) (hw _ (List.mem_of_getElem? (i := 26) rfl)) (hw _ (List.mem_of_getElem? (i := 3) rfl)) (by decide) e43 E_a (argsL := [(.int ci)]) (rest := []) (W := 0) (rm_dN l Z a0 hw a b0 ci (((List.replicate nn (Value.double (0 : UInt64))).set kci (.double s0)).set kci (.double t0)) kci t0 T43.heap n0 Z0 F_dN_a V_b0 hkci (by rw [List.getElem?_set_self (by simpa using lkci)])) rfl (by decide) (by decide) (by decide) (by decide) (g := (mkF m 98 #[.val (.int x0), .val (.int x1), .val (.int x2), .val (.int x3), .val (.int x4), .val (.int x5), .val (.int n), .val (.int ci), .val (.int oi), .val (.ref a), .val (.double ev0), .second, .val (.double ev1), .second, .val (.double ev2), .second, .unset] [(.int ci), (.ref a)])) rfl (by rw [hml]; rfl) (lenOf pd3 rfl) rfl (by show 2 * 0 + _ ≤ _; exact Nat.le_of_eq rfl) (hb hby at_98)
  obtain ⟨rfl, NL44, hk44⟩ := hQ44
  have N0 := Fr.app N0 NL44
  refine Goes.by (T' := T44) (g' := (mkF m 101 #[.val (.int x0), .val (.int x1), .val (.int x2), .val (.int x3), .val (.int x4), .val (.int x5), .val (.int n), .val (.int ci), .val (.int oi), .val (.ref a), .val (.double ev0), .second, .val (.double ev1), .second, .val (.double ev2), .second, .unset] [(.double t0)])) st44 ?_
  refine Goes.by (T' := T44) (g' := (mkF m 103 #[.val (.int x0), .val (.int x1), .val (.int x2), .val (.int x3), .val (.int x4), .val (.int x5), .val (.int n), .val (.int ci), .val (.int oi), .val (.ref a), .val (.double ev0), .second, .val (.double ev1), .second, .val (.double ev2), .second, .unset] [(.double ev0), (.double t0)])) (fun _ k => XS.dload X44.here hx rfl (hb hby at_101) rfl k) ?_
  refine Goes.by (T' := T44) (g' := (mkF m 104 #[.val (.int x0), .val (.int x1), .val (.int x2), .val (.int x3), .val (.int x4), .val (.int x5), .val (.int n), .val (.int ci), .val (.int oi), .val (.ref a), .val (.double ev0), .second, .val (.double ev1), .second, .val (.double ev2), .second, .unset] [(.int (0 : Int32))])) (fun _ k => XS.dcmpS X44.here hx rfl (hb hby at_103) rfl (cmpD_eq Dt0 DE0 (by rw [ey0]; omega) _) k) ?_
  refine Goes.by (T' := T44) (g' := (mkF m 107 #[.val (.int x0), .val (.int x1), .val (.int x2), .val (.int x3), .val (.int x4), .val (.int x5), .val (.int n), .val (.int ci), .val (.int oi), .val (.ref a), .val (.double ev0), .second, .val (.double ev1), .second, .val (.double ev2), .second, .unset] [])) (fun _ k => XS.ifNo X44.here hx rfl (hb hby at_104) rfl (by decide) k) ?_
  refine Goes.by (T' := T44) (g' := (mkF m 109 #[.val (.int x0), .val (.int x1), .val (.int x2), .val (.int x3), .val (.int x4), .val (.int x5), .val (.int n), .val (.int ci), .val (.int oi), .val (.ref a), .val (.double ev0), .second, .val (.double ev1), .second, .val (.double ev2), .second, .unset] [(.ref a)])) (fun _ k => XS.aload X44.here hx rfl (hb hby at_107) rfl rfl k) ?_
  refine Goes.by (T' := T44) (g' := (mkF m 111 #[.val (.int x0), .val (.int x1), .val (.int x2), .val (.int x3), .val (.int x4), .val (.int x5), .val (.int n), .val (.int ci), .val (.int oi), .val (.ref a), .val (.double ev0), .second, .val (.double ev1), .second, .val (.double ev2), .second, .unset] [(.int ci), (.ref a)])) (fun _ k => XS.iload X44.here hx rfl (hb hby at_109) rfl k) ?_
  obtain ⟨v45, T45, L45, X45, hQ45, st45⟩ := callV X44 hx hZ (y := (⟨"com/example/brinewright/brinewright/ResidualHelmholtz", "dNdV", "(I)D"⟩ : MethodName)) hown (hw _ (List.mem_of_getElem? (i := 27) rfl)) (hw _ (List.mem_of_getElem? (i := 28) rfl)) (hw _ (List.mem_of_getElem? (i := 30) rfl)) (hw _ (List.mem_of_getElem? (i := 29) rfl)) (hw _ (List.mem_of_getElem? (i := 31) rfl)) (hw _ (List.mem_of_getElem? (i := 3) rfl)) (by decide) hk44 E_a (argsL := [(.int ci)]) (rest := []) (W := 0) (rm_dNdV l Z a0 hw a b1 ci (((List.replicate nn (Value.double (0 : UInt64))).set kci (.double s1)).set kci (.double t1)) kci t1 T43.heap n0 Z0 F_dNdV_a V_b1 hkci (by rw [List.getElem?_set_self (by simpa using lkci)])) rfl (by decide) (by decide) (by decide) (by decide) (g := (mkF m 111 #[.val (.int x0), .val (.int x1), .val (.int x2), .val (.int x3), .val (.int x4), .val (.int x5), .val (.int n), .val (.int ci), .val (.int oi), .val (.ref a), .val (.double ev0), .second, .val (.double ev1), .second, .val (.double ev2), .second, .unset] [(.int ci), (.ref a)])) rfl (by rw [hml]; rfl) (lenOf pd3 rfl) rfl (by show 2 * 0 + _ ≤ _; exact Nat.le_of_eq rfl) (hb hby at_111)
  obtain ⟨rfl, NL45, hk45⟩ := hQ45
  have N0 := Fr.app N0 NL45
  refine Goes.by (T' := T45) (g' := (mkF m 114 #[.val (.int x0), .val (.int x1), .val (.int x2), .val (.int x3), .val (.int x4), .val (.int x5), .val (.int n), .val (.int ci), .val (.int oi), .val (.ref a), .val (.double ev0), .second, .val (.double ev1), .second, .val (.double ev2), .second, .unset] [(.double t1)])) st45 ?_
  refine Goes.by (T' := T45) (g' := (mkF m 116 #[.val (.int x0), .val (.int x1), .val (.int x2), .val (.int x3), .val (.int x4), .val (.int x5), .val (.int n), .val (.int ci), .val (.int oi), .val (.ref a), .val (.double ev0), .second, .val (.double ev1), .second, .val (.double ev2), .second, .unset] [(.double ev1), (.double t1)])) (fun _ k => XS.dload X45.here hx rfl (hb hby at_114) rfl k) ?_
  refine Goes.by (T' := T45) (g' := (mkF m 117 #[.val (.int x0), .val (.int x1), .val (.int x2), .val (.int x3), .val (.int x4), .val (.int x5), .val (.int n), .val (.int ci), .val (.int oi), .val (.ref a), .val (.double ev0), .second, .val (.double ev1), .second, .val (.double ev2), .second, .unset] [(.int (0 : Int32))])) (fun _ k => XS.dcmpS X45.here hx rfl (hb hby at_116) rfl (cmpD_eq Dt1 DE1 (by rw [ey1]; omega) _) k) ?_
  refine Goes.by (T' := T45) (g' := (mkF m 120 #[.val (.int x0), .val (.int x1), .val (.int x2), .val (.int x3), .val (.int x4), .val (.int x5), .val (.int n), .val (.int ci), .val (.int oi), .val (.ref a), .val (.double ev0), .second, .val (.double ev1), .second, .val (.double ev2), .second, .unset] [])) (fun _ k => XS.ifNo X45.here hx rfl (hb hby at_117) rfl (by decide) k) ?_
  refine Goes.by (T' := T45) (g' := (mkF m 122 #[.val (.int x0), .val (.int x1), .val (.int x2), .val (.int x3), .val (.int x4), .val (.int x5), .val (.int n), .val (.int ci), .val (.int oi), .val (.ref a), .val (.double ev0), .second, .val (.double ev1), .second, .val (.double ev2), .second, .unset] [(.ref a)])) (fun _ k => XS.aload X45.here hx rfl (hb hby at_120) rfl rfl k) ?_
  refine Goes.by (T' := T45) (g' := (mkF m 124 #[.val (.int x0), .val (.int x1), .val (.int x2), .val (.int x3), .val (.int x4), .val (.int x5), .val (.int n), .val (.int ci), .val (.int oi), .val (.ref a), .val (.double ev0), .second, .val (.double ev1), .second, .val (.double ev2), .second, .unset] [(.int ci), (.ref a)])) (fun _ k => XS.iload X45.here hx rfl (hb hby at_122) rfl k) ?_
  obtain ⟨v46, T46, L46, X46, hQ46, st46⟩ := callV X45 hx hZ (y := (⟨"com/example/brinewright/brinewright/ResidualHelmholtz", "dNAtFreeVolume", "(I)D"⟩ : MethodName)) hown (hw _ (List.mem_of_getElem? (i := 32) rfl)) (hw _ (List.mem_of_getElem? (i := 33) rfl)) (hw _ (List.mem_of_getElem? (i := 35) rfl)) (hw _ (List.mem_of_getElem? (i := 34) rfl)) (hw _ (List.mem_of_getElem? (i := 36) rfl)) (hw _ (List.mem_of_getElem? (i := 3) rfl)) (by decide) hk45 E_a (argsL := [(.int ci)]) (rest := []) (W := 0) (rm_dNAtFreeVolume l Z a0 hw a b2 ci (((List.replicate nn (Value.double (0 : UInt64))).set kci (.double s2)).set kci (.double t2)) kci t2 T43.heap n0 Z0 F_dNAtFreeVolume_a V_b2 hkci (by rw [List.getElem?_set_self (by simpa using lkci)])) rfl (by decide) (by decide) (by decide) (by decide) (g := (mkF m 124 #[.val (.int x0), .val (.int x1), .val (.int x2), .val (.int x3), .val (.int x4), .val (.int x5), .val (.int n), .val (.int ci), .val (.int oi), .val (.ref a), .val (.double ev0), .second, .val (.double ev1), .second, .val (.double ev2), .second, .unset] [(.int ci), (.ref a)])) rfl (by rw [hml]; rfl) (lenOf pd3 rfl) rfl (by show 2 * 0 + _ ≤ _; exact Nat.le_of_eq rfl) (hb hby at_124)
  obtain ⟨rfl, NL46, hk46⟩ := hQ46
  have N0 := Fr.app N0 NL46
  refine Goes.by (T' := T46) (g' := (mkF m 127 #[.val (.int x0), .val (.int x1), .val (.int x2), .val (.int x3), .val (.int x4), .val (.int x5), .val (.int n), .val (.int ci), .val (.int oi), .val (.ref a), .val (.double ev0), .second, .val (.double ev1), .second, .val (.double ev2), .second, .unset] [(.double t2)])) st46 ?_
  refine Goes.by (T' := T46) (g' := (mkF m 129 #[.val (.int x0), .val (.int x1), .val (.int x2), .val (.int x3), .val (.int x4), .val (.int x5), .val (.int n), .val (.int ci), .val (.int oi), .val (.ref a), .val (.double ev0), .second, .val (.double ev1), .second, .val (.double ev2), .second, .unset] [(.double ev2), (.double t2)])) (fun _ k => XS.dload X46.here hx rfl (hb hby at_127) rfl k) ?_
  refine Goes.by (T' := T46) (g' := (mkF m 130 #[.val (.int x0), .val (.int x1), .val (.int x2), .val (.int x3), .val (.int x4), .val (.int x5), .val (.int n), .val (.int ci), .val (.int oi), .val (.ref a), .val (.double ev0), .second, .val (.double ev1), .second, .val (.double ev2), .second, .unset] [(.int (0 : Int32))])) (fun _ k => XS.dcmpS X46.here hx rfl (hb hby at_129) rfl (cmpD_eq Dt2 DE2 (by rw [ey2]; omega) _) k) ?_
  refine Goes.by (T' := T46) (g' := (mkF m 133 #[.val (.int x0), .val (.int x1), .val (.int x2), .val (.int x3), .val (.int x4), .val (.int x5), .val (.int n), .val (.int ci), .val (.int oi), .val (.ref a), .val (.double ev0), .second, .val (.double ev1), .second, .val (.double ev2), .second, .unset] [])) (fun _ k => XS.ifNo X46.here hx rfl (hb hby at_130) rfl (by decide) k) ?_
  refine Goes.by (T' := T46) (g' := (mkF m 134 #[.val (.int x0), .val (.int x1), .val (.int x2), .val (.int x3), .val (.int x4), .val (.int x5), .val (.int n), .val (.int ci), .val (.int oi), .val (.ref a), .val (.double ev0), .second, .val (.double ev1), .second, .val (.double ev2), .second, .unset] [(.int (1 : Int32))])) (fun _ k => XS.iconst X46.here hx rfl (hb hby at_133)  k) ?_
  refine Goes.by (T' := T46) (g' := (mkF m 138 #[.val (.int x0), .val (.int x1), .val (.int x2), .val (.int x3), .val (.int x4), .val (.int x5), .val (.int n), .val (.int ci), .val (.int oi), .val (.ref a), .val (.double ev0), .second, .val (.double ev1), .second, .val (.double ev2), .second, .unset] [(.int (1 : Int32))])) (fun _ k => XS.goto X46.here hx rfl (pc0 := 134) (pc' := 138) rfl (hb hby at_134) (by decide) (by decide) k) ?_
  refine Goes.by (T' := T46) (g' := (mkF m 140 #[.val (.int x0), .val (.int x1), .val (.int x2), .val (.int x3), .val (.int x4), .val (.int x5), .val (.int n), .val (.int ci), .val (.int oi), .val (.ref a), .val (.double ev0), .second, .val (.double ev1), .second, .val (.double ev2), .second, .val (.int (1 : Int32))] [])) (fun _ k => XS.istore X46.here hx rfl (hb hby at_138) rfl (l' := #[.val (.int x0), .val (.int x1), .val (.int x2), .val (.int x3), .val (.int x4), .val (.int x5), .val (.int n), .val (.int ci), .val (.int oi), .val (.ref a), .val (.double ev0), .second, .val (.double ev1), .second, .val (.double ev2), .second, .val (.int (1 : Int32))]) rfl k) ?_
  refine Goes.by (T' := T46) (g' := (mkF m 142 #[.val (.int x0), .val (.int x1), .val (.int x2), .val (.int x3), .val (.int x4), .val (.int x5), .val (.int n), .val (.int ci), .val (.int oi), .val (.ref a), .val (.double ev0), .second, .val (.double ev1), .second, .val (.double ev2), .second, .val (.int (1 : Int32))] [(.int oi)])) (fun _ k => XS.iload X46.here hx rfl (hb hby at_140) rfl k) ?_
  refine Goes.by (T' := T46) (g' := (mkF m 144 #[.val (.int x0), .val (.int x1), .val (.int x2), .val (.int x3), .val (.int x4), .val (.int x5), .val (.int n), .val (.int ci), .val (.int oi), .val (.ref a), .val (.double ev0), .second, .val (.double ev1), .second, .val (.double ev2), .second, .val (.int (1 : Int32))] [(.int ci), (.int oi)])) (fun _ k => XS.iload X46.here hx rfl (hb hby at_142) rfl k) ?_
  by_cases hoc : oi = ci
  · refine Goes.by (T' := T46) (g' := (mkF m 195 #[.val (.int x0), .val (.int x1), .val (.int x2), .val (.int x3), .val (.int x4), .val (.int x5), .val (.int n), .val (.int ci), .val (.int oi), .val (.ref a), .val (.double ev0), .second, .val (.double ev1), .second, .val (.double ev2), .second, .val (.int (1 : Int32))] [])) (fun _ k => XS.icmpYes X46.here hx rfl (pc0 := 144) (pc' := 195) rfl (hb hby at_144) rfl (teq hoc).1 (by decide) (by decide) k) ?_
    refine Goes.by (T' := T46) (g' := (mkF m 197 #[.val (.int x0), .val (.int x1), .val (.int x2), .val (.int x3), .val (.int x4), .val (.int x5), .val (.int n), .val (.int ci), .val (.int oi), .val (.ref a), .val (.double ev0), .second, .val (.double ev1), .second, .val (.double ev2), .second, .val (.int (1 : Int32))] [(.int (1 : Int32))])) (fun _ k => XS.iload X46.here hx rfl (hb hby at_195) rfl k) ?_
    refine Goes.by (T' := T46) (g' := (mkF m 200 #[.val (.int x0), .val (.int x1), .val (.int x2), .val (.int x3), .val (.int x4), .val (.int x5), .val (.int n), .val (.int ci), .val (.int oi), .val (.ref a), .val (.double ev0), .second, .val (.double ev1), .second, .val (.double ev2), .second, .val (.int (1 : Int32))] [])) (fun _ k => XS.ifNo X46.here hx rfl (hb hby at_197) rfl (by decide) k) ?_
    refine Goes.by (T' := T46) (g' := (mkF m 202 #[.val (.int x0), .val (.int x1), .val (.int x2), .val (.int x3), .val (.int x4), .val (.int x5), .val (.int n), .val (.int ci), .val (.int oi), .val (.ref a), .val (.double ev0), .second, .val (.double ev1), .second, .val (.double ev2), .second, .val (.int (1 : Int32))] [(.ref a)])) (fun _ k => XS.aload X46.here hx rfl (hb hby at_200) rfl rfl k) ?_
    obtain ⟨v47, T47, L47, X47, hQ47, st47⟩ := callV X46 hx hZ (y := (⟨"com/example/brinewright/brinewright/ResidualHelmholtz", "value", "()D"⟩ : MethodName)) hown (hw _ (List.mem_of_getElem? (i := 37) rfl)) (hw _ (List.mem_of_getElem? (i := 38) rfl)) (hw _ (List.mem_of_getElem? (i := 40) rfl)) (hw _ (List.mem_of_getElem? (i := 39) rfl)) (hw _ (List.mem_of_getElem? (i := 41) rfl)) (hw _ (List.mem_of_getElem? (i := 3) rfl)) (by decide) hk46 E_a (argsL := []) (rest := []) (W := 0) (rm_value l Z a0 hw a (0 : UInt64) T43.heap n0 Z0 F_value_a) rfl (by decide) (by decide) (by decide) (by decide) (g := (mkF m 202 #[.val (.int x0), .val (.int x1), .val (.int x2), .val (.int x3), .val (.int x4), .val (.int x5), .val (.int n), .val (.int ci), .val (.int oi), .val (.ref a), .val (.double ev0), .second, .val (.double ev1), .second, .val (.double ev2), .second, .val (.int (1 : Int32))] [(.ref a)])) rfl (by rw [hml]; rfl) (lenOf pd2 rfl) rfl (by show 2 * 0 + _ ≤ _; exact Nat.le_of_eq rfl) (hb hby at_202)
    obtain ⟨rfl, NL47, hk47⟩ := hQ47
    have N0 := Fr.app N0 NL47
    refine Goes.by (T' := T47) (g' := (mkF m 205 #[.val (.int x0), .val (.int x1), .val (.int x2), .val (.int x3), .val (.int x4), .val (.int x5), .val (.int n), .val (.int ci), .val (.int oi), .val (.ref a), .val (.double ev0), .second, .val (.double ev1), .second, .val (.double ev2), .second, .val (.int (1 : Int32))] [(.double (0 : UInt64))])) st47 ?_
    refine Goes.by (T' := T47) (g' := (mkF m 206 #[.val (.int x0), .val (.int x1), .val (.int x2), .val (.int x3), .val (.int x4), .val (.int x5), .val (.int n), .val (.int ci), .val (.int oi), .val (.ref a), .val (.double ev0), .second, .val (.double ev1), .second, .val (.double ev2), .second, .val (.int (1 : Int32))] [(.double (0 : UInt64)), (.double (0 : UInt64))])) (fun _ k => XS.dconst0 X47.here hx rfl (hb hby at_205) rfl k) ?_
    refine Goes.by (T' := T47) (g' := (mkF m 207 #[.val (.int x0), .val (.int x1), .val (.int x2), .val (.int x3), .val (.int x4), .val (.int x5), .val (.int n), .val (.int ci), .val (.int oi), .val (.ref a), .val (.double ev0), .second, .val (.double ev1), .second, .val (.double ev2), .second, .val (.int (1 : Int32))] [(.int (0 : Int32))])) (fun _ k => XS.dcmpS X47.here hx rfl (hb hby at_206) rfl (cmpD_eq DInt_zero DInt_zero rfl _) k) ?_
    refine Goes.by (T' := T47) (g' := (mkF m 210 #[.val (.int x0), .val (.int x1), .val (.int x2), .val (.int x3), .val (.int x4), .val (.int x5), .val (.int n), .val (.int ci), .val (.int oi), .val (.ref a), .val (.double ev0), .second, .val (.double ev1), .second, .val (.double ev2), .second, .val (.int (1 : Int32))] [])) (fun _ k => XS.ifNo X47.here hx rfl (hb hby at_207) rfl (by decide) k) ?_
    refine Goes.by (T' := T47) (g' := (mkF m 212 #[.val (.int x0), .val (.int x1), .val (.int x2), .val (.int x3), .val (.int x4), .val (.int x5), .val (.int n), .val (.int ci), .val (.int oi), .val (.ref a), .val (.double ev0), .second, .val (.double ev1), .second, .val (.double ev2), .second, .val (.int (1 : Int32))] [(.ref a)])) (fun _ k => XS.aload X47.here hx rfl (hb hby at_210) rfl rfl k) ?_
    obtain ⟨v48, T48, L48, X48, hQ48, st48⟩ := callV X47 hx hZ (y := (⟨"com/example/brinewright/brinewright/ResidualHelmholtz", "dV", "()D"⟩ : MethodName)) hown (hw _ (List.mem_of_getElem? (i := 44) rfl)) (hw _ (List.mem_of_getElem? (i := 45) rfl)) (hw _ (List.mem_of_getElem? (i := 47) rfl)) (hw _ (List.mem_of_getElem? (i := 46) rfl)) (hw _ (List.mem_of_getElem? (i := 48) rfl)) (hw _ (List.mem_of_getElem? (i := 3) rfl)) (by decide) hk47 E_a (argsL := []) (rest := []) (W := 0) (rm_dV l Z a0 hw a (0 : UInt64) T43.heap n0 Z0 F_dV_a) rfl (by decide) (by decide) (by decide) (by decide) (g := (mkF m 212 #[.val (.int x0), .val (.int x1), .val (.int x2), .val (.int x3), .val (.int x4), .val (.int x5), .val (.int n), .val (.int ci), .val (.int oi), .val (.ref a), .val (.double ev0), .second, .val (.double ev1), .second, .val (.double ev2), .second, .val (.int (1 : Int32))] [(.ref a)])) rfl (by rw [hml]; rfl) (lenOf pd2 rfl) rfl (by show 2 * 0 + _ ≤ _; exact Nat.le_of_eq rfl) (hb hby at_212)
    obtain ⟨rfl, NL48, hk48⟩ := hQ48
    have N0 := Fr.app N0 NL48
    refine Goes.by (T' := T48) (g' := (mkF m 215 #[.val (.int x0), .val (.int x1), .val (.int x2), .val (.int x3), .val (.int x4), .val (.int x5), .val (.int n), .val (.int ci), .val (.int oi), .val (.ref a), .val (.double ev0), .second, .val (.double ev1), .second, .val (.double ev2), .second, .val (.int (1 : Int32))] [(.double (0 : UInt64))])) st48 ?_
    refine Goes.by (T' := T48) (g' := (mkF m 216 #[.val (.int x0), .val (.int x1), .val (.int x2), .val (.int x3), .val (.int x4), .val (.int x5), .val (.int n), .val (.int ci), .val (.int oi), .val (.ref a), .val (.double ev0), .second, .val (.double ev1), .second, .val (.double ev2), .second, .val (.int (1 : Int32))] [(.double (0 : UInt64)), (.double (0 : UInt64))])) (fun _ k => XS.dconst0 X48.here hx rfl (hb hby at_215) rfl k) ?_
    refine Goes.by (T' := T48) (g' := (mkF m 217 #[.val (.int x0), .val (.int x1), .val (.int x2), .val (.int x3), .val (.int x4), .val (.int x5), .val (.int n), .val (.int ci), .val (.int oi), .val (.ref a), .val (.double ev0), .second, .val (.double ev1), .second, .val (.double ev2), .second, .val (.int (1 : Int32))] [(.int (0 : Int32))])) (fun _ k => XS.dcmpS X48.here hx rfl (hb hby at_216) rfl (cmpD_eq DInt_zero DInt_zero rfl _) k) ?_
    refine Goes.by (T' := T48) (g' := (mkF m 220 #[.val (.int x0), .val (.int x1), .val (.int x2), .val (.int x3), .val (.int x4), .val (.int x5), .val (.int n), .val (.int ci), .val (.int oi), .val (.ref a), .val (.double ev0), .second, .val (.double ev1), .second, .val (.double ev2), .second, .val (.int (1 : Int32))] [])) (fun _ k => XS.ifNo X48.here hx rfl (hb hby at_217) rfl (by decide) k) ?_
    refine Goes.by (T' := T48) (g' := (mkF m 221 #[.val (.int x0), .val (.int x1), .val (.int x2), .val (.int x3), .val (.int x4), .val (.int x5), .val (.int n), .val (.int ci), .val (.int oi), .val (.ref a), .val (.double ev0), .second, .val (.double ev1), .second, .val (.double ev2), .second, .val (.int (1 : Int32))] [(.int (1 : Int32))])) (fun _ k => XS.iconst X48.here hx rfl (hb hby at_220)  k) ?_
    refine Goes.by (T' := T48) (g' := (mkF m 225 #[.val (.int x0), .val (.int x1), .val (.int x2), .val (.int x3), .val (.int x4), .val (.int x5), .val (.int n), .val (.int ci), .val (.int oi), .val (.ref a), .val (.double ev0), .second, .val (.double ev1), .second, .val (.double ev2), .second, .val (.int (1 : Int32))] [(.int (1 : Int32))])) (fun _ k => XS.goto X48.here hx rfl (pc0 := 221) (pc' := 225) rfl (hb hby at_221) (by decide) (by decide) k) ?_
    refine Goes.by (T' := T48) (g' := (mkF m 227 #[.val (.int x0), .val (.int x1), .val (.int x2), .val (.int x3), .val (.int x4), .val (.int x5), .val (.int n), .val (.int ci), .val (.int oi), .val (.ref a), .val (.double ev0), .second, .val (.double ev1), .second, .val (.double ev2), .second, .val (.int (1 : Int32))] [])) (fun _ k => XS.istore X48.here hx rfl (hb hby at_225) rfl (l' := #[.val (.int x0), .val (.int x1), .val (.int x2), .val (.int x3), .val (.int x4), .val (.int x5), .val (.int n), .val (.int ci), .val (.int oi), .val (.ref a), .val (.double ev0), .second, .val (.double ev1), .second, .val (.double ev2), .second, .val (.int (1 : Int32))]) rfl k) ?_
    refine Goes.by (T' := T48) (g' := (mkF m 229 #[.val (.int x0), .val (.int x1), .val (.int x2), .val (.int x3), .val (.int x4), .val (.int x5), .val (.int n), .val (.int ci), .val (.int oi), .val (.ref a), .val (.double ev0), .second, .val (.double ev1), .second, .val (.double ev2), .second, .val (.int (1 : Int32))] [(.int (1 : Int32))])) (fun _ k => XS.iload X48.here hx rfl (hb hby at_227) rfl k) ?_
    exact outZ X48 hx hlk hret (hb hby at_229) (by exact ⟨rfl, N0⟩) (by decide) (by decide)
  · refine Goes.by (T' := T46) (g' := (mkF m 147 #[.val (.int x0), .val (.int x1), .val (.int x2), .val (.int x3), .val (.int x4), .val (.int x5), .val (.int n), .val (.int ci), .val (.int oi), .val (.ref a), .val (.double ev0), .second, .val (.double ev1), .second, .val (.double ev2), .second, .val (.int (1 : Int32))] [])) (fun _ k => XS.icmpNo X46.here hx rfl (hb hby at_144) rfl (feq hoc).1 k) ?_
    have hne : kci ≠ koi := fun q => hoc (Int32.toInt_inj.mp (by rw [hkoi, hkci, q]))
    refine Goes.by (T' := T46) (g' := (mkF m 149 #[.val (.int x0), .val (.int x1), .val (.int x2), .val (.int x3), .val (.int x4), .val (.int x5), .val (.int n), .val (.int ci), .val (.int oi), .val (.ref a), .val (.double ev0), .second, .val (.double ev1), .second, .val (.double ev2), .second, .val (.int (1 : Int32))] [(.int (1 : Int32))])) (fun _ k => XS.iload X46.here hx rfl (hb hby at_147) rfl k) ?_
    refine Goes.by (T' := T46) (g' := (mkF m 152 #[.val (.int x0), .val (.int x1), .val (.int x2), .val (.int x3), .val (.int x4), .val (.int x5), .val (.int n), .val (.int ci), .val (.int oi), .val (.ref a), .val (.double ev0), .second, .val (.double ev1), .second, .val (.double ev2), .second, .val (.int (1 : Int32))] [])) (fun _ k => XS.ifNo X46.here hx rfl (hb hby at_149) rfl (by decide) k) ?_
    refine Goes.by (T' := T46) (g' := (mkF m 154 #[.val (.int x0), .val (.int x1), .val (.int x2), .val (.int x3), .val (.int x4), .val (.int x5), .val (.int n), .val (.int ci), .val (.int oi), .val (.ref a), .val (.double ev0), .second, .val (.double ev1), .second, .val (.double ev2), .second, .val (.int (1 : Int32))] [(.ref a)])) (fun _ k => XS.aload X46.here hx rfl (hb hby at_152) rfl rfl k) ?_
    refine Goes.by (T' := T46) (g' := (mkF m 156 #[.val (.int x0), .val (.int x1), .val (.int x2), .val (.int x3), .val (.int x4), .val (.int x5), .val (.int n), .val (.int ci), .val (.int oi), .val (.ref a), .val (.double ev0), .second, .val (.double ev1), .second, .val (.double ev2), .second, .val (.int (1 : Int32))] [(.int oi), (.ref a)])) (fun _ k => XS.iload X46.here hx rfl (hb hby at_154) rfl k) ?_
    obtain ⟨v49, T49, L49, X49, hQ49, st49⟩ := callV X46 hx hZ (y := (⟨"com/example/brinewright/brinewright/ResidualHelmholtz", "dN", "(I)D"⟩ : MethodName)) hown (hw _ (List.mem_of_getElem? (i := 22) rfl)) (hw _ (List.mem_of_getElem? (i := 23) rfl)) (hw _ (List.mem_of_getElem? (i := 25) rfl)) (hw _ (List.mem_of_getElem? (i := 24) rfl)) (hw _ (List.mem_of_getElem? (i := 26) rfl)) (hw _ (List.mem_of_getElem? (i := 3) rfl)) (by decide) hk46 E_a (argsL := [(.int oi)]) (rest := []) (W := 0) (rm_dN l Z a0 hw a b0 oi (((List.replicate nn (Value.double (0 : UInt64))).set kci (.double s0)).set kci (.double t0)) koi (0 : UInt64) T43.heap n0 Z0 F_dN_a V_b0 hkoi (by rw [List.getElem?_set_ne hne, List.getElem?_set_ne hne]; exact rep0 koi lkoi)) rfl (by decide) (by decide) (by decide) (by decide) (g := (mkF m 156 #[.val (.int x0), .val (.int x1), .val (.int x2), .val (.int x3), .val (.int x4), .val (.int x5), .val (.int n), .val (.int ci), .val (.int oi), .val (.ref a), .val (.double ev0), .second, .val (.double ev1), .second, .val (.double ev2), .second, .val (.int (1 : Int32))] [(.int oi), (.ref a)])) rfl (by rw [hml]; rfl) (lenOf pd3 rfl) rfl (by show 2 * 0 + _ ≤ _; exact Nat.le_of_eq rfl) (hb hby at_156)
    obtain ⟨rfl, NL49, hk49⟩ := hQ49
    have N0 := Fr.app N0 NL49
    refine Goes.by (T' := T49) (g' := (mkF m 159 #[.val (.int x0), .val (.int x1), .val (.int x2), .val (.int x3), .val (.int x4), .val (.int x5), .val (.int n), .val (.int ci), .val (.int oi), .val (.ref a), .val (.double ev0), .second, .val (.double ev1), .second, .val (.double ev2), .second, .val (.int (1 : Int32))] [(.double (0 : UInt64))])) st49 ?_
    refine Goes.by (T' := T49) (g' := (mkF m 160 #[.val (.int x0), .val (.int x1), .val (.int x2), .val (.int x3), .val (.int x4), .val (.int x5), .val (.int n), .val (.int ci), .val (.int oi), .val (.ref a), .val (.double ev0), .second, .val (.double ev1), .second, .val (.double ev2), .second, .val (.int (1 : Int32))] [(.double (0 : UInt64)), (.double (0 : UInt64))])) (fun _ k => XS.dconst0 X49.here hx rfl (hb hby at_159) rfl k) ?_
    refine Goes.by (T' := T49) (g' := (mkF m 161 #[.val (.int x0), .val (.int x1), .val (.int x2), .val (.int x3), .val (.int x4), .val (.int x5), .val (.int n), .val (.int ci), .val (.int oi), .val (.ref a), .val (.double ev0), .second, .val (.double ev1), .second, .val (.double ev2), .second, .val (.int (1 : Int32))] [(.int (0 : Int32))])) (fun _ k => XS.dcmpS X49.here hx rfl (hb hby at_160) rfl (cmpD_eq DInt_zero DInt_zero rfl _) k) ?_
    refine Goes.by (T' := T49) (g' := (mkF m 164 #[.val (.int x0), .val (.int x1), .val (.int x2), .val (.int x3), .val (.int x4), .val (.int x5), .val (.int n), .val (.int ci), .val (.int oi), .val (.ref a), .val (.double ev0), .second, .val (.double ev1), .second, .val (.double ev2), .second, .val (.int (1 : Int32))] [])) (fun _ k => XS.ifNo X49.here hx rfl (hb hby at_161) rfl (by decide) k) ?_
    refine Goes.by (T' := T49) (g' := (mkF m 166 #[.val (.int x0), .val (.int x1), .val (.int x2), .val (.int x3), .val (.int x4), .val (.int x5), .val (.int n), .val (.int ci), .val (.int oi), .val (.ref a), .val (.double ev0), .second, .val (.double ev1), .second, .val (.double ev2), .second, .val (.int (1 : Int32))] [(.ref a)])) (fun _ k => XS.aload X49.here hx rfl (hb hby at_164) rfl rfl k) ?_
    refine Goes.by (T' := T49) (g' := (mkF m 168 #[.val (.int x0), .val (.int x1), .val (.int x2), .val (.int x3), .val (.int x4), .val (.int x5), .val (.int n), .val (.int ci), .val (.int oi), .val (.ref a), .val (.double ev0), .second, .val (.double ev1), .second, .val (.double ev2), .second, .val (.int (1 : Int32))] [(.int oi), (.ref a)])) (fun _ k => XS.iload X49.here hx rfl (hb hby at_166) rfl k) ?_
    obtain ⟨v50, T50, L50, X50, hQ50, st50⟩ := callV X49 hx hZ (y := (⟨"com/example/brinewright/brinewright/ResidualHelmholtz", "dNdV", "(I)D"⟩ : MethodName)) hown (hw _ (List.mem_of_getElem? (i := 27) rfl)) (hw _ (List.mem_of_getElem? (i := 28) rfl)) (hw _ (List.mem_of_getElem? (i := 30) rfl)) (hw _ (List.mem_of_getElem? (i := 29) rfl)) (hw _ (List.mem_of_getElem? (i := 31) rfl)) (hw _ (List.mem_of_getElem? (i := 3) rfl)) (by decide) hk49 E_a (argsL := [(.int oi)]) (rest := []) (W := 0) (rm_dNdV l Z a0 hw a b1 oi (((List.replicate nn (Value.double (0 : UInt64))).set kci (.double s1)).set kci (.double t1)) koi (0 : UInt64) T43.heap n0 Z0 F_dNdV_a V_b1 hkoi (by rw [List.getElem?_set_ne hne, List.getElem?_set_ne hne]; exact rep0 koi lkoi)) rfl (by decide) (by decide) (by decide) (by decide) (g := (mkF m 168 #[.val (.int x0), .val (.int x1), .val (.int x2), .val (.int x3), .val (.int x4), .val (.int x5), .val (.int n), .val (.int ci), .val (.int oi), .val (.ref a), .val (.double ev0), .second, .val (.double ev1), .second, .val (.double ev2), .second, .val (.int (1 : Int32))] [(.int oi), (.ref a)])) rfl (by rw [hml]; rfl) (lenOf pd3 rfl) rfl (by show 2 * 0 + _ ≤ _; exact Nat.le_of_eq rfl) (hb hby at_168)
    obtain ⟨rfl, NL50, hk50⟩ := hQ50
    have N0 := Fr.app N0 NL50
    refine Goes.by (T' := T50) (g' := (mkF m 171 #[.val (.int x0), .val (.int x1), .val (.int x2), .val (.int x3), .val (.int x4), .val (.int x5), .val (.int n), .val (.int ci), .val (.int oi), .val (.ref a), .val (.double ev0), .second, .val (.double ev1), .second, .val (.double ev2), .second, .val (.int (1 : Int32))] [(.double (0 : UInt64))])) st50 ?_
    refine Goes.by (T' := T50) (g' := (mkF m 172 #[.val (.int x0), .val (.int x1), .val (.int x2), .val (.int x3), .val (.int x4), .val (.int x5), .val (.int n), .val (.int ci), .val (.int oi), .val (.ref a), .val (.double ev0), .second, .val (.double ev1), .second, .val (.double ev2), .second, .val (.int (1 : Int32))] [(.double (0 : UInt64)), (.double (0 : UInt64))])) (fun _ k => XS.dconst0 X50.here hx rfl (hb hby at_171) rfl k) ?_
    refine Goes.by (T' := T50) (g' := (mkF m 173 #[.val (.int x0), .val (.int x1), .val (.int x2), .val (.int x3), .val (.int x4), .val (.int x5), .val (.int n), .val (.int ci), .val (.int oi), .val (.ref a), .val (.double ev0), .second, .val (.double ev1), .second, .val (.double ev2), .second, .val (.int (1 : Int32))] [(.int (0 : Int32))])) (fun _ k => XS.dcmpS X50.here hx rfl (hb hby at_172) rfl (cmpD_eq DInt_zero DInt_zero rfl _) k) ?_
    refine Goes.by (T' := T50) (g' := (mkF m 176 #[.val (.int x0), .val (.int x1), .val (.int x2), .val (.int x3), .val (.int x4), .val (.int x5), .val (.int n), .val (.int ci), .val (.int oi), .val (.ref a), .val (.double ev0), .second, .val (.double ev1), .second, .val (.double ev2), .second, .val (.int (1 : Int32))] [])) (fun _ k => XS.ifNo X50.here hx rfl (hb hby at_173) rfl (by decide) k) ?_
    refine Goes.by (T' := T50) (g' := (mkF m 178 #[.val (.int x0), .val (.int x1), .val (.int x2), .val (.int x3), .val (.int x4), .val (.int x5), .val (.int n), .val (.int ci), .val (.int oi), .val (.ref a), .val (.double ev0), .second, .val (.double ev1), .second, .val (.double ev2), .second, .val (.int (1 : Int32))] [(.ref a)])) (fun _ k => XS.aload X50.here hx rfl (hb hby at_176) rfl rfl k) ?_
    refine Goes.by (T' := T50) (g' := (mkF m 180 #[.val (.int x0), .val (.int x1), .val (.int x2), .val (.int x3), .val (.int x4), .val (.int x5), .val (.int n), .val (.int ci), .val (.int oi), .val (.ref a), .val (.double ev0), .second, .val (.double ev1), .second, .val (.double ev2), .second, .val (.int (1 : Int32))] [(.int oi), (.ref a)])) (fun _ k => XS.iload X50.here hx rfl (hb hby at_178) rfl k) ?_
    obtain ⟨v51, T51, L51, X51, hQ51, st51⟩ := callV X50 hx hZ (y := (⟨"com/example/brinewright/brinewright/ResidualHelmholtz", "dNAtFreeVolume", "(I)D"⟩ : MethodName)) hown (hw _ (List.mem_of_getElem? (i := 32) rfl)) (hw _ (List.mem_of_getElem? (i := 33) rfl)) (hw _ (List.mem_of_getElem? (i := 35) rfl)) (hw _ (List.mem_of_getElem? (i := 34) rfl)) (hw _ (List.mem_of_getElem? (i := 36) rfl)) (hw _ (List.mem_of_getElem? (i := 3) rfl)) (by decide) hk50 E_a (argsL := [(.int oi)]) (rest := []) (W := 0) (rm_dNAtFreeVolume l Z a0 hw a b2 oi (((List.replicate nn (Value.double (0 : UInt64))).set kci (.double s2)).set kci (.double t2)) koi (0 : UInt64) T43.heap n0 Z0 F_dNAtFreeVolume_a V_b2 hkoi (by rw [List.getElem?_set_ne hne, List.getElem?_set_ne hne]; exact rep0 koi lkoi)) rfl (by decide) (by decide) (by decide) (by decide) (g := (mkF m 180 #[.val (.int x0), .val (.int x1), .val (.int x2), .val (.int x3), .val (.int x4), .val (.int x5), .val (.int n), .val (.int ci), .val (.int oi), .val (.ref a), .val (.double ev0), .second, .val (.double ev1), .second, .val (.double ev2), .second, .val (.int (1 : Int32))] [(.int oi), (.ref a)])) rfl (by rw [hml]; rfl) (lenOf pd3 rfl) rfl (by show 2 * 0 + _ ≤ _; exact Nat.le_of_eq rfl) (hb hby at_180)
    obtain ⟨rfl, NL51, hk51⟩ := hQ51
    have N0 := Fr.app N0 NL51
    refine Goes.by (T' := T51) (g' := (mkF m 183 #[.val (.int x0), .val (.int x1), .val (.int x2), .val (.int x3), .val (.int x4), .val (.int x5), .val (.int n), .val (.int ci), .val (.int oi), .val (.ref a), .val (.double ev0), .second, .val (.double ev1), .second, .val (.double ev2), .second, .val (.int (1 : Int32))] [(.double (0 : UInt64))])) st51 ?_
    refine Goes.by (T' := T51) (g' := (mkF m 184 #[.val (.int x0), .val (.int x1), .val (.int x2), .val (.int x3), .val (.int x4), .val (.int x5), .val (.int n), .val (.int ci), .val (.int oi), .val (.ref a), .val (.double ev0), .second, .val (.double ev1), .second, .val (.double ev2), .second, .val (.int (1 : Int32))] [(.double (0 : UInt64)), (.double (0 : UInt64))])) (fun _ k => XS.dconst0 X51.here hx rfl (hb hby at_183) rfl k) ?_
    refine Goes.by (T' := T51) (g' := (mkF m 185 #[.val (.int x0), .val (.int x1), .val (.int x2), .val (.int x3), .val (.int x4), .val (.int x5), .val (.int n), .val (.int ci), .val (.int oi), .val (.ref a), .val (.double ev0), .second, .val (.double ev1), .second, .val (.double ev2), .second, .val (.int (1 : Int32))] [(.int (0 : Int32))])) (fun _ k => XS.dcmpS X51.here hx rfl (hb hby at_184) rfl (cmpD_eq DInt_zero DInt_zero rfl _) k) ?_
    refine Goes.by (T' := T51) (g' := (mkF m 188 #[.val (.int x0), .val (.int x1), .val (.int x2), .val (.int x3), .val (.int x4), .val (.int x5), .val (.int n), .val (.int ci), .val (.int oi), .val (.ref a), .val (.double ev0), .second, .val (.double ev1), .second, .val (.double ev2), .second, .val (.int (1 : Int32))] [])) (fun _ k => XS.ifNo X51.here hx rfl (hb hby at_185) rfl (by decide) k) ?_
    refine Goes.by (T' := T51) (g' := (mkF m 189 #[.val (.int x0), .val (.int x1), .val (.int x2), .val (.int x3), .val (.int x4), .val (.int x5), .val (.int n), .val (.int ci), .val (.int oi), .val (.ref a), .val (.double ev0), .second, .val (.double ev1), .second, .val (.double ev2), .second, .val (.int (1 : Int32))] [(.int (1 : Int32))])) (fun _ k => XS.iconst X51.here hx rfl (hb hby at_188)  k) ?_
    refine Goes.by (T' := T51) (g' := (mkF m 193 #[.val (.int x0), .val (.int x1), .val (.int x2), .val (.int x3), .val (.int x4), .val (.int x5), .val (.int n), .val (.int ci), .val (.int oi), .val (.ref a), .val (.double ev0), .second, .val (.double ev1), .second, .val (.double ev2), .second, .val (.int (1 : Int32))] [(.int (1 : Int32))])) (fun _ k => XS.goto X51.here hx rfl (pc0 := 189) (pc' := 193) rfl (hb hby at_189) (by decide) (by decide) k) ?_
    refine Goes.by (T' := T51) (g' := (mkF m 195 #[.val (.int x0), .val (.int x1), .val (.int x2), .val (.int x3), .val (.int x4), .val (.int x5), .val (.int n), .val (.int ci), .val (.int oi), .val (.ref a), .val (.double ev0), .second, .val (.double ev1), .second, .val (.double ev2), .second, .val (.int (1 : Int32))] [])) (fun _ k => XS.istore X51.here hx rfl (hb hby at_193) rfl (l' := #[.val (.int x0), .val (.int x1), .val (.int x2), .val (.int x3), .val (.int x4), .val (.int x5), .val (.int n), .val (.int ci), .val (.int oi), .val (.ref a), .val (.double ev0), .second, .val (.double ev1), .second, .val (.double ev2), .second, .val (.int (1 : Int32))]) rfl k) ?_
    refine Goes.by (T' := T51) (g' := (mkF m 197 #[.val (.int x0), .val (.int x1), .val (.int x2), .val (.int x3), .val (.int x4), .val (.int x5), .val (.int n), .val (.int ci), .val (.int oi), .val (.ref a), .val (.double ev0), .second, .val (.double ev1), .second, .val (.double ev2), .second, .val (.int (1 : Int32))] [(.int (1 : Int32))])) (fun _ k => XS.iload X51.here hx rfl (hb hby at_195) rfl k) ?_
    refine Goes.by (T' := T51) (g' := (mkF m 200 #[.val (.int x0), .val (.int x1), .val (.int x2), .val (.int x3), .val (.int x4), .val (.int x5), .val (.int n), .val (.int ci), .val (.int oi), .val (.ref a), .val (.double ev0), .second, .val (.double ev1), .second, .val (.double ev2), .second, .val (.int (1 : Int32))] [])) (fun _ k => XS.ifNo X51.here hx rfl (hb hby at_197) rfl (by decide) k) ?_
    refine Goes.by (T' := T51) (g' := (mkF m 202 #[.val (.int x0), .val (.int x1), .val (.int x2), .val (.int x3), .val (.int x4), .val (.int x5), .val (.int n), .val (.int ci), .val (.int oi), .val (.ref a), .val (.double ev0), .second, .val (.double ev1), .second, .val (.double ev2), .second, .val (.int (1 : Int32))] [(.ref a)])) (fun _ k => XS.aload X51.here hx rfl (hb hby at_200) rfl rfl k) ?_
    obtain ⟨v52, T52, L52, X52, hQ52, st52⟩ := callV X51 hx hZ (y := (⟨"com/example/brinewright/brinewright/ResidualHelmholtz", "value", "()D"⟩ : MethodName)) hown (hw _ (List.mem_of_getElem? (i := 37) rfl)) (hw _ (List.mem_of_getElem? (i := 38) rfl)) (hw _ (List.mem_of_getElem? (i := 40) rfl)) (hw _ (List.mem_of_getElem? (i := 39) rfl)) (hw _ (List.mem_of_getElem? (i := 41) rfl)) (hw _ (List.mem_of_getElem? (i := 3) rfl)) (by decide) hk51 E_a (argsL := []) (rest := []) (W := 0) (rm_value l Z a0 hw a (0 : UInt64) T43.heap n0 Z0 F_value_a) rfl (by decide) (by decide) (by decide) (by decide) (g := (mkF m 202 #[.val (.int x0), .val (.int x1), .val (.int x2), .val (.int x3), .val (.int x4), .val (.int x5), .val (.int n), .val (.int ci), .val (.int oi), .val (.ref a), .val (.double ev0), .second, .val (.double ev1), .second, .val (.double ev2), .second, .val (.int (1 : Int32))] [(.ref a)])) rfl (by rw [hml]; rfl) (lenOf pd2 rfl) rfl (by show 2 * 0 + _ ≤ _; exact Nat.le_of_eq rfl) (hb hby at_202)
    obtain ⟨rfl, NL52, hk52⟩ := hQ52
    have N0 := Fr.app N0 NL52
    refine Goes.by (T' := T52) (g' := (mkF m 205 #[.val (.int x0), .val (.int x1), .val (.int x2), .val (.int x3), .val (.int x4), .val (.int x5), .val (.int n), .val (.int ci), .val (.int oi), .val (.ref a), .val (.double ev0), .second, .val (.double ev1), .second, .val (.double ev2), .second, .val (.int (1 : Int32))] [(.double (0 : UInt64))])) st52 ?_
    refine Goes.by (T' := T52) (g' := (mkF m 206 #[.val (.int x0), .val (.int x1), .val (.int x2), .val (.int x3), .val (.int x4), .val (.int x5), .val (.int n), .val (.int ci), .val (.int oi), .val (.ref a), .val (.double ev0), .second, .val (.double ev1), .second, .val (.double ev2), .second, .val (.int (1 : Int32))] [(.double (0 : UInt64)), (.double (0 : UInt64))])) (fun _ k => XS.dconst0 X52.here hx rfl (hb hby at_205) rfl k) ?_
    refine Goes.by (T' := T52) (g' := (mkF m 207 #[.val (.int x0), .val (.int x1), .val (.int x2), .val (.int x3), .val (.int x4), .val (.int x5), .val (.int n), .val (.int ci), .val (.int oi), .val (.ref a), .val (.double ev0), .second, .val (.double ev1), .second, .val (.double ev2), .second, .val (.int (1 : Int32))] [(.int (0 : Int32))])) (fun _ k => XS.dcmpS X52.here hx rfl (hb hby at_206) rfl (cmpD_eq DInt_zero DInt_zero rfl _) k) ?_
    refine Goes.by (T' := T52) (g' := (mkF m 210 #[.val (.int x0), .val (.int x1), .val (.int x2), .val (.int x3), .val (.int x4), .val (.int x5), .val (.int n), .val (.int ci), .val (.int oi), .val (.ref a), .val (.double ev0), .second, .val (.double ev1), .second, .val (.double ev2), .second, .val (.int (1 : Int32))] [])) (fun _ k => XS.ifNo X52.here hx rfl (hb hby at_207) rfl (by decide) k) ?_
    refine Goes.by (T' := T52) (g' := (mkF m 212 #[.val (.int x0), .val (.int x1), .val (.int x2), .val (.int x3), .val (.int x4), .val (.int x5), .val (.int n), .val (.int ci), .val (.int oi), .val (.ref a), .val (.double ev0), .second, .val (.double ev1), .second, .val (.double ev2), .second, .val (.int (1 : Int32))] [(.ref a)])) (fun _ k => XS.aload X52.here hx rfl (hb hby at_210) rfl rfl k) ?_
    obtain ⟨v53, T53, L53, X53, hQ53, st53⟩ := callV X52 hx hZ (y := (⟨"com/example/brinewright/brinewright/ResidualHelmholtz", "dV", "()D"⟩ : MethodName)) hown (hw _ (List.mem_of_getElem? (i := 44) rfl)) (hw _ (List.mem_of_getElem? (i := 45) rfl)) (hw _ (List.mem_of_getElem? (i := 47) rfl)) (hw _ (List.mem_of_getElem? (i := 46) rfl)) (hw _ (List.mem_of_getElem? (i := 48) rfl)) (hw _ (List.mem_of_getElem? (i := 3) rfl)) (by decide) hk52 E_a (argsL := []) (rest := []) (W := 0) (rm_dV l Z a0 hw a (0 : UInt64) T43.heap n0 Z0 F_dV_a) rfl (by decide) (by decide) (by decide) (by decide) (g := (mkF m 212 #[.val (.int x0), .val (.int x1), .val (.int x2), .val (.int x3), .val (.int x4), .val (.int x5), .val (.int n), .val (.int ci), .val (.int oi), .val (.ref a), .val (.double ev0), .second, .val (.double ev1), .second, .val (.double ev2), .second, .val (.int (1 : Int32))] [(.ref a)])) rfl (by rw [hml]; rfl) (lenOf pd2 rfl) rfl (by show 2 * 0 + _ ≤ _; exact Nat.le_of_eq rfl) (hb hby at_212)
    obtain ⟨rfl, NL53, hk53⟩ := hQ53
    have N0 := Fr.app N0 NL53
    refine Goes.by (T' := T53) (g' := (mkF m 215 #[.val (.int x0), .val (.int x1), .val (.int x2), .val (.int x3), .val (.int x4), .val (.int x5), .val (.int n), .val (.int ci), .val (.int oi), .val (.ref a), .val (.double ev0), .second, .val (.double ev1), .second, .val (.double ev2), .second, .val (.int (1 : Int32))] [(.double (0 : UInt64))])) st53 ?_
    refine Goes.by (T' := T53) (g' := (mkF m 216 #[.val (.int x0), .val (.int x1), .val (.int x2), .val (.int x3), .val (.int x4), .val (.int x5), .val (.int n), .val (.int ci), .val (.int oi), .val (.ref a), .val (.double ev0), .second, .val (.double ev1), .second, .val (.double ev2), .second, .val (.int (1 : Int32))] [(.double (0 : UInt64)), (.double (0 : UInt64))])) (fun _ k => XS.dconst0 X53.here hx rfl (hb hby at_215) rfl k) ?_
    refine Goes.by (T' := T53) (g' := (mkF m 217 #[.val (.int x0), .val (.int x1), .val (.int x2), .val (.int x3), .val (.int x4), .val (.int x5), .val (.int n), .val (.int ci), .val (.int oi), .val (.ref a), .val (.double ev0), .second, .val (.double ev1), .second, .val (.double ev2), .second, .val (.int (1 : Int32))] [(.int (0 : Int32))])) (fun _ k => XS.dcmpS X53.here hx rfl (hb hby at_216) rfl (cmpD_eq DInt_zero DInt_zero rfl _) k) ?_
    refine Goes.by (T' := T53) (g' := (mkF m 220 #[.val (.int x0), .val (.int x1), .val (.int x2), .val (.int x3), .val (.int x4), .val (.int x5), .val (.int n), .val (.int ci), .val (.int oi), .val (.ref a), .val (.double ev0), .second, .val (.double ev1), .second, .val (.double ev2), .second, .val (.int (1 : Int32))] [])) (fun _ k => XS.ifNo X53.here hx rfl (hb hby at_217) rfl (by decide) k) ?_
    refine Goes.by (T' := T53) (g' := (mkF m 221 #[.val (.int x0), .val (.int x1), .val (.int x2), .val (.int x3), .val (.int x4), .val (.int x5), .val (.int n), .val (.int ci), .val (.int oi), .val (.ref a), .val (.double ev0), .second, .val (.double ev1), .second, .val (.double ev2), .second, .val (.int (1 : Int32))] [(.int (1 : Int32))])) (fun _ k => XS.iconst X53.here hx rfl (hb hby at_220)  k) ?_
    refine Goes.by (T' := T53) (g' := (mkF m 225 #[.val (.int x0), .val (.int x1), .val (.int x2), .val (.int x3), .val (.int x4), .val (.int x5), .val (.int n), .val (.int ci), .val (.int oi), .val (.ref a), .val (.double ev0), .second, .val (.double ev1), .second, .val (.double ev2), .second, .val (.int (1 : Int32))] [(.int (1 : Int32))])) (fun _ k => XS.goto X53.here hx rfl (pc0 := 221) (pc' := 225) rfl (hb hby at_221) (by decide) (by decide) k) ?_
    refine Goes.by (T' := T53) (g' := (mkF m 227 #[.val (.int x0), .val (.int x1), .val (.int x2), .val (.int x3), .val (.int x4), .val (.int x5), .val (.int n), .val (.int ci), .val (.int oi), .val (.ref a), .val (.double ev0), .second, .val (.double ev1), .second, .val (.double ev2), .second, .val (.int (1 : Int32))] [])) (fun _ k => XS.istore X53.here hx rfl (hb hby at_225) rfl (l' := #[.val (.int x0), .val (.int x1), .val (.int x2), .val (.int x3), .val (.int x4), .val (.int x5), .val (.int n), .val (.int ci), .val (.int oi), .val (.ref a), .val (.double ev0), .second, .val (.double ev1), .second, .val (.double ev2), .second, .val (.int (1 : Int32))]) rfl k) ?_
    refine Goes.by (T' := T53) (g' := (mkF m 229 #[.val (.int x0), .val (.int x1), .val (.int x2), .val (.int x3), .val (.int x4), .val (.int x5), .val (.int n), .val (.int ci), .val (.int oi), .val (.ref a), .val (.double ev0), .second, .val (.double ev1), .second, .val (.double ev2), .second, .val (.int (1 : Int32))] [(.int (1 : Int32))])) (fun _ k => XS.iload X53.here hx rfl (hb hby at_227) rfl k) ?_
    exact outZ X53 hx hlk hret (hb hby at_229) (by exact ⟨rfl, N0⟩) (by decide) (by decide)
set_option maxRecDepth 65536 in
set_option maxHeartbeats 40000000 in
theorem comes_1 {Post : Tables → Env → Array Value → State → Outcome → State → Prop} (hpost : ∀ tb e args s v u, (limb_1_1.after args s (.returned v) u = true ∧ limb_1_2.after args s (.returned v) u = true ∧ True) → FrameEnd s (.returned v) u (Jvm.fieldLocs frame_1_writes args s ++ Jvm.arrayLocs frame_1_arrays args s ++ Jvm.staticLocs frame_1_statics s) 16 128 → Post tb e args s (.returned v) u) :
    ArmFor flags0 classFile x code maxLocals ret World_1 tables_1 room_1 Calls_1 rest_1 Pre_1 Post := by
  intro l hfl _ _ p e ha hc hk s m args below hf hA hF happ hP
  obtain ⟨hcalls, hrest, hpre⟩ := hP
  obtain ⟨-, -, -, hnamed, -, -, -, hat⟩ := (Spec.applies_iff hf).mp happ
  obtain ⟨hg, hn⟩ := and_e (Cond.before_iff.mp (show (Jvm.Cond.and given_1 narrow_1).before args s = true from hpre))
  obtain ⟨g0, t0⟩ := and_e hg
  obtain ⟨g1, t1⟩ := and_e t0
  obtain ⟨g2, t2⟩ := and_e t1
  obtain ⟨g3, t3⟩ := and_e t2
  obtain ⟨g4, t4⟩ := and_e t3
  obtain ⟨g5, t5⟩ := and_e t4
  obtain ⟨w0, w1, w2, w3, w4, w5, rfl⟩ : ∃ w0 w1 w2 w3 w4 w5 : Value, args = #[w0, w1, w2, w3, w4, w5] := by
    have hs : args.size = 6 := by simpa [Cond.value, given_1] using g0
    obtain ⟨L⟩ := args
    match L, hs with
    | [w0, w1, w2, w3, w4, w5], _ => exact ⟨w0, w1, w2, w3, w4, w5, rfl⟩
  have hw := fun d (hd : d ∈ tables_1) => atoms_spec (ws := Jvm.Cond.code x code maxLocals ret :: tables_1) hat d (List.mem_cons_of_mem _ hd)
  obtain ⟨i0, e0⟩ := is_v g1
  obtain rfl : w0 = (.int i0) := Option.some.inj e0
  obtain ⟨i1, e1⟩ := is_v g2
  obtain rfl : w1 = (.int i1) := Option.some.inj e1
  obtain ⟨i2, e2⟩ := is_v g3
  obtain rfl : w2 = (.int i2) := Option.some.inj e2
  obtain ⟨i3, e3⟩ := is_v g4
  obtain rfl : w3 = (.int i3) := Option.some.inj e3
  obtain ⟨i4, e4⟩ := is_v g5
  obtain rfl : w4 = (.int i4) := Option.some.inj e4
  obtain ⟨i5, e5⟩ := is_v t5
  obtain rfl : w5 = (.int i5) := Option.some.inj e5
  obtain ⟨n, o, h1, h2, h3, _, L, rfl, ⟨rfl, N⟩, hq⟩ := rm_law l s _ hw i0 i1 i2 i3 i4 i5 s.heap s.heap.size (Nat.le_refl _)  p e ha hc hk s m _ below hf ((Spec.applies_iff_loose hf).mp happ).1 ⟨rfl, State.Warmed39.refl s, rfl⟩ trivial
  refine ⟨n, _, h1, h2, h3, hpost _ _ _ _ _ _ ⟨Cond.after_iff.mpr rfl, Cond.after_iff.mpr (eq_i res_at (Term.int_eval (1)) rfl), trivial⟩ ⟨hq.1, hq.2.1, (hq.2.2.sift fun y hy => Or.inr (N y hy)).mono (by decide) (by decide)⟩⟩
theorem main_1_1 : Claimed_1_1 := comes_1 fun _ _ _ _ _ _ h hF => ⟨h.1, hF⟩
theorem main_1_2 : Claimed_1_2 := comes_1 fun _ _ _ _ _ _ h hF => ⟨h.2.1, hF⟩
end Jvm.Pilot.@@N@@
namespace Jvm.Pilot.@@N@@
open Jvm Jvm.ClassFile Sem Op Lib Jvm.Free Jvm.Stand Jvm.Pilot.@@N@@.Jvm.D
/-! MADE BY PROGRAM (witnessworld.py) out of the Statement's table words and the real class files: 9 classes; the members and pool entries that the words name. The judged class is class 1, her method 1. -/
namespace start1
open Jvm.ClassFile
def u (s : String) : CpInfo := .utf8 (stringToUtf16 s)
/-- a pool by its gaps: so many unusable entries, then the entry; so many at the end -/
def gap : Nat → List CpInfo → List CpInfo
  | 0, r => r
  | n + 1, r => .unusable :: gap n r
def poolList (es : List (Nat × CpInfo)) (last : Nat) : List CpInfo := es.foldr (fun e r => gap e.1 (e.2 :: r)) (gap last [])
def pool (es : List (Nat × CpInfo)) (last : Nat) : Array CpInfo := ⟨poolList es last⟩
def fileOf (pool : Array CpInfo) (this : Nat) (attrs : Array Attribute := #[]) (ms : Array MethodInfo := #[]) (fl : Nat := 33) (sup : Nat := 0) (ifs : Array Nat := #[]) (fds : Array FieldInfo := #[]) : ClassFile where
  minorVersion := 0
  majorVersion := 65
  constantPool := pool
  accessFlags := fl
  thisClass := this
  superClass := sup
  interfaces := ifs
  fields := fds
  methods := ms
  attributes := attrs
def plain (name : String) (sup : Option ClassId) : Class where
  name := name
  kind := .ordinary
  loader := none
  accessFlags := 33
  super := sup
  interfaces := #[]
  cf := none
  fields := #[]
  methods := #[]
  instanceTypes := #[]
  staticTypes := #[]
  resolved := #[]
  callSites := []
  init := .initialized
  statics := none
  mirror := none

def pool0 : Array CpInfo := pool [(5, u "<init>"), (0, u "()V"), (1, .class_ 10), (1, u "java/lang/Object")] 113

def k0c0 : Code := { maxStack := 0, maxLocals := 1, code := object_method_1_code, exceptionTable := #[], attributes := #[] }
def k0m0 : Method := { name := "<init>", desc := "()V", sig := { parameters := [], returnType := none }, accessFlags := 1, code := some k0c0 }
/-- java/lang/Object -/
def k0 : Class := { plain "java/lang/Object" none with
  accessFlags := 33
  interfaces := #[]
  cf := some (fileOf pool0 8 #[] #[{ accessFlags := 1, nameIndex := 5, descriptorIndex := 6, attributes := #[] }] 33 0 #[] #[])
  fields := #[]
  methods := #[k0m0]
  instanceTypes := #[]
  staticTypes := #[]
  resolved := Array.replicate 124 none
  statics := none }

def pool1 : Array CpInfo := pool [(2, .class_ 4), (1, u "java/lang/Object"), (0, u "<init>"), (0, u "()V"), (0, .integer 2147483647), (0, .class_ 9), (0, u "com/example/brinewright/brinewright/ResidualHelmholtz"), (0, .methodref 8 11), (0, .nameAndType 5 12), (0, u "(I)V"), (0, .methodref 8 14), (0, .nameAndType 15 16), (0, u "addComponent"), (0, u "(IDDD)V"), (0, .methodref 8 18), (0, .nameAndType 19 20), (0, u "dN"), (0, u "(I)D"), (0, .methodref 8 22), (0, .nameAndType 23 20), (0, u "dNdV"), (0, .methodref 8 25), (0, .nameAndType 26 20), (0, u "dNAtFreeVolume"), (0, .methodref 8 28), (0, .nameAndType 29 30), (0, u "value"), (0, u "()D"), (0, .methodref 8 32), (0, .nameAndType 33 30), (0, u "dV"), (0, .class_ 35), (0, u "com/example/brinewright/brinewright/ResidualHelmholtzAddComponentPinLaw"), (2, u "law"), (0, u "(IIIIII)Z")] 3

def k1m0 : Method := { name := "<init>", desc := "()V", sig := { parameters := [], returnType := none }, accessFlags := 1, code := none }
def k1c1 : Code := { maxStack := 8, maxLocals := 17, code := code, exceptionTable := #[], attributes := #[] }
def k1m1 : Method := { name := "law", desc := "(IIIIII)Z", sig := { parameters := [.int, .int, .int, .int, .int, .int], returnType := some .boolean }, accessFlags := 9, code := some k1c1 }
/-- com/example/brinewright/brinewright/ResidualHelmholtzAddComponentPinLaw -/
def k1 : Class := { plain "com/example/brinewright/brinewright/ResidualHelmholtzAddComponentPinLaw" (some 0) with
  accessFlags := 49
  interfaces := #[]
  cf := some (fileOf pool1 34 #[] #[{ accessFlags := 1, nameIndex := 5, descriptorIndex := 6, attributes := #[] }, { accessFlags := 9, nameIndex := 38, descriptorIndex := 39, attributes := #[] }] 49 2 #[] #[])
  fields := #[]
  methods := #[k1m0, k1m1]
  instanceTypes := #[]
  staticTypes := #[]
  resolved := Array.replicate 43 none
  statics := none }

def pool2 : Array CpInfo := pool [(1, .methodref 2 3), (0, .class_ 4), (0, .nameAndType 5 6), (0, u "java/lang/Object"), (0, u "<init>"), (0, u "()V"), (0, .fieldref 8 9), (0, .class_ 10), (0, .nameAndType 11 12), (0, u "com/example/brinewright/brinewright/ResidualHelmholtz"), (0, u "dN"), (0, u "[D"), (0, .fieldref 8 14), (0, .nameAndType 15 12), (0, u "dNdV"), (0, .fieldref 8 17), (0, .nameAndType 18 12), (0, u "dNAtFreeVolume"), (0, .fieldref 8 20), (0, .nameAndType 21 22), (0, u "value"), (0, u "D"), (0, .fieldref 8 24), (0, .nameAndType 25 22), (0, u "dV"), (2, u "dV2"), (0, u "(I)V"), (4, u "addComponent"), (0, u "(IDDD)V"), (0, u "()D"), (0, u "(I)D")] 2

def k2c0 : Code := { maxStack := 2, maxLocals := 2, code := prog_47_method_1_code, exceptionTable := #[], attributes := #[] }
def k2m0 : Method := { name := "<init>", desc := "(I)V", sig := { parameters := [.int], returnType := none }, accessFlags := 0, code := some k2c0 }
def k2c1 : Code := { maxStack := 6, maxLocals := 8, code := prog_47_method_3_code, exceptionTable := #[], attributes := #[] }
def k2m1 : Method := { name := "addComponent", desc := "(IDDD)V", sig := { parameters := [.int, .double, .double, .double], returnType := none }, accessFlags := 0, code := some k2c1 }
def k2c2 : Code := { maxStack := 2, maxLocals := 1, code := prog_47_method_4_code, exceptionTable := #[], attributes := #[] }
def k2m2 : Method := { name := "value", desc := "()D", sig := { parameters := [], returnType := some .double }, accessFlags := 0, code := some k2c2 }
def k2c3 : Code := { maxStack := 2, maxLocals := 1, code := prog_47_method_5_code, exceptionTable := #[], attributes := #[] }
def k2m3 : Method := { name := "dV", desc := "()D", sig := { parameters := [], returnType := some .double }, accessFlags := 0, code := some k2c3 }
def k2c4 : Code := { maxStack := 2, maxLocals := 2, code := prog_47_method_7_code, exceptionTable := #[], attributes := #[] }
def k2m4 : Method := { name := "dN", desc := "(I)D", sig := { parameters := [.int], returnType := some .double }, accessFlags := 0, code := some k2c4 }
def k2c5 : Code := { maxStack := 2, maxLocals := 2, code := prog_47_method_8_code, exceptionTable := #[], attributes := #[] }
def k2m5 : Method := { name := "dNdV", desc := "(I)D", sig := { parameters := [.int], returnType := some .double }, accessFlags := 0, code := some k2c5 }
def k2c6 : Code := { maxStack := 2, maxLocals := 2, code := prog_47_method_9_code, exceptionTable := #[], attributes := #[] }
def k2m6 : Method := { name := "dNAtFreeVolume", desc := "(I)D", sig := { parameters := [.int], returnType := some .double }, accessFlags := 0, code := some k2c6 }
/-- com/example/brinewright/brinewright/ResidualHelmholtz -/
def k2 : Class := { plain "com/example/brinewright/brinewright/ResidualHelmholtz" (some 0) with
  accessFlags := 48
  interfaces := #[]
  cf := some (fileOf pool2 8 #[] #[{ accessFlags := 0, nameIndex := 5, descriptorIndex := 29, attributes := #[] }, { accessFlags := 0, nameIndex := 34, descriptorIndex := 35, attributes := #[] }, { accessFlags := 0, nameIndex := 21, descriptorIndex := 36, attributes := #[] }, { accessFlags := 0, nameIndex := 25, descriptorIndex := 36, attributes := #[] }, { accessFlags := 0, nameIndex := 11, descriptorIndex := 37, attributes := #[] }, { accessFlags := 0, nameIndex := 15, descriptorIndex := 37, attributes := #[] }, { accessFlags := 0, nameIndex := 18, descriptorIndex := 37, attributes := #[] }] 48 2 #[] #[{ accessFlags := 2, nameIndex := 21, descriptorIndex := 22, attributes := #[] }, { accessFlags := 2, nameIndex := 25, descriptorIndex := 22, attributes := #[] }, { accessFlags := 2, nameIndex := 28, descriptorIndex := 22, attributes := #[] }, { accessFlags := 18, nameIndex := 11, descriptorIndex := 12, attributes := #[] }, { accessFlags := 18, nameIndex := 15, descriptorIndex := 12, attributes := #[] }, { accessFlags := 18, nameIndex := 18, descriptorIndex := 12, attributes := #[] }])
  fields := #[{ name := "value", type := .double, accessFlags := 2, slot := 0, constantValue := 0 }, { name := "dV", type := .double, accessFlags := 2, slot := 1, constantValue := 0 }, { name := "dV2", type := .double, accessFlags := 2, slot := 2, constantValue := 0 }, { name := "dN", type := (.array .double), accessFlags := 18, slot := 3, constantValue := 0 }, { name := "dNdV", type := (.array .double), accessFlags := 18, slot := 4, constantValue := 0 }, { name := "dNAtFreeVolume", type := (.array .double), accessFlags := 18, slot := 5, constantValue := 0 }]
  methods := #[k2m0, k2m1, k2m2, k2m3, k2m4, k2m5, k2m6]
  instanceTypes := #[.double, .double, .double, (.array .double), (.array .double), (.array .double)]
  staticTypes := #[]
  resolved := Array.replicate 40 none
  statics := none }

def pool3 : Array CpInfo := pool [(1, u "java/lang/Cloneable"), (0, .class_ 1), (0, u "java/lang/Object"), (0, .class_ 3)] 3

/-- java/lang/Cloneable -/
def k3 : Class := { plain "java/lang/Cloneable" (some 0) with
  accessFlags := 1537
  interfaces := #[]
  cf := some (fileOf pool3 2 #[] #[] 1537 4 #[] #[])
  fields := #[]
  methods := #[]
  instanceTypes := #[]
  staticTypes := #[]
  resolved := Array.replicate 8 none
  statics := none }

def pool4 : Array CpInfo := pool [(1, u "java/io/Serializable"), (0, .class_ 1), (0, u "java/lang/Object"), (0, .class_ 3)] 3

/-- java/io/Serializable -/
def k4 : Class := { plain "java/io/Serializable" (some 0) with
  accessFlags := 1537
  interfaces := #[]
  cf := some (fileOf pool4 2 #[] #[] 1537 4 #[] #[])
  fields := #[]
  methods := #[]
  instanceTypes := #[]
  staticTypes := #[]
  resolved := Array.replicate 8 none
  statics := none }

/-- the primitive byte -/
def k5 : Class := { plain "byte" none with kind := .primitive 'B', accessFlags := 0x411 }
/-- [B -/
def k6 : Class := { plain "[B" (some 0) with kind := .array 5 .byte, interfaces := #[3, 4], accessFlags := 1041 }

/-- the primitive int -/
def k7 : Class := { plain "int" none with kind := .primitive 'I', accessFlags := 0x411 }
/-- [I -/
def k8 : Class := { plain "[I" (some 0) with kind := .array 7 .int, interfaces := #[3, 4], accessFlags := 1041 }

/-- the primitive double -/
def k9 : Class := { plain "double" none with kind := .primitive 'D', accessFlags := 0x411 }
/-- [D -/
def k10 : Class := { plain "[D" (some 0) with kind := .array 9 .double, interfaces := #[3, 4], accessFlags := 1041 }
def heap : Heap := #[]
def classes : Array Class := #[k0, k1, k2, k3, k4, k5, k6, k7, k8, k9, k10]
def interned : List (Array UInt16 × Addr) := []
def slotsUsed : Nat := 0
def theMethod : MethodId := ⟨1, 1⟩
def args0 : Array Value := #[.int 5, .int 5, .int 5, .int 5, .int 5, .int 5]
def aboutOver (below : List Frame) : State where
  vm := { classes := classes, interned := interned.toArray }
  heap := heap
  slotsUsed := slotsUsed
  threads := #[{ frames := .invoking theMethod args0 :: below }]
def below0 : List Frame := [.native { method := ⟨0, 0⟩, args := #[] }]
def about1 : State := aboutOver below0
def p0 : Program := .bare "" "" ""
def e0 : Env := launch0.env 0 0 0
theorem w_frames : about1.frames = Frame.invoking theMethod args0 :: below0 := rfl
set_option maxRecDepth 65536 in
theorem w_args : argsFit about1.vm theMethod args0 = true := by decide +kernel
set_option maxRecDepth 65536 in
theorem w_heap : heapFits about1 = true := by decide +kernel
set_option maxRecDepth 65536 in
theorem w_runnable : about1.curStatus? = some .runnable := by decide +kernel
set_option maxRecDepth 65536 in
theorem w_alone : about1.alone = true := by decide +kernel
set_option maxRecDepth 65536 in
theorem w_named : about1.methodNamed? x = some theMethod := by decide +kernel
set_option maxRecDepth 65536 in
theorem w_hears : about1.hears theMethod below0 = true := by decide +kernel
set_option maxRecDepth 65536 in
theorem w_ripe : about1.ripe theMethod args0 below0 = true := by decide +kernel
theorem w_running : about1.status = .running := rfl
set_option maxRecDepth 65536 in
theorem w_room : about1.hasRoom e0.platform room_1 = true :=
  launch0.hasRoom_least _ room_1 (by decide +kernel) (by decide +kernel) (by decide +kernel) (by decide +kernel) (by decide +kernel) (by decide +kernel)
theorem allAtoms_all (ts : List Jvm.Cond) (a : Array Jvm.Value) (st : Jvm.State) : (allAtoms ts).before a st = ts.all (fun c => c.before a st) := by
  induction ts with
  | nil => rfl
  | cons c t ih =>
    show (Jvm.Cond.and c (allAtoms t)).before a st = _
    rw [Jvm.Cond.before_and, ih, List.all_cons]
def words1 : List Jvm.Cond := Jvm.Cond.code x code maxLocals ret :: tables_1
/-- a 'code' word, met by the world's own term for the bytes: nothing is compared byte by byte -/
theorem code_word {y : MethodName} {bytes : ByteArray} {mx : Nat} {rt : Option FieldType} {a : Array Value} {s : State} {m : MethodId} {meth : Method} {c : Code} (h1 : s.methodNamed? y = some m) (h2 : s.vm.method? m = some meth) (h3 : meth.code = some c) (h4 : c.code = bytes)
    (h5 : (c.maxLocals == mx && c.exceptionTable.isEmpty && decide (c.maxStack ≤ mostOperands) && decide (meth.sig.returnType = rt) && !meth.locks && decide (parseMethodDescriptor y.desc = some meth.sig)) = true) : (Jvm.Cond.code y bytes mx rt).before a s = true := by
  simp only [Bool.and_eq_true, beq_iff_eq, Bool.not_eq_true', decide_eq_true_eq] at h5
  obtain ⟨⟨⟨⟨⟨g1, g2⟩, g3⟩, g4⟩, g5⟩, g6⟩ := h5
  simp [Cond.before, Cond.holds, Cond.value, h1, h2, h3, h4, g1, g2, g3, g4, g5, g6]
def isCode : Jvm.Cond → Bool
  | .code _ _ _ _ => true
  | _ => false
theorem all_split {L : List Jvm.Cond} {P : Jvm.Cond → Bool} (h1 : L.all (fun c => isCode c || P c) = true) (h2 : ∀ c ∈ L.filter isCode, P c = true) : L.all P = true := by
  refine List.all_eq_true.mpr fun c hc => ?_
  have h := List.all_eq_true.mp h1 c hc
  rcases Bool.eq_false_or_eq_true (isCode c) with hi | hi
  · exact h2 c (List.mem_filter.mpr ⟨hc, hi⟩)
  · simpa [hi] using h
set_option maxRecDepth 65536 in
theorem w_c0 : (Jvm.Cond.code x code maxLocals ret).before args0 about1 = true := code_word (m := ⟨1, 1⟩) (meth := k1m1) (c := k1c1) (by decide +kernel) rfl rfl rfl (by decide +kernel)
set_option maxRecDepth 65536 in
theorem w_c1 : (Jvm.Cond.code ({ cls := "com/example/brinewright/brinewright/ResidualHelmholtz", name := "<init>", desc := "(I)V" } : Jvm.MethodName) prog_47_method_1_code (2 : Nat) (Option.none : Option Jvm.ClassFile.FieldType)).before args0 about1 = true := code_word (m := ⟨2, 0⟩) (meth := k2m0) (c := k2c0) (by decide +kernel) rfl rfl rfl (by decide +kernel)
set_option maxRecDepth 65536 in
theorem w_c2 : (Jvm.Cond.code ({ cls := "java/lang/Object", name := "<init>", desc := "()V" } : Jvm.MethodName) object_method_1_code (1 : Nat) (Option.none : Option Jvm.ClassFile.FieldType)).before args0 about1 = true := code_word (m := ⟨0, 0⟩) (meth := k0m0) (c := k0c0) (by decide +kernel) rfl rfl rfl (by decide +kernel)
set_option maxRecDepth 65536 in
theorem w_c3 : (Jvm.Cond.code ({ cls := "com/example/brinewright/brinewright/ResidualHelmholtz", name := "addComponent", desc := "(IDDD)V" } : Jvm.MethodName) prog_47_method_3_code (8 : Nat) (Option.none : Option Jvm.ClassFile.FieldType)).before args0 about1 = true := code_word (m := ⟨2, 1⟩) (meth := k2m1) (c := k2c1) (by decide +kernel) rfl rfl rfl (by decide +kernel)
set_option maxRecDepth 65536 in
theorem w_c4 : (Jvm.Cond.code ({ cls := "com/example/brinewright/brinewright/ResidualHelmholtz", name := "dN", desc := "(I)D" } : Jvm.MethodName) prog_47_method_7_code (2 : Nat) (Option.some Jvm.ClassFile.FieldType.double)).before args0 about1 = true := code_word (m := ⟨2, 4⟩) (meth := k2m4) (c := k2c4) (by decide +kernel) rfl rfl rfl (by decide +kernel)
set_option maxRecDepth 65536 in
theorem w_c5 : (Jvm.Cond.code ({ cls := "com/example/brinewright/brinewright/ResidualHelmholtz", name := "dNdV", desc := "(I)D" } : Jvm.MethodName) prog_47_method_8_code (2 : Nat) (Option.some Jvm.ClassFile.FieldType.double)).before args0 about1 = true := code_word (m := ⟨2, 5⟩) (meth := k2m5) (c := k2c5) (by decide +kernel) rfl rfl rfl (by decide +kernel)
set_option maxRecDepth 65536 in
theorem w_c6 : (Jvm.Cond.code ({ cls := "com/example/brinewright/brinewright/ResidualHelmholtz", name := "dNAtFreeVolume", desc := "(I)D" } : Jvm.MethodName) prog_47_method_9_code (2 : Nat) (Option.some Jvm.ClassFile.FieldType.double)).before args0 about1 = true := code_word (m := ⟨2, 6⟩) (meth := k2m6) (c := k2c6) (by decide +kernel) rfl rfl rfl (by decide +kernel)
set_option maxRecDepth 65536 in
theorem w_c7 : (Jvm.Cond.code ({ cls := "com/example/brinewright/brinewright/ResidualHelmholtz", name := "value", desc := "()D" } : Jvm.MethodName) prog_47_method_4_code (1 : Nat) (Option.some Jvm.ClassFile.FieldType.double)).before args0 about1 = true := code_word (m := ⟨2, 2⟩) (meth := k2m2) (c := k2c2) (by decide +kernel) rfl rfl rfl (by decide +kernel)
set_option maxRecDepth 65536 in
theorem w_c8 : (Jvm.Cond.code ({ cls := "com/example/brinewright/brinewright/ResidualHelmholtz", name := "dV", desc := "()D" } : Jvm.MethodName) prog_47_method_5_code (1 : Nat) (Option.some Jvm.ClassFile.FieldType.double)).before args0 about1 = true := code_word (m := ⟨2, 3⟩) (meth := k2m3) (c := k2c3) (by decide +kernel) rfl rfl rfl (by decide +kernel)
def codes1 : List Jvm.Cond := [Jvm.Cond.code x code maxLocals ret, Jvm.Cond.code ({ cls := "com/example/brinewright/brinewright/ResidualHelmholtz", name := "<init>", desc := "(I)V" } : Jvm.MethodName) prog_47_method_1_code (2 : Nat) (Option.none : Option Jvm.ClassFile.FieldType), Jvm.Cond.code ({ cls := "java/lang/Object", name := "<init>", desc := "()V" } : Jvm.MethodName) object_method_1_code (1 : Nat) (Option.none : Option Jvm.ClassFile.FieldType), Jvm.Cond.code ({ cls := "com/example/brinewright/brinewright/ResidualHelmholtz", name := "addComponent", desc := "(IDDD)V" } : Jvm.MethodName) prog_47_method_3_code (8 : Nat) (Option.none : Option Jvm.ClassFile.FieldType), Jvm.Cond.code ({ cls := "com/example/brinewright/brinewright/ResidualHelmholtz", name := "dN", desc := "(I)D" } : Jvm.MethodName) prog_47_method_7_code (2 : Nat) (Option.some Jvm.ClassFile.FieldType.double), Jvm.Cond.code ({ cls := "com/example/brinewright/brinewright/ResidualHelmholtz", name := "dNdV", desc := "(I)D" } : Jvm.MethodName) prog_47_method_8_code (2 : Nat) (Option.some Jvm.ClassFile.FieldType.double), Jvm.Cond.code ({ cls := "com/example/brinewright/brinewright/ResidualHelmholtz", name := "dNAtFreeVolume", desc := "(I)D" } : Jvm.MethodName) prog_47_method_9_code (2 : Nat) (Option.some Jvm.ClassFile.FieldType.double), Jvm.Cond.code ({ cls := "com/example/brinewright/brinewright/ResidualHelmholtz", name := "value", desc := "()D" } : Jvm.MethodName) prog_47_method_4_code (1 : Nat) (Option.some Jvm.ClassFile.FieldType.double), Jvm.Cond.code ({ cls := "com/example/brinewright/brinewright/ResidualHelmholtz", name := "dV", desc := "()D" } : Jvm.MethodName) prog_47_method_5_code (1 : Nat) (Option.some Jvm.ClassFile.FieldType.double)]
set_option maxRecDepth 65536 in
theorem codes_eq : words1.filter isCode = codes1 := rfl
theorem w_codes : ∀ c ∈ words1.filter isCode, c.before args0 about1 = true := by
  rw [codes_eq]
  intro c hc
  simp only [codes1, List.mem_cons, List.not_mem_nil, or_false] at hc
  rcases hc with rfl | rfl | rfl | rfl | rfl | rfl | rfl | rfl | rfl
  · exact w_c0
  · exact w_c1
  · exact w_c2
  · exact w_c3
  · exact w_c4
  · exact w_c5
  · exact w_c6
  · exact w_c7
  · exact w_c8
set_option maxRecDepth 65536 in
theorem w_t1 : (words1.take 24).all (fun c => isCode c || c.before args0 about1) = true := by decide +kernel
set_option maxRecDepth 65536 in
theorem w_t2 : ((words1.drop 24).take 24).all (fun c => isCode c || c.before args0 about1) = true := by decide +kernel
set_option maxRecDepth 65536 in
theorem w_t3 : ((words1.drop 24).drop 24).all (fun c => isCode c || c.before args0 about1) = true := by decide +kernel
theorem w_tables : (allAtoms (Jvm.Cond.code x code maxLocals ret :: tables_1)).before args0 about1 = true := by
  rw [allAtoms_all]
  show words1.all (fun c => c.before args0 about1) = true
  refine all_split ?_ w_codes
  rw [← List.take_append_drop 24 words1, List.all_append, w_t1, ← List.take_append_drop 24 (words1.drop 24), List.all_append, w_t2, w_t3]
  rfl
set_option maxRecDepth 65536 in
theorem w_case : (Jvm.Cond.and given_1 narrow_1).before args0 about1 = true := by decide +kernel
theorem w_applies : (headSpec (Jvm.Cond.code x code maxLocals ret :: tables_1) room_1).applies x e0.platform about1 = true :=
  (Spec.applies_iff w_frames).mpr ⟨w_running, w_runnable, w_alone, w_named, w_hears, w_ripe, w_room, w_tables⟩
theorem atStart : AtStart classFile x code maxLocals ret World_1 tables_1 room_1 Calls_1 rest_1 Pre_1 launch0 p0 e0 about1 theMethod args0 below0 :=
  ⟨lists_1, trivial, launch0.admits_env _ _ _, launch0.least_env, fairChoices_fair.cas, fairChoices_fair.clock, w_frames, w_args, w_heap, w_applies, trivial, trivial, w_case⟩
end start1
theorem witness_1 : WitnessClaimed_1 := ⟨start1.p0, start1.e0, start1.about1, start1.theMethod, start1.args0, start1.below0, start1.atStart⟩
end Jvm.Pilot.@@N@@
