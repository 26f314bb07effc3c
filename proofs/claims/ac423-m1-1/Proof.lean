import JvmDerived
import JvmDerived.Pilot.@@N@@Statement
import JvmDerived.Pilot.@@N@@Code
set_option linter.unusedVariables false
set_option linter.unusedSimpArgs false
namespace Jvm.RoadKit
open Sem ClassFile Op Lib Jvm.Stand Jvm.Free Jvm.LawKit
/-! own_: walks written forward: 'Goes P T g': from the frame g at T the run comes to a state that P takes. -/
def Goes (p : Program) (e : Env) (below : List Frame) (P : State → Prop) (T : State) (g : JFrame) : Prop := ∃ t, Steps p.tables e below (T.setTop g) t ∧ P t
/-- how a body ends: it returned v, and Q holds of v, the heap and the places written -/
def Fin1 (below : List Frame) (s : State) (rm : Room) (Q : Option Value → Heap → List Loc → Prop) (t : State) : Prop :=
  ∃ o, t.status = .running ∧ Ended t below o ∧ ∃ v L, o = .returned v ∧ Q v t.heap L ∧ FrameEnd s o t L rm.cells rm.slots
/-- a body's contract -/
def Does (l : Launch) (y : MethodName) (bytes : ByteArray) (maxL : Nat) (ret : Option FieldType) (ws : List Cond) (rm : Room) (Z : State) (as' : Array Value) (h : Heap) (Q : Option Value → Heap → List Loc → Prop) : Prop :=
  MetFree l y (head1 (Cond.code y bytes maxL ret :: ws) rm) (fun a U => a = as' ∧ Z.Warmed39 U.vm ∧ U.heap = h) (fun _ _ _ _ _ => True) (fun _ U o U' => ∃ v L, o = .returned v ∧ Q v U'.heap L ∧ FrameEnd U o U' L rm.cells rm.slots)
section Own
variable {p : Program} {l : Launch} {e : Env} {R : Room} {s : State} {m : MethodId} {args : Array Value} {below : List Frame} {meth : Method} {c : Code} {T T' : State} {locs : List Loc} {cells slots : Nat} {Z : State} {a0 : Array Value} {h h' : Heap} {g g' : JFrame} {P : State → Prop}
theorem Goes.by (st : ∀ target, Steps p.tables e below (T'.setTop g') target → Steps p.tables e below (T.setTop g) target) (k : Goes p e below P T' g') : Goes p e below P T g := by
  obtain ⟨t, h1, h2⟩ := k
  exact ⟨t, st _ h1, h2⟩
theorem Goes.cast (q : g = g') (k : Goes p e below P T g') : Goes p e below P T g := q ▸ k
theorem Does.of {y : MethodName} {bytes : ByteArray} {maxL : Nat} {ret : Option FieldType} {ws : List Cond} {rm : Room} {as' : Array Value} {Q : Option Value → Heap → List Loc → Prop} (hp : plainFor y = true)
    (body : ∀ (p : Program) (e : Env) (s : State) (m : MethodId) (below : List Frame) (meth : Method) (c : Code) (s₁ : State), p.tables.exec = Jvm.exec → c.code = bytes → c.maxLocals = maxL → meth.sig.returnType = ret → meth.locks = false → Z.Warmed39 s.vm → s.vm.findClass y.cls = some m.cls → meth.name = y.name → Stand p l e rm s m as' below meth c s₁ [] 0 0 → s₁.heap = h →
      Goes p e below (Fin1 below s rm Q) s₁ (entryFrame m as' maxL)) : Does l y bytes maxL ret ws rm Z as' h Q := by
  refine MetFree.of_bodySF hp hisR ?_
  intro p e s m args below meth c s₁ Bd hml0 hP hK
  obtain ⟨rfl, hZ, hh⟩ := hP
  have e0 : s₁.heap = h := by rw [← hh, Bd.state]; rfl
  obtain ⟨t, h1, o, h2⟩ := body p e s m below meth c s₁ Bd.exec Bd.bytes hml0 Bd.returns Bd.notSynchronized hZ (findClass_of_methodNamed Bd.named) ((name_of_methodNamed Bd.named Bd.method).1) (Stand.of_body Bd) e0
  exact ⟨t, o, h1, h2⟩
theorem fin_of {rm : Room} {Q : Option Value → Heap → List Loc → Prop} {v : Option Value} (X : Stand p l e R s m args below meth c T locs cells slots) (hlk : meth.locks = false) (hv : meth.sig.returnType = none → v = none) (hQ : Q v T.heap locs) (hc : cells ≤ rm.cells) (hs : slots ≤ rm.slots)
    (st : ∀ fs, (∀ (f : JFrame) (acts : List Action), f.method = m → f.locked = none → f.entered = [] → (doReturn e (T.setTop f) acts v).1 = T.setFrames fs) → Steps p.tables e below (T.setTop g) (T.setFrames fs)) : Goes p e below (Fin1 below s rm Q) T g := by
  obtain ⟨fs, hr, hrun, hended, hW, hsame⟩ := X.leave (v := v) hv hlk
  exact ⟨_, st fs hr, _, hrun, hended, _, _, rfl, hQ, ⟨_, rfl⟩, hW, hsame.mono hc hs⟩
theorem outV {rm : Room} {Q : Option Value → Heap → List Loc → Prop} {pc : Nat} {Ls : Array Slot} (X : Stand p l e R s m args below meth c T locs cells slots) (hx : p.tables.exec = Jvm.exec) (hlk : meth.locks = false) (hret : meth.sig.returnType = none) (hd : decode c.code pc = .ok (.return_, 1)) (hQ : Q none T.heap locs) (hc : cells ≤ rm.cells) (hs : slots ≤ rm.slots) : Goes p e below (Fin1 below s rm Q) T (mkF m pc Ls []) :=
  fin_of X hlk (fun _ => rfl) hQ hc hs fun fs hr => X.returnOut hx hret hd hr
theorem outZ {rm : Room} {Q : Option Value → Heap → List Loc → Prop} {pc : Nat} {Ls : Array Slot} {z : Int32} {rest : List Value} (X : Stand p l e R s m args below meth c T locs cells slots) (hx : p.tables.exec = Jvm.exec) (hlk : meth.locks = false) (hret : meth.sig.returnType = some .boolean) (hd : decode c.code pc = .ok (.ireturn, 1)) (hQ : Q (some (.int (nar .boolean z))) T.heap locs) (hc : cells ≤ rm.cells) (hs : slots ≤ rm.slots) : Goes p e below (Fin1 below s rm Q) T (mkF m pc Ls (.int z :: rest)) :=
  fin_of X hlk (fun h => by rw [hret] at h; cases h) hQ hc hs fun fs hr => retN X hx (t := .boolean) hret (by simp) hd hr
theorem outO {rm : Room} {Q : Option Value → Heap → List Loc → Prop} {pc : Nat} {Ls : Array Slot} {w : Value} {t : FieldType} {i : Instr} {rest : List Value} (X : Stand p l e R s m args below meth c T locs cells slots) (hx : p.tables.exec = Jvm.exec) (hlk : meth.locks = false) (hret : meth.sig.returnType = some t) (hn : narrow t w = w)
    (hi : (i = .ireturn ∧ (t = .int ∨ t = .boolean ∨ t = .byte ∨ t = .char ∨ t = .short) ∧ ∃ z, w = .int z) ∨ (i = .lreturn ∧ t = .long ∧ ∃ z, w = .long z) ∨ (i = .dreturn ∧ t = .double ∧ ∃ z, w = .double z) ∨ (i = .freturn ∧ t = .float ∧ ∃ z, w = .float z) ∨ (i = .areturn ∧ t.isReference = true ∧ w.isRef = true))
    (hd : decode c.code pc = .ok (i, 1)) (hQ : Q (some w) T.heap locs) (hc : cells ≤ rm.cells) (hs : slots ≤ rm.slots) : Goes p e below (Fin1 below s rm Q) T (mkF m pc Ls (w :: rest)) :=
  fin_of X hlk (fun h => by rw [hret] at h; cases h) hQ hc hs fun fs hr => retOut X hx hret hn hi hd hr
theorem outI {rm : Room} {Q : Option Value → Heap → List Loc → Prop} {pc : Nat} {Ls : Array Slot} {z : Int32} {rest : List Value} (X : Stand p l e R s m args below meth c T locs cells slots) (hx : p.tables.exec = Jvm.exec) (hlk : meth.locks = false) (hret : meth.sig.returnType = some .int) (hd : decode c.code pc = .ok (.ireturn, 1)) (hQ : Q (some (.int z)) T.heap locs) (hc : cells ≤ rm.cells) (hs : slots ≤ rm.slots) : Goes p e below (Fin1 below s rm Q) T (mkF m pc Ls (.int z :: rest)) :=
  outO X hx hlk hret rfl (Or.inl ⟨rfl, Or.inl rfl, _, rfl⟩) hd hQ hc hs
theorem outJ {rm : Room} {Q : Option Value → Heap → List Loc → Prop} {pc : Nat} {Ls : Array Slot} {z : Int64} {rest : List Value} (X : Stand p l e R s m args below meth c T locs cells slots) (hx : p.tables.exec = Jvm.exec) (hlk : meth.locks = false) (hret : meth.sig.returnType = some .long) (hd : decode c.code pc = .ok (.lreturn, 1)) (hQ : Q (some (.long z)) T.heap locs) (hc : cells ≤ rm.cells) (hs : slots ≤ rm.slots) : Goes p e below (Fin1 below s rm Q) T (mkF m pc Ls (.long z :: rest)) :=
  outO X hx hlk hret rfl (Or.inr (Or.inl ⟨rfl, rfl, _, rfl⟩)) hd hQ hc hs
theorem outD {rm : Room} {Q : Option Value → Heap → List Loc → Prop} {pc : Nat} {Ls : Array Slot} {z : UInt64} {rest : List Value} (X : Stand p l e R s m args below meth c T locs cells slots) (hx : p.tables.exec = Jvm.exec) (hlk : meth.locks = false) (hret : meth.sig.returnType = some .double) (hd : decode c.code pc = .ok (.dreturn, 1)) (hQ : Q (some (.double z)) T.heap locs) (hc : cells ≤ rm.cells) (hs : slots ≤ rm.slots) : Goes p e below (Fin1 below s rm Q) T (mkF m pc Ls (.double z :: rest)) :=
  outO X hx hlk hret rfl (Or.inr (Or.inr (Or.inl ⟨rfl, rfl, _, rfl⟩))) hd hQ hc hs
theorem outA {rm : Room} {Q : Option Value → Heap → List Loc → Prop} {pc : Nat} {Ls : Array Slot} {w : Value} {t : FieldType} {rest : List Value} (X : Stand p l e R s m args below meth c T locs cells slots) (hx : p.tables.exec = Jvm.exec) (hlk : meth.locks = false) (hret : meth.sig.returnType = some t) (ht : t.isReference = true) (hw : w.isRef = true) (hn : narrow t w = w) (hd : decode c.code pc = .ok (.areturn, 1)) (hQ : Q (some w) T.heap locs) (hc : cells ≤ rm.cells) (hs : slots ≤ rm.slots) : Goes p e below (Fin1 below s rm Q) T (mkF m pc Ls (w :: rest)) :=
  outO X hx hlk hret hn (Or.inr (Or.inr (Or.inr (Or.inr ⟨rfl, ht, hw⟩)))) hd hQ hc hs
/-! calls by a contract -/
theorem callI (X : Stand p l e R s m args below meth c T locs cells slots) (hx : p.tables.exec = Jvm.exec) (hZ : Z.Warmed39 s.vm) {own : String} {index : Nat} {y : MethodName} (hy1 : y.name = "<init>") (hown : s.vm.findClass own = some m.cls) {bytes : ByteArray} {maxL : Nat} {rm : Room}
    (w1 : (Cond.methodLink own index y).before a0 Z = true) (w2 : (Cond.instanceMethod y).before a0 Z = true) (w3 : (Cond.code y bytes maxL none).before a0 Z = true) (w4 : (Cond.initialized y.cls).before a0 Z = true) (hy : y.cls ≠ "java/lang/invoke/MethodHandle" ∧ y.cls ≠ "java/lang/invoke/VarHandle")
    (eT : T.heap = h) {a : Addr} {argsL rest : List Value} {as' : Array Value} {Q : Option Value → Heap → List Loc → Prop} {W : Nat} (hM : Does l y bytes maxL none [] rm Z as' h Q) (has : (.ref a :: argsL).toArray = as') (hf : rm.frames + 1 ≤ R.frames) (hl : W + (maxL + 11) + rm.locals ≤ R.locals)
    (hcc : cells + rm.cells ≤ R.cells) (hss : slots + rm.slots ≤ R.slots) {g : JFrame} (hg : g.method = m) (hsize : g.locals.size = c.maxLocals) (hlen : ∀ sig, parseMethodDescriptor y.desc = some sig → argsL.length = sig.parameters.length) (hst : g.stack = argsL.reverse ++ .ref a :: rest) (hW : 2 * g.monitorRoom + (rest.map fun v => v.category).sum ≤ W) (hd : decode c.code g.pc = .ok (.invokespecial index, 3)) :
    ∃ v T' L, Stand p l e R s m args below meth c T' (locs ++ L) (cells + rm.cells) (slots + rm.slots) ∧ Q v T'.heap L ∧ ∀ target, Steps p.tables e below (T'.setTop { g with pc := g.pc + 3, stack := v.toList ++ rest }) target → Steps p.tables e below (T.setTop g) target := by
  obtain ⟨v, vm1, ⟨T', L', k', n'⟩, -, X', ⟨L, hQ, e1, e2, e3⟩, st⟩ := X.specialBack hx (y := y) hy1 hown (mvT hZ w1) (mvT hZ w2) (mvT hZ w3) hy (backOf (W := W) hM hZ w3 w4 hf hl) hg hsize (Steps.refl _) hlen hst hW hd (fun _ _ => ⟨has, eT, hcc, hss⟩)
  dsimp only [Pt.U, Pt.locs, Pt.cells, Pt.slots] at X' e1 e2 e3 st hQ
  subst e1 e2 e3
  exact ⟨v, T', L, X', hQ, fun t k => st.trans k⟩
theorem callV (X : Stand p l e R s m args below meth c T locs cells slots) (hx : p.tables.exec = Jvm.exec) (hZ : Z.Warmed39 s.vm) {own C : String} {index : Nat} {y : MethodName} (hown : s.vm.findClass own = some m.cls) {bytes : ByteArray} {maxL : Nat} {ret : Option FieldType} {rm : Room}
    (w1 : (Cond.methodLink own index y).before a0 Z = true) (w2 : (Cond.declares y).before a0 Z = true) (w3 : (Cond.selects C y y).before a0 Z = true) (w4 : (Cond.instanceMethod y).before a0 Z = true) (w5 : (Cond.code y bytes maxL ret).before a0 Z = true) (w6 : (Cond.initialized y.cls).before a0 Z = true) (hy : y.cls ≠ "java/lang/invoke/MethodHandle" ∧ y.cls ≠ "java/lang/invoke/VarHandle")
    (eT : T.heap = h) {a : Addr} (E : Exa Z h a C) {argsL rest : List Value} {as' : Array Value} {Q : Option Value → Heap → List Loc → Prop} {W : Nat} (hM : Does l y bytes maxL ret [] rm Z as' h Q) (has : (.ref a :: argsL).toArray = as') (hf : rm.frames + 1 ≤ R.frames) (hl : W + (maxL + 11) + rm.locals ≤ R.locals)
    (hcc : cells + rm.cells ≤ R.cells) (hss : slots + rm.slots ≤ R.slots) {g : JFrame} (hg : g.method = m) (hsize : g.locals.size = c.maxLocals) (hlen : ∀ sig, parseMethodDescriptor y.desc = some sig → argsL.length = sig.parameters.length) (hst : g.stack = argsL.reverse ++ .ref a :: rest) (hW : 2 * g.monitorRoom + (rest.map fun v => v.category).sum ≤ W) (hd : decode c.code g.pc = .ok (.invokevirtual index, 3)) :
    ∃ v T' L, Stand p l e R s m args below meth c T' (locs ++ L) (cells + rm.cells) (slots + rm.slots) ∧ Q v T'.heap L ∧ ∀ target, Steps p.tables e below (T'.setTop { g with pc := g.pc + 3, stack := v.toList ++ rest }) target → Steps p.tables e below (T.setTop g) target := by
  obtain ⟨cB, kB, q1, q2, q3⟩ := isOf hZ eT E
  obtain ⟨v, vm1, ⟨T', L', k', n'⟩, -, X', ⟨L, hQ, e1, e2, e3⟩, st⟩ := X.virtualBack hx (y := y) (z := y) hown (mvT hZ w1) (mvT hZ w2) (notFace_of_selects (args := args) (mvT hZ w3)) (mvT hZ w3) (mvT hZ w4) hy (backOf (W := W) hM hZ w5 w6 hf hl) q1 q3 hg hsize (Steps.refl _) hlen hst hW hd (fun _ _ => ⟨has, eT, hcc, hss⟩)
  dsimp only [Pt.U, Pt.locs, Pt.cells, Pt.slots] at X' e1 e2 e3 st hQ
  subst e1 e2 e3
  exact ⟨v, T', L, X', hQ, fun t k => st.trans k⟩
theorem callC (X : Stand p l e R s m args below meth c T locs cells slots) (hx : p.tables.exec = Jvm.exec) (hZ : Z.Warmed39 s.vm) {own : String} {index : Nat} {y : MethodName} (hown : s.vm.findClass own = some m.cls) {bytes : ByteArray} {maxL : Nat} {ret : Option FieldType} {rm : Room}
    (w1 : (Cond.methodLink own index y).before a0 Z = true) (w2 : (Cond.static y).before a0 Z = true) (w3 : (Cond.code y bytes maxL ret).before a0 Z = true) (w4 : (Cond.initialized y.cls).before a0 Z = true) (hy : y.cls ≠ "java/lang/invoke/MethodHandle" ∧ y.cls ≠ "java/lang/invoke/VarHandle")
    (eT : T.heap = h) {argsL rest : List Value} {as' : Array Value} {Q : Option Value → Heap → List Loc → Prop} {W : Nat} (hM : Does l y bytes maxL ret [] rm Z as' h Q) (has : argsL.toArray = as') (hf : rm.frames + 1 ≤ R.frames) (hl : W + (maxL + 11) + rm.locals ≤ R.locals)
    (hcc : cells + rm.cells ≤ R.cells) (hss : slots + rm.slots ≤ R.slots) {g : JFrame} (hg : g.method = m) (hsize : g.locals.size = c.maxLocals) (hlen : ∀ sig, parseMethodDescriptor y.desc = some sig → argsL.length = sig.parameters.length) (hst : g.stack = argsL.reverse ++ rest) (hW : 2 * g.monitorRoom + (rest.map fun v => v.category).sum ≤ W) (hd : decode c.code g.pc = .ok (.invokestatic index, 3)) :
    ∃ v T' L, Stand p l e R s m args below meth c T' (locs ++ L) (cells + rm.cells) (slots + rm.slots) ∧ Q v T'.heap L ∧ ∀ target, Steps p.tables e below (T'.setTop { g with pc := g.pc + 3, stack := v.toList ++ rest }) target → Steps p.tables e below (T.setTop g) target := by
  obtain ⟨v, vm1, ⟨T', L', k', n'⟩, -, X', ⟨L, hQ, e1, e2, e3⟩, st⟩ := Jvm.LawKit.callS X hx (y := y) hown (mvT hZ w1) (mvT hZ w2) (mvT hZ w4) (mvT hZ w3) hy (backOf (W := W) hM hZ w3 w4 hf hl) hg hsize hlen hst hW hd (fun _ _ => ⟨has, eT, hcc, hss⟩)
  dsimp only [Pt.U, Pt.locs, Pt.cells, Pt.slots] at X' e1 e2 e3 st hQ
  subst e1 e2 e3
  exact ⟨v, T', L, X', hQ, st⟩
end Own
end Jvm.RoadKit
namespace Jvm.Free.XS
open Sem ClassFile Op Lib
theorem lcmpS {tb : Tables} [Ours tb] {e : Env} {below : List Frame} {T target : State} {m : MethodId} {c : Code} {g : JFrame} (h : At T m c below) (hx : tb.exec = Jvm.exec) (hg : g.method = m) {x y : Int64} {v : Int32} {rest : List Value} (hd : decode c.code g.pc = .ok (.lcmp, 1)) (hs : g.stack = .long y :: .long x :: rest) (hv : Jvm.RoadKit.lcmpW x y = v)
    (hr : Steps tb e below (T.setTop { g with pc := g.pc + 1, stack := .int v :: rest }) target) : Steps tb e below (T.setTop g) target := by
  subst hv
  exact lcmp h hx hg hd hs hr
end Jvm.Free.XS
namespace Jvm.RoadKit
open Sem ClassFile Op Lib Jvm.Stand Jvm.Free Jvm.LawKit Jvm.FP Jvm.Free.Fl
section OwnD
theorem own_cmp (i j : Int) : compare i j = if i < j then Ordering.lt else if i = j then Ordering.eq else Ordering.gt := rfl
theorem cmpL_lt {x y : Int64} (h : x < y) : lcmpW x y = -1 := by
  have h' := Int64.lt_iff_toInt_lt.mp h
  show (if y < x then (1 : Int32) else if x = y then 0 else -1) = -1
  rw [if_neg (fun q => by have := Int64.lt_iff_toInt_lt.mp q; omega), if_neg (fun q => by rw [q] at h'; omega)]
theorem cmpL_eq {x y : Int64} (h : x = y) : lcmpW x y = 0 := by
  subst h
  show (if x < x then (1 : Int32) else if x = x then 0 else -1) = 0
  rw [if_neg (fun q => by have := Int64.lt_iff_toInt_lt.mp q; omega), if_pos rfl]
theorem cmpL_gt {x y : Int64} (h : y < x) : lcmpW x y = 1 := by
  show (if y < x then (1 : Int32) else if x = y then 0 else -1) = 1
  rw [if_pos h]
theorem DInt_nn {i : Int} {x : UInt64} (h : Core.DInt i x) : NoNaN64 x := val64_no.mpr (Core.DInt_ne_nan h)
theorem DInt_fin {i : Int} {x : UInt64} (h : Core.DInt i x) : Fin64 x := fin64_core.mpr (by
  have h' : Core.Whole i (Core.val64 x) := h
  cases q : Core.val64 x with
  | nan => rw [q] at h'; exact h'.elim
  | inf s => rw [q] at h'; exact h'.elim
  | fin s c e => exact ⟨s, c, e, q⟩)
theorem cmpD_lt {i j : Int} {x y : UInt64} (hx : Core.DInt i x) (hy : Core.DInt j y) (h : i < j) (o : CmpOp) : cmpValue (FP.dcmp x y) o = -1 := by
  rw [show FP.dcmp x y = _ from Core.dcmp_int hx hy, own_cmp, if_pos h]; rfl
theorem cmpD_eq {i j : Int} {x y : UInt64} (hx : Core.DInt i x) (hy : Core.DInt j y) (h : i = j) (o : CmpOp) : cmpValue (FP.dcmp x y) o = 0 := by
  rw [show FP.dcmp x y = _ from Core.dcmp_int hx hy, own_cmp, if_neg (by omega), if_pos h]; rfl
theorem cmpD_gt {i j : Int} {x y : UInt64} (hx : Core.DInt i x) (hy : Core.DInt j y) (h : j < i) (o : CmpOp) : cmpValue (FP.dcmp x y) o = 1 := by
  rw [show FP.dcmp x y = _ from Core.dcmp_int hx hy, own_cmp, if_neg (by omega), if_neg (by omega)]; rfl
theorem DInt_zero : Core.DInt 0 0 := by
  have h := Core.l2d_int (a := 0) (by decide)
  rw [show Core.l2d 0 = 0 from l2d_zero] at h
  exact h
theorem DInt_i2d {x : Int32} {d : UInt64} (q : FP.i2d x = d) : Core.DInt x.toInt d := q ▸ Core.i2d_int x
theorem DInt_l2d {x : Int64} {d : UInt64} (q : FP.l2d x = d) (h : x.toInt.natAbs ≤ 2 ^ 53) : Core.DInt x.toInt d := q ▸ Core.l2d_int h
theorem DInt_add {i j : Int} {a b d : UInt64} (q : FP.dadd a b = d) (ha : Core.DInt i a) (hb : Core.DInt j b) (h : (i + j).natAbs ≤ 2 ^ 53) : Core.DInt (i + j) d := q ▸ Core.dadd_int ha hb h
theorem DInt_sub {i j : Int} {a b d : UInt64} (q : FP.dsub a b = d) (ha : Core.DInt i a) (hb : Core.DInt j b) (h : (i - j).natAbs ≤ 2 ^ 53) : Core.DInt (i - j) d := q ▸ Core.dsub_int ha hb h
theorem DInt_mul {i j : Int} {a b d : UInt64} (q : FP.dmul a b = d) (ha : Core.DInt i a) (hb : Core.DInt j b) (h : (i * j).natAbs ≤ 2 ^ 53) : Core.DInt (i * j) d := q ▸ Core.dmul_int ha hb h
end OwnD
/-! an array by the list of its values -/
def Sar (Z : State) (h : Heap) (a : Addr) (ty : FieldType) (vs : List Value) : Prop := ∃ c : Cell, Arr Z h a c ty ∧ c.slots = vs.toArray
section OwnA
variable {p : Program} {l : Launch} {e : Env} {R : Room} {s : State} {m : MethodId} {args : Array Value} {below : List Frame} {meth : Method} {c : Code} {T : State} {locs : List Loc} {cells slots : Nat} {Z : State} {a0 : Array Value} {h h' : Heap} {a b : Addr} {ty : FieldType} {vs : List Value} {sl : Nat} {v : Value} {ws : List Addr}
theorem Sar.lt (F : Sar Z h a ty vs) : a < h.size := by obtain ⟨c, A, -⟩ := F; exact A.lt
theorem Sar.ext (F : Sar Z h a ty vs) (E : Ext h h') : Sar Z h' a ty vs := by obtain ⟨c, A, r⟩ := F; exact ⟨c, A.ext E, r⟩
theorem Sar.other (F : Sar Z h b ty vs) (W : Wr h h' a sl v) (q : b ≠ a) : Sar Z h' b ty vs := by obtain ⟨c, A, r⟩ := F; exact ⟨c, A.other W q, r⟩
theorem Sar.keep (F : Sar Z h a ty vs) (K : Keep h h' ws) (q : a ∉ ws) : Sar Z h' a ty vs := by obtain ⟨c, A, r⟩ := F; exact ⟨c, ⟨K.2.1 a c A.1 q, A.2⟩, r⟩
theorem Sar.new {k : ClassId} {z : Int32} {n : Nat} (A : Arr Z h a (newA k ty z) ty) (hn : z.toNatClampNeg = n) : Sar Z h a ty (List.replicate n (defaultValue ty)) := ⟨_, A, by subst hn; show Array.replicate _ _ = _; simp⟩
theorem Sar.in {cl : Cell} {j : Int32} {i : Nat} (S : cl.slots = vs.toArray) (hj : j.toInt = i) (hi : i < vs.length) : ¬ (j < 0 ∨ cl.slots.size ≤ j.toNatClampNeg) := by
  rw [S]
  have q : j.toNatClampNeg = i := by show j.toInt.toNat = i; omega
  have r : ¬ j < 0 := fun z => by have z' := Int32.lt_iff_toInt_lt.mp z; rw [hj] at z'; simp at z'; omega
  rw [q]
  simp only [List.size_toArray]
  intro z
  rcases z with z | z
  · exact r z
  · omega
theorem Sar.nat {j : Int32} {i : Nat} (hj : j.toInt = i) : j.toNatClampNeg = i := by show j.toInt.toNat = i; omega
theorem stDS (X : Stand p l e R s m args below meth c T locs cells slots) (hx : p.tables.exec = Jvm.exec) (hZ : Z.Warmed39 s.vm) (eT : T.heap = h) (V : Sar Z h a .double vs) {j : Int32} {x : UInt64} (i : Nat) (hj : j.toInt = i) (hi : i < vs.length) {g : JFrame} (hg : g.method = m) {rest : List Value} (hs : g.stack = .double x :: .int j :: .ref a :: rest) (hd : decode c.code g.pc = .ok (.dastore, 1)) :
    ∃ T' h', Stand p l e R s m args below meth c T' (locs ++ [⟨a, i⟩]) cells slots ∧ T'.heap = h' ∧ Wr h h' a i (.double x) ∧ Sar Z h' a .double (vs.set i (.double x)) ∧ ∀ target, Steps p.tables e below (T'.setTop { g with pc := g.pc + 1, stack := rest }) target → Steps p.tables e below (T.setTop g) target := by
  obtain ⟨cl, A, S⟩ := V
  obtain ⟨T', h', X', e', W, st⟩ := stD X hx hZ eT A (Sar.in S hj hi) hg hs hd
  rw [Sar.nat hj] at X' W
  exact ⟨T', h', X', e', W, ⟨_, A.same W, by show cl.slots.setIfInBounds _ _ = _; rw [S]; simp⟩, st⟩
theorem stIS (X : Stand p l e R s m args below meth c T locs cells slots) (hx : p.tables.exec = Jvm.exec) (hZ : Z.Warmed39 s.vm) (eT : T.heap = h) (V : Sar Z h a .int vs) {j : Int32} {x : Int32} (i : Nat) (hj : j.toInt = i) (hi : i < vs.length) {g : JFrame} (hg : g.method = m) {rest : List Value} (hs : g.stack = .int x :: .int j :: .ref a :: rest) (hd : decode c.code g.pc = .ok (.iastore, 1)) :
    ∃ T' h', Stand p l e R s m args below meth c T' (locs ++ [⟨a, i⟩]) cells slots ∧ T'.heap = h' ∧ Wr h h' a i (.int x) ∧ Sar Z h' a .int (vs.set i (.int x)) ∧ ∀ target, Steps p.tables e below (T'.setTop { g with pc := g.pc + 1, stack := rest }) target → Steps p.tables e below (T.setTop g) target := by
  obtain ⟨cl, A, S⟩ := V
  obtain ⟨T', h', X', e', W, st⟩ := stI X hx hZ eT A (Sar.in S hj hi) hg hs hd
  rw [Sar.nat hj] at X' W
  exact ⟨T', h', X', e', W, ⟨_, A.same W, by show cl.slots.setIfInBounds _ _ = _; rw [S]; simp⟩, st⟩
theorem ldDS (X : Stand p l e R s m args below meth c T locs cells slots) (hx : p.tables.exec = Jvm.exec) (hZ : Z.Warmed39 s.vm) (eT : T.heap = h) (V : Sar Z h a .double vs) {j : Int32} (i : Nat) (hj : j.toInt = i) (hv : vs[i]? = some v) {g : JFrame} (hg : g.method = m) {rest : List Value} (hs : g.stack = .int j :: .ref a :: rest) (hd : decode c.code g.pc = .ok (.daload, 1)) :
    ∀ target, Steps p.tables e below (T.setTop { g with pc := g.pc + 1, stack := v :: rest }) target → Steps p.tables e below (T.setTop g) target := by
  obtain ⟨cl, A, S⟩ := V
  have hi : i < vs.length := (List.getElem?_eq_some_iff.mp hv).1
  exact X.daload hx (by rw [eT]; exact A.1) (State.isArrayOf_alike hZ.alike A.2.1) A.2.2 (Sar.in S hj hi) (by rw [S, Sar.nat hj]; simpa using hv) hg hs hd
theorem ldIS (X : Stand p l e R s m args below meth c T locs cells slots) (hx : p.tables.exec = Jvm.exec) (hZ : Z.Warmed39 s.vm) (eT : T.heap = h) (V : Sar Z h a .int vs) {j : Int32} (i : Nat) (hj : j.toInt = i) (hv : vs[i]? = some v) {g : JFrame} (hg : g.method = m) {rest : List Value} (hs : g.stack = .int j :: .ref a :: rest) (hd : decode c.code g.pc = .ok (.iaload, 1)) :
    ∀ target, Steps p.tables e below (T.setTop { g with pc := g.pc + 1, stack := v :: rest }) target → Steps p.tables e below (T.setTop g) target := by
  obtain ⟨cl, A, S⟩ := V
  have hi : i < vs.length := (List.getElem?_eq_some_iff.mp hv).1
  exact X.iaload hx (by rw [eT]; exact A.1) (State.isArrayOf_alike hZ.alike A.2.1) A.2.2 (Sar.in S hj hi) (by rw [S, Sar.nat hj]; simpa using hv) hg hs hd
theorem lenS (X : Stand p l e R s m args below meth c T locs cells slots) (hx : p.tables.exec = Jvm.exec) (hZ : Z.Warmed39 s.vm) (eT : T.heap = h) (V : Sar Z h a ty vs) {n : Int32} (hn : vs.length.toInt32 = n) {g : JFrame} (hg : g.method = m) {rest : List Value} (hs : g.stack = .ref a :: rest) (hd : decode c.code g.pc = .ok (.arraylength, 1)) :
    ∀ target, Steps p.tables e below (T.setTop { g with pc := g.pc + 1, stack := .int n :: rest }) target → Steps p.tables e below (T.setTop g) target := by
  obtain ⟨cl, A, S⟩ := V
  intro target k
  refine X.arraylength hx (by rw [eT]; exact A.1) (State.isArrayOf_alike hZ.alike A.2.1) hg hs hd target ?_
  rw [S]
  simp only [List.size_toArray, hn]
  exact k
end OwnA
end Jvm.RoadKit
namespace Jvm.RoadKit
open Jvm.FP Jvm.Free.Fl
theorem DInt_nz {i : Int} {x : UInt64} (h : Core.DInt i x) (hi : i ≠ 0) : Nz64 x := nz64_core.mpr fun z => by
  obtain ⟨s, q, e⟩ := z
  have h' : Core.Whole i (Core.val64 x) := h
  rw [e] at h'
  exact hi ((Core.whole_zero h').mp rfl)
theorem DInt_one : Core.DInt 1 4607182418800017408 := Core.dint_one
end Jvm.RoadKit
namespace Jvm.RoadKit
open Jvm.FP Jvm.Free.Fl Op
theorem cmpD_le {i j : Int} {x y : UInt64} (hx : Core.DInt i x) (hy : Core.DInt j y) (h : i ≤ j) (o : ClassFile.CmpOp) : ∃ v : Int32, cmpValue (FP.dcmp x y) o = v ∧ ¬ (0 : Int32) < v := by
  by_cases q : i < j
  · exact ⟨-1, cmpD_lt hx hy q o, by decide⟩
  · exact ⟨0, cmpD_eq hx hy (by omega) o, by decide⟩
theorem cmpD_ge {i j : Int} {x y : UInt64} (hx : Core.DInt i x) (hy : Core.DInt j y) (h : j ≤ i) (o : ClassFile.CmpOp) : ∃ v : Int32, cmpValue (FP.dcmp x y) o = v ∧ ¬ v < (0 : Int32) := by
  by_cases q : j < i
  · exact ⟨1, cmpD_gt hx hy q o, by decide⟩
  · exact ⟨0, cmpD_eq hx hy (by omega) o, by decide⟩
end Jvm.RoadKit
namespace Jvm.RoadKit
open Jvm.Free
theorem cmpL_le {x y : Int64} (h : ¬ y.toInt < x.toInt) : ∃ v : Int32, lcmpW x y = v ∧ ¬ (0 : Int32) < v := by
  by_cases q : x.toInt < y.toInt
  · exact ⟨-1, cmpL_lt (Int64.lt_iff_toInt_lt.mpr q), by decide⟩
  · exact ⟨0, cmpL_eq (Int64.toInt_inj.mp (by omega)), by decide⟩
theorem cmpL_gtI {x y : Int64} (h : y.toInt < x.toInt) : lcmpW x y = 1 := cmpL_gt (Int64.lt_iff_toInt_lt.mpr h)
end Jvm.RoadKit
namespace Jvm.RoadKit
open Jvm.Free
theorem cmpL_ge {x y : Int64} (h : ¬ x.toInt < y.toInt) : ∃ v : Int32, lcmpW x y = v ∧ ¬ v < (0 : Int32) := by
  by_cases q : y.toInt < x.toInt
  · exact ⟨1, cmpL_gtI q, by decide⟩
  · exact ⟨0, cmpL_eq (Int64.toInt_inj.mp (by omega)), by decide⟩
end Jvm.RoadKit
namespace Jvm.RoadKit
section OwnN
theorem own_mb {i j : Int} {A B : Nat} (hi : i.natAbs ≤ A) (hj : j.natAbs ≤ B) : (i * j).natAbs ≤ A * B := by rw [Int.natAbs_mul]; exact Nat.mul_le_mul hi hj
theorem own_mb2 {i j : Int} {A B : Nat} (hi : -(A : Int) ≤ i ∧ i ≤ A) (hj : -(B : Int) ≤ j ∧ j ≤ B) : -((A * B : Nat) : Int) ≤ i * j ∧ i * j ≤ ((A * B : Nat) : Int) := by
  have h := own_mb (i := i) (j := j) (A := A) (B := B) (by omega) (by omega)
  omega
theorem own_ladd {a b : Int64} (h1 : -9223372036854775808 ≤ a.toInt + b.toInt) (h2 : a.toInt + b.toInt < 9223372036854775808) : (a + b).toInt = a.toInt + b.toInt := by
  have := c_ladd a b; have := rng64 (a + b); omega
theorem own_lsub {a b : Int64} (h1 : -9223372036854775808 ≤ a.toInt - b.toInt) (h2 : a.toInt - b.toInt < 9223372036854775808) : (a - b).toInt = a.toInt - b.toInt := by
  have := c_lsub a b; have := rng64 (a - b); omega
theorem own_lmul {a b : Int64} (h : (a.toInt * b.toInt).natAbs < 9223372036854775808) : (a * b).toInt = a.toInt * b.toInt := by
  have := c_lmul a b; have := rng64 (a * b); omega
theorem own_short (x : Int32) : (x.toInt16.toInt32).toInt.natAbs ≤ 32768 := by
  have := c_i2s x; omega
theorem own_and3 (x : Int32) : (x &&& 3) = 0 ∨ (x &&& 3) = 1 ∨ (x &&& 3) = 2 ∨ (x &&& 3) = 3 := by
  have h := c_and x 3 (by decide)
  have e : (3 : Int32).toInt = 3 := by decide
  simp only [← Int32.toInt_inj]
  rw [show (0 : Int32).toInt = 0 from by decide, show (1 : Int32).toInt = 1 from by decide, show (2 : Int32).toInt = 2 from by decide, e]
  omega
end OwnN
end Jvm.RoadKit
namespace Jvm.RoadKit
theorem own_cancel {A B u v x y : Nat} (h : A * 2 ^ u = B * 2 ^ v) (e : u + y = v + x) : A * 2 ^ x = B * 2 ^ y := by
  refine Nat.eq_of_mul_eq_mul_right (Nat.two_pow_pos v) ?_
  rw [Nat.mul_assoc, ← Nat.pow_add, Nat.add_comm x v, ← e, Nat.pow_add, ← Nat.mul_assoc, h, Nat.mul_assoc, Nat.mul_assoc, Nat.mul_comm (2 ^ v)]
end Jvm.RoadKit
namespace Jvm.RoadKit
open Jvm.FP Jvm.Free.Fl Op
section OwnZ
/-- the double x is finite, and worth m units of 2^-1074 -/
def Zv (m : Int) (x : UInt64) : Prop := Core.DFin x ∧ Core.zval Core.b64 (Core.val64 x) = m
theorem Zv.fin {m : Int} {x : UInt64} (h : Zv m x) : Fin64 x := fin64_core.mpr h.1
theorem Zv.ne {m : Int} {x : UInt64} (h : Zv m x) : Core.val64 x ≠ .nan := by obtain ⟨⟨s, c, q, e⟩, -⟩ := h; rw [e]; exact fun z => nomatch z
theorem Zv.nn {m : Int} {x : UInt64} (h : Zv m x) : NoNaN64 x := val64_no.mpr h.ne
theorem Zv.lt {m n : Int} {x y : UInt64} (hx : Zv m x) (hy : Zv n y) (h : m < n) : FP.dcmp x y = some .lt := Core.dcmp_lt.mpr ⟨hx.ne, hy.ne, by rw [hx.2, hy.2]; exact h⟩
theorem Zv.gt {m n : Int} {x y : UInt64} (hx : Zv m x) (hy : Zv n y) (h : n < m) : FP.dcmp x y = some .gt := Core.dcmp_gt.mpr ⟨hx.ne, hy.ne, by rw [hx.2, hy.2]; exact h⟩
theorem Zv.eq {m n : Int} {x y : UInt64} (hx : Zv m x) (hy : Zv n y) (h : m = n) : FP.dcmp x y = some .eq := Core.dcmp_eq.mpr ⟨hx.ne, hy.ne, by rw [hx.2, hy.2]; exact h⟩
theorem Zv.cmp_lt {m n : Int} {x y : UInt64} (hx : Zv m x) (hy : Zv n y) (h : m < n) (o : ClassFile.CmpOp) : cmpValue (FP.dcmp x y) o = -1 := by rw [hx.lt hy h]; rfl
theorem Zv.cmp_gt {m n : Int} {x y : UInt64} (hx : Zv m x) (hy : Zv n y) (h : n < m) (o : ClassFile.CmpOp) : cmpValue (FP.dcmp x y) o = 1 := by rw [hx.gt hy h]; rfl
theorem Zv.cmp_eq {m n : Int} {x y : UInt64} (hx : Zv m x) (hy : Zv n y) (h : m = n) (o : ClassFile.CmpOp) : cmpValue (FP.dcmp x y) o = 0 := by rw [hx.eq hy h]; rfl
theorem Zv.cmp_le {m n : Int} {x y : UInt64} (hx : Zv m x) (hy : Zv n y) (h : m ≤ n) (o : ClassFile.CmpOp) : ∃ v : Int32, cmpValue (FP.dcmp x y) o = v ∧ ¬ (0 : Int32) < v := by
  by_cases q : m < n
  · exact ⟨-1, hx.cmp_lt hy q o, by decide⟩
  · exact ⟨0, hx.cmp_eq hy (by omega) o, by decide⟩
theorem Zv.cmp_ge {m n : Int} {x y : UInt64} (hx : Zv m x) (hy : Zv n y) (h : n ≤ m) (o : ClassFile.CmpOp) : ∃ v : Int32, cmpValue (FP.dcmp x y) o = v ∧ ¬ v < (0 : Int32) := by
  by_cases q : n < m
  · exact ⟨1, hx.cmp_gt hy q o, by decide⟩
  · exact ⟨0, hx.cmp_eq hy (by omega) o, by decide⟩
theorem own_qmin : Core.b64.qmin = -1074 := by decide
theorem own_M : ((2 ^ 1074 : Nat) : Int) = (Core.one64 : Int) := rfl
theorem Zv.of_int {i : Int} {x : UInt64} (h : Core.DInt i x) : Zv (i * ((2 ^ 1074 : Nat) : Int)) x := by
  refine ⟨fin64_core.mp (DInt_fin h), ?_⟩
  rw [Core.DInt_zval h]; rfl
/-- what of n * 2^(1074 - t) units the format holds exactly -/
theorem own_fit (s : Bool) {n t : Nat} (hn : n ≤ 2 ^ 53) (ht : t ≤ 1074) : ∃ c q, Core.roundRatio Core.b64 s n 1 (-(t : Int)) = .fin s c q ∧ Core.zmag Core.b64 (.fin s c q) = n * 2 ^ (1074 - t) := by
  have hp : Core.b64.p = 53 := by decide
  have hq := own_qmin
  have hM : Core.b64.qmax = 971 := by decide
  by_cases h : n = 2 ^ 53
  · subst h
    obtain ⟨c, q, e1, e2⟩ := Core.round_exact Core.good_b64 s (c := 2 ^ 52) (q := 1 - (t : Int)) (by rw [hp]; decide) (by rw [hq]; omega) (by rw [hM]; omega)
    refine ⟨c, q, ?_, ?_⟩
    · rw [← e1]
      show _ = Core.roundRatio Core.b64 s (2 ^ 52) 1 (1 - (t : Int))
      refine Core.roundRatio_congr (by decide) (by decide) ?_
      rw [show (-(t : Int) - (1 - (t : Int))).toNat = 0 by omega, show (1 - (t : Int) - -(t : Int)).toNat = 1 by omega]
    · show Core.inUnits c q Core.b64.qmin = _
      rw [e2]
      show 2 ^ 52 * 2 ^ (1 - (t : Int) - Core.b64.qmin).toNat = _
      rw [hq, show (1 - (t : Int) - -1074).toNat = (1074 - t) + 1 by omega, show (2 : Nat) ^ 53 = 2 ^ 52 * 2 from rfl, Nat.mul_assoc, Nat.pow_succ' (m := 2) (n := 1074 - t)]
  · obtain ⟨c, q, e1, e2⟩ := Core.round_exact Core.good_b64 s (c := n) (q := -(t : Int)) (by rw [hp]; omega) (by rw [hq]; omega) (by rw [hM]; omega)
    refine ⟨c, q, e1, ?_⟩
    show Core.inUnits c q Core.b64.qmin = _
    rw [e2]
    show n * 2 ^ (-(t : Int) - Core.b64.qmin).toNat = _
    rw [hq, show (-(t : Int) - -1074).toNat = 1074 - t by omega]
theorem Zv.mk {x : UInt64} {s : Bool} {A B : Nat} {e : Int} {m : Int} {n t : Nat} (hv : Core.val64 x = Core.roundRatio Core.b64 s A B e) (hB : 0 < B) (hn : n ≤ 2 ^ 53) (ht : t ≤ 1074) (h : A * 2 ^ (e + t).toNat = n * B * 2 ^ (-(t : Int) - e).toNat) (hm : Core.signed s (n * 2 ^ (1074 - t)) = m) : Zv m x := by
  have e1 : Core.roundRatio Core.b64 s A B e = Core.roundRatio Core.b64 s n 1 (-(t : Int)) := Core.roundRatio_congr hB (by decide) (by
    rw [show e - -(t : Int) = e + t by omega, Nat.mul_one]; exact h)
  obtain ⟨c, q, e2, e3⟩ := own_fit s hn ht
  rw [e1, e2] at hv
  refine ⟨⟨s, c, q, hv⟩, ?_⟩
  rw [hv]
  show Core.signed s (Core.zmag Core.b64 (.fin s c q)) = m
  rw [e3]; exact hm
theorem Zv.parts {m : Int} {x : UInt64} (h : Zv m x) : ∃ s c q, Core.val64 x = .fin s c q ∧ -1074 ≤ q ∧ m = Core.signed s (c * 2 ^ (q + 1074).toNat) := by
  obtain ⟨⟨s, c, q, e⟩, hz⟩ := h
  have hf := Core.val64_fits x
  rw [e] at hf hz
  have hq : Core.b64.qmin ≤ q := hf.2.1
  rw [own_qmin] at hq
  refine ⟨s, c, q, e, hq, ?_⟩
  rw [← hz]
  show Core.signed s (c * 2 ^ (q - Core.b64.qmin).toNat) = _
  rw [own_qmin, show q - -1074 = q + 1074 by omega]
theorem own_signed_abs (s : Bool) (c : Nat) : (Core.signed s c).natAbs = c := Core.natAbs_signed s c
/-- a product that the format holds -/
theorem Zv.mul {a b m : Int} {x y d : UInt64} {n t : Nat} (hx : Zv a x) (hy : Zv b y) (qd : FP.dmul x y = d) (h : a * b = m * ((2 ^ 1074 : Nat) : Int)) (hm : m.natAbs = n * 2 ^ (1074 - t)) (hn : n ≤ 2 ^ 53) (ht : t ≤ 1074) : Zv m d := by
  obtain ⟨s, c, q, e1, hq, rfl⟩ := hx.parts
  obtain ⟨t', c', r, e2, hr, rfl⟩ := hy.parts
  have hv : Core.val64 d = Core.roundRatio Core.b64 (s != t') (c * c') 1 (q + r) := by
    rw [← qd]
    show Core.val64 (Core.dmul x y) = _
    rw [Core.val64_dmul, e1, e2]; rfl
  rw [← Core.signed_xor] at h
  have habs : c * 2 ^ (q + 1074).toNat * (c' * 2 ^ (r + 1074).toNat) = n * 2 ^ (1074 - t) * 2 ^ 1074 := by
    have := congrArg Int.natAbs h
    rw [own_signed_abs, Int.natAbs_mul, hm, Int.natAbs_natCast] at this
    exact this
  refine Zv.mk hv (by decide) hn ht ?_ ?_
  · have h2 : c * c' * 2 ^ ((q + 1074).toNat + (r + 1074).toNat) = n * 2 ^ (1074 - t + 1074) := by
      rw [Nat.pow_add, Nat.pow_add, ← Nat.mul_assoc n, ← habs]
      exact Nat.mul_mul_mul_comm _ _ _ _
    rw [Nat.mul_one]
    exact own_cancel h2 (by omega)
  · have hp : (0 : Int) < ((2 ^ 1074 : Nat) : Int) := by have := Nat.two_pow_pos 1074; omega
    refine Int.eq_of_mul_eq_mul_right (Int.ne_of_gt hp) ?_
    rw [← h, ← Core.signed_mul, habs]
/-- a quotient that the format holds -/
theorem Zv.div {a b m : Int} {x y d : UInt64} {n t : Nat} (hx : Zv a x) (hy : Zv b y) (hb : b ≠ 0) (qd : FP.ddiv x y = d) (h : a * ((2 ^ 1074 : Nat) : Int) = m * b) (hm : m.natAbs = n * 2 ^ (1074 - t)) (hn : n ≤ 2 ^ 53) (ht : t ≤ 1074) : Zv m d := by
  obtain ⟨s, c, q, e1, hq, rfl⟩ := hx.parts
  obtain ⟨t', c', r, e2, hr, rfl⟩ := hy.parts
  have hc' : c' ≠ 0 := fun z => hb (by rw [z, Nat.zero_mul, Core.signed_zero])
  have hv : Core.val64 d = Core.roundRatio Core.b64 (s != t') c c' (q - r) := by
    rw [← qd]
    show Core.val64 (Core.ddiv x y) = _
    rw [Core.val64_ddiv, e1, e2]
    show (if c' = 0 then _ else Core.roundRatio Core.b64 (s != t') c c' (q - r)) = _
    rw [if_neg hc']
  have habs : c * 2 ^ (q + 1074).toNat * 2 ^ 1074 = n * 2 ^ (1074 - t) * (c' * 2 ^ (r + 1074).toNat) := by
    have := congrArg Int.natAbs h
    rw [Int.natAbs_mul, Int.natAbs_mul, own_signed_abs, own_signed_abs, hm, Int.natAbs_natCast] at this
    exact this
  have hpos : (0 : Int) < ((c' * 2 ^ (r + 1074).toNat : Nat) : Int) := by
    have := Nat.mul_pos (Nat.pos_of_ne_zero hc') (Nat.two_pow_pos (r + 1074).toNat); omega
  refine Zv.mk hv (Nat.pos_of_ne_zero hc') hn ht ?_ ?_
  · have h2 : c * 2 ^ ((q + 1074).toNat + 1074) = n * c' * 2 ^ (1074 - t + (r + 1074).toNat) := by
      rw [Nat.pow_add, Nat.pow_add, ← Nat.mul_assoc, habs]
      exact Nat.mul_mul_mul_comm _ _ _ _
    exact own_cancel h2 (by omega)
  · -- the sign
    have hM : (0 : Int) < ((2 ^ 1074 : Nat) : Int) := by have := Nat.two_pow_pos 1074; omega
    refine Int.eq_of_mul_eq_mul_right (Int.ne_of_gt hpos) ?_
    have h3 : Core.signed (s != t') (n * 2 ^ (1074 - t)) * ((c' * 2 ^ (r + 1074).toNat : Nat) : Int) = Core.signed (s != t') (c * 2 ^ (q + 1074).toNat) * ((2 ^ 1074 : Nat) : Int) := by
      rw [← Core.signed_mul, ← Core.signed_mul, habs]
    rw [h3]
    cases s <;> cases t' <;> simp only [Core.signed, Bool.false_eq_true, if_false, if_true, bne_self_eq_false, Bool.true_bne, Bool.false_bne, Bool.not_true, Bool.not_false] at h ⊢ <;> first | exact h | (rw [Int.mul_neg] at h; rw [Int.neg_mul, h, Int.neg_neg]) | (rw [Int.neg_mul] at h ⊢; exact h) | (rw [Int.mul_neg, Int.neg_mul] at h; exact Int.neg_inj.mp h)
end OwnZ
end Jvm.RoadKit
namespace Jvm.RoadKit
open Jvm.FP Jvm.Free.Fl Op
/-- a sum that the format holds -/
theorem Zv.add {a b m : Int} {x y d : UInt64} {n t : Nat} (hx : Zv a x) (hy : Zv b y) (qd : FP.dadd x y = d) (h : a + b = m) (hm : m.natAbs = n * 2 ^ (1074 - t)) (hn : n ≤ 2 ^ 53) (ht : t ≤ 1074) : Zv m d := by
  obtain ⟨⟨s, c, q, e1⟩, z1⟩ := hx
  obtain ⟨⟨s', c', r, e2⟩, z2⟩ := hy
  have f1 := Core.val64_fits x
  have f2 := Core.val64_fits y
  rw [e1] at f1 z1
  rw [e2] at f2 z2
  obtain ⟨sg, k, e, h1, h2, h3⟩ := Core.sum_units f1 f2
  rw [z1, z2, h] at h3
  rw [own_qmin] at h2
  have h4 : Core.inUnits k e Core.b64.qmin = k * 2 ^ (e + 1074).toNat := by
    show k * 2 ^ (e - Core.b64.qmin).toNat = _
    rw [own_qmin, show e - -1074 = e + 1074 by omega]
  rw [h4] at h3
  have habs : k * 2 ^ (e + 1074).toNat = n * 2 ^ (1074 - t) := by
    have := congrArg Int.natAbs h3
    rw [own_signed_abs, hm] at this
    exact this
  have hv : Core.val64 d = Core.roundRatio Core.b64 sg k 1 e := by
    rw [← qd]
    show Core.val64 (Core.dadd x y) = _
    rw [Core.val64_dadd, e1, e2, h1]; rfl
  refine Zv.mk hv (by decide) hn ht ?_ (by rw [← habs]; exact h3)
  rw [Nat.mul_one]
  exact own_cancel habs (by omega)
end Jvm.RoadKit
namespace Jvm.RoadKit
open Jvm.FP Jvm.Free.Fl Op
theorem own_fin_le {x : UInt64} (h : Fin64 x) (o : ClassFile.CmpOp) : ∃ v : Int32, cmpValue (FP.dcmp (x &&& 9223372036854775807) 9218868437227405311) o = v ∧ ¬ (0 : Int32) < v := by
  have q : relLe (FP.dcmp (x &&& 9223372036854775807) 9218868437227405311) = true := (le_max_iff h.noNaN).mpr h
  rcases hc : FP.dcmp (x &&& 9223372036854775807) 9218868437227405311 with _ | (_ | _ | _) <;> rw [hc] at q
  · exact absurd q (by decide)
  · exact ⟨-1, rfl, by decide⟩
  · exact ⟨0, rfl, by decide⟩
  · exact absurd q (by decide)
end Jvm.RoadKit
namespace Jvm.Pilot.@@N@@
open Jvm Jvm.ClassFile Sem Op Lib Jvm.Free Jvm.Stand Jvm.LawKit Jvm.RoadKit Jvm.FP Jvm.Free.Fl Bundle Jvm.Pilot.@@N@@.Jvm.D
theorem own_half : Zv ((2 ^ 1073 : Nat) : Int) 4602678819172646912 := ⟨⟨false, 2 ^ 52, -53, by decide +kernel⟩, by decide +kernel⟩
theorem own_hpos : (0 : Int) < ((2 ^ 1073 : Nat) : Int) := by have := Nat.two_pow_pos 1073; omega
theorem own_halfmul {i : Int} {x d : UInt64} (h : Core.DInt i x) (q : FP.dmul x 4602678819172646912 = d) (b : i.natAbs ≤ 2 ^ 53) : Zv (i * ((2 ^ 1073 : Nat) : Int)) d :=
  Zv.mul (Zv.of_int h) own_half q (Int.mul_right_comm _ _ _) (n := i.natAbs) (t := 1) (by rw [Int.natAbs_mul, Int.natAbs_natCast]) b (by decide)
theorem own_hlt {i j : Int} (h : i < j) : i * ((2 ^ 1073 : Nat) : Int) < j * ((2 ^ 1073 : Nat) : Int) := Int.mul_lt_mul_of_pos_right h own_hpos
theorem own_hle {i j : Int} (h : i ≤ j) : i * ((2 ^ 1073 : Nat) : Int) ≤ j * ((2 ^ 1073 : Nat) : Int) := Int.mul_le_mul_of_nonneg_right h (Int.le_of_lt own_hpos)
theorem pd0 : parseMethodDescriptor "(D)D" = some ⟨[.double], some .double⟩ := by decide +kernel
theorem d3_0 : decode jdk_117_method_8_code 0 = .ok (.dload_n 0, 1) := by decide +kernel
theorem d3_1 : decode jdk_117_method_8_code 1 = .ok (.invokestatic 38, 3) := by decide +kernel
theorem d3_4 : decode jdk_117_method_8_code 4 = .ok (.ldc2_w 111, 3) := by decide +kernel
theorem d3_7 : decode jdk_117_method_8_code 7 = .ok (.dcmp .g, 1) := by decide +kernel
theorem d3_8 : decode jdk_117_method_8_code 8 = .ok (.ifCond .gt 7, 3) := by decide +kernel
theorem d3_11 : decode jdk_117_method_8_code 11 = .ok (.iconst 1, 1) := by decide +kernel
theorem d3_12 : decode jdk_117_method_8_code 12 = .ok (.goto 4, 3) := by decide +kernel
theorem d3_15 : decode jdk_117_method_8_code 15 = .ok (.iconst 0, 1) := by decide +kernel
theorem d3_16 : decode jdk_117_method_8_code 16 = .ok (.ireturn, 1) := by decide +kernel
theorem pn0 : plainName "java/lang/Double" = true := by first | (simp [plainName, overriddenIn]; done) | decide +kernel
theorem pd1 : parseMethodDescriptor "(D)Z" = some ⟨[.double], some .boolean⟩ := by decide +kernel
theorem ef_rm_fin (m : MethodId) (x0 : UInt64) : entryFrame m #[(.double x0)] 2 = mkF m 0 #[.val (.double x0), .second] [] := by first | (simp [entryFrame, mkF, argsToLocals, Value.category, maxLocals]; done) | rfl
set_option maxRecDepth 65536 in
set_option maxHeartbeats 40000000 in
theorem rm_fin (l : Launch) (Z : State) (a0 : Array Value) (hw : ∀ d ∈ tables_1, d.before a0 Z = true) (x : UInt64) (h0 : Heap) (n0 : Nat) (Z0 : n0 ≤ h0.size) (FX : Fin64 x) :
    Does l (⟨"java/lang/Double", "isFinite", "(D)Z"⟩ : MethodName) jdk_117_method_8_code 2 (some .boolean) [] ({ frames := 1, cells := 0, slots := 0, locals := 13 } : Room) Z #[(.double x)] h0 (fun v h L => v = some (.int 1) ∧ Fr n0 L ∧ h = h0) := by
  refine Does.of (plainFor_of_name pn0) ?_
  intro p e s m below meth c s₁ hx hby hml hret hlk hZ hown hnm X0 e0
  have N0 := Fr.nil n0
  refine Goes.cast (g' := mkF m 0 #[.val (.double x), .second] []) (ef_rm_fin m x) ?_
  refine Goes.by (T' := s₁) (g' := (mkF m 1 #[.val (.double x), .second] [(.double x)])) (fun _ k => XS.dloadN X0.here hx rfl (hb hby d3_0) rfl k) ?_
  obtain ⟨T1, X1, e1, st1⟩ := natS X0 hx hZ hown (hw _ (List.mem_of_getElem? (i := 14) rfl)) (hw _ (List.mem_of_getElem? (i := 15) rfl)) (hw _ (List.mem_of_getElem? (i := 16) rfl)) (hw _ (List.mem_of_getElem? (i := 17) rfl)) (by decide) e0 (W := 0) (fun hc => Abs.absD_pays x hc (by decide) (by decide)) (g := (mkF m 1 #[.val (.double x), .second] [(.double x)])) rfl (by rw [hml]; rfl) (argsL := [(.double x)]) (rest := []) (lenOf pd0 rfl) rfl (by show 2 * 0 + _ ≤ _; exact Nat.le_of_eq rfl) (hb hby d3_1) (by decide) (by decide) ⟨rfl, FX.noNaN⟩ rfl
  refine Goes.by (T' := T1) (g' := (mkF m 4 #[.val (.double x), .second] [(.double (x &&& 9223372036854775807))])) st1 ?_
  refine Goes.by (T' := T1) (g' := (mkF m 7 #[.val (.double x), .second] [(.double (9218868437227405311 : UInt64)), (.double (x &&& 9223372036854775807))])) (X1.ldc2DoubleC hx hown (mvT hZ (hw _ (List.mem_of_getElem? (i := 18) rfl))) (g := (mkF m 4 #[.val (.double x), .second] [(.double (x &&& 9223372036854775807))])) rfl (hb hby d3_4)) ?_
  obtain ⟨cv, hv, hn⟩ := own_fin_le FX .g
  refine Goes.by (T' := T1) (g' := (mkF m 8 #[.val (.double x), .second] [(.int cv)])) (fun _ k => XS.dcmpS X1.here hx rfl (hb hby d3_7) rfl hv k) ?_
  refine Goes.by (T' := T1) (g' := (mkF m 11 #[.val (.double x), .second] [])) (fun _ k => XS.ifNo X1.here hx rfl (hb hby d3_8) rfl ((if0 _ _).trans (flt hn).2.2.1) k) ?_
  refine Goes.by (T' := T1) (g' := (mkF m 12 #[.val (.double x), .second] [(.int (1 : Int32))])) (fun _ k => XS.iconst X1.here hx rfl (hb hby d3_11)  k) ?_
  refine Goes.by (T' := T1) (g' := (mkF m 16 #[.val (.double x), .second] [(.int (1 : Int32))])) (fun _ k => XS.goto X1.here hx rfl (pc0 := 12) (pc' := 16) rfl (hb hby d3_12) (by decide) (by decide) k) ?_
  exact outZ X1 hx hlk hret (hb hby d3_16) (by rw [e1]; exact ⟨rfl, N0, rfl⟩) (by decide) (by decide)
theorem d1_0 : decode prog_9_method_1_code 0 = .ok (.aload_n 0, 1) := by decide +kernel
theorem d1_1 : decode prog_9_method_1_code 1 = .ok (.invokespecial 1, 3) := by decide +kernel
theorem d1_4 : decode prog_9_method_1_code 4 = .ok (.dload_n 1, 1) := by decide +kernel
theorem d1_5 : decode prog_9_method_1_code 5 = .ok (.invokestatic 7, 3) := by decide +kernel
theorem d1_8 : decode prog_9_method_1_code 8 = .ok (.ifCond .eq 10, 3) := by decide +kernel
theorem d1_11 : decode prog_9_method_1_code 11 = .ok (.dload_n 3, 1) := by decide +kernel
theorem d1_12 : decode prog_9_method_1_code 12 = .ok (.invokestatic 7, 3) := by decide +kernel
theorem d1_15 : decode prog_9_method_1_code 15 = .ok (.ifCond .ne 18, 3) := by decide +kernel
theorem d1_18 : decode prog_9_method_1_code 18 = .ok (.new 13, 3) := by decide +kernel
theorem d1_21 : decode prog_9_method_1_code 21 = .ok (.dup, 1) := by decide +kernel
theorem d1_22 : decode prog_9_method_1_code 22 = .ok (.dload_n 1, 1) := by decide +kernel
theorem d1_23 : decode prog_9_method_1_code 23 = .ok (.dload_n 3, 1) := by decide +kernel
theorem d1_29 : decode prog_9_method_1_code 29 = .ok (.invokespecial 19, 3) := by decide +kernel
theorem d1_32 : decode prog_9_method_1_code 32 = .ok (.athrow, 1) := by decide +kernel
theorem d1_33 : decode prog_9_method_1_code 33 = .ok (.dload_n 1, 1) := by decide +kernel
theorem d1_34 : decode prog_9_method_1_code 34 = .ok (.dload_n 3, 1) := by decide +kernel
theorem d1_35 : decode prog_9_method_1_code 35 = .ok (.dcmp .g, 1) := by decide +kernel
theorem d1_36 : decode prog_9_method_1_code 36 = .ok (.ifCond .lt 18, 3) := by decide +kernel
theorem d1_39 : decode prog_9_method_1_code 39 = .ok (.new 13, 3) := by decide +kernel
theorem d1_42 : decode prog_9_method_1_code 42 = .ok (.dup, 1) := by decide +kernel
theorem d1_43 : decode prog_9_method_1_code 43 = .ok (.dload_n 3, 1) := by decide +kernel
theorem d1_44 : decode prog_9_method_1_code 44 = .ok (.dload_n 1, 1) := by decide +kernel
theorem d1_50 : decode prog_9_method_1_code 50 = .ok (.invokespecial 19, 3) := by decide +kernel
theorem d1_53 : decode prog_9_method_1_code 53 = .ok (.athrow, 1) := by decide +kernel
theorem d1_54 : decode prog_9_method_1_code 54 = .ok (.aload_n 0, 1) := by decide +kernel
theorem d1_55 : decode prog_9_method_1_code 55 = .ok (.dload_n 1, 1) := by decide +kernel
theorem d1_56 : decode prog_9_method_1_code 56 = .ok (.putfield 23, 3) := by decide +kernel
theorem d1_59 : decode prog_9_method_1_code 59 = .ok (.aload_n 0, 1) := by decide +kernel
theorem d1_60 : decode prog_9_method_1_code 60 = .ok (.dload_n 3, 1) := by decide +kernel
theorem d1_61 : decode prog_9_method_1_code 61 = .ok (.putfield 29, 3) := by decide +kernel
theorem d1_64 : decode prog_9_method_1_code 64 = .ok (.return_, 1) := by decide +kernel
theorem pn1 : plainName "com/example/gaugefit/gaugefit/core/Interval" = true := by first | (simp [plainName, overriddenIn]; done) | decide +kernel
theorem pd2 : parseMethodDescriptor "(DD)V" = some ⟨[.double, .double], none⟩ := by decide +kernel
theorem ef_rm_init (m : MethodId) (x0 : Addr) (x1 : UInt64) (x2 : UInt64) : entryFrame m #[(.ref x0), (.double x1), (.double x2)] 5 = mkF m 0 #[.val (.ref x0), .val (.double x1), .second, .val (.double x2), .second] [] := by first | (simp [entryFrame, mkF, argsToLocals, Value.category, maxLocals]; done) | rfl
set_option maxRecDepth 65536 in
set_option maxHeartbeats 40000000 in
theorem rm_init (l : Launch) (Z : State) (a0 : Array Value) (hw : ∀ d ∈ tables_1, d.before a0 Z = true) (a : Addr) (u0 u1 : UInt64) (m0 m1 : Int) (h0 : Heap) (n0 : Nat) (Z0 : n0 ≤ h0.size) (EA : Exa Z h0 a "com/example/gaugefit/gaugefit/core/Interval") (F_begin_a : Fld Z h0 a "com/example/gaugefit/gaugefit/core/Interval" "begin" "D" (.double (0 : UInt64))) (F_end_a : Fld Z h0 a "com/example/gaugefit/gaugefit/core/Interval" "end" "D" (.double (0 : UInt64))) (ga : n0 ≤ a) (U0 : Zv m0 u0) (U1 : Zv m1 u1) (hlt : m0 < m1) :
    Does l (⟨"com/example/gaugefit/gaugefit/core/Interval", "<init>", "(DD)V"⟩ : MethodName) prog_9_method_1_code 5 none [] ({ frames := 2, cells := 0, slots := 0, locals := 26 } : Room) Z #[(.ref a), (.double u0), (.double u1)] h0 (fun v h L => v = none ∧ Fld Z h a "com/example/gaugefit/gaugefit/core/Interval" "begin" "D" (.double u0) ∧ Fld Z h a "com/example/gaugefit/gaugefit/core/Interval" "end" "D" (.double u1) ∧ Keep h0 h [a] ∧ Fr n0 L) := by
  refine Does.of (plainFor_of_name pn1) ?_
  intro p e s m below meth c s₁ hx hby hml hret hlk hZ hown hnm X0 e0
  have N0 := Fr.nil n0
  refine Goes.cast (g' := mkF m 0 #[.val (.ref a), .val (.double u0), .second, .val (.double u1), .second] []) (ef_rm_init m a u0 u1) ?_
  have K0 := Keep.refl h0 [a]
  refine Goes.by (T' := s₁) (g' := (mkF m 1 #[.val (.ref a), .val (.double u0), .second, .val (.double u1), .second] [(.ref a)])) (fun _ k => XS.aloadN X0.here hx rfl (hb hby d1_0) rfl rfl k) ?_
  obtain ⟨T2, X2, e2, st2⟩ := initO X0 hx hZ hown (hw _ (List.mem_of_getElem? (i := 7) rfl)) (hw _ (List.mem_of_getElem? (i := 8) rfl)) (hw _ (List.mem_of_getElem? (i := 9) rfl)) e0 (g := (mkF m 1 #[.val (.ref a), .val (.double u0), .second, .val (.double u1), .second] [(.ref a)])) rfl (by rw [hml]; rfl) rfl (hb hby d1_1) (by decide) (W := 0) (by show 2 * 0 + _ ≤ _; exact Nat.le_of_eq rfl) (by decide)
  refine Goes.by (T' := T2) (g' := (mkF m 4 #[.val (.ref a), .val (.double u0), .second, .val (.double u1), .second] [])) st2 ?_
  refine Goes.by (T' := T2) (g' := (mkF m 5 #[.val (.ref a), .val (.double u0), .second, .val (.double u1), .second] [(.double u0)])) (fun _ k => XS.dloadN X2.here hx rfl (hb hby d1_4) rfl k) ?_
  obtain ⟨v3, T3, L3, X3, hQ3, st3⟩ := callC X2 hx hZ (y := (⟨"java/lang/Double", "isFinite", "(D)Z"⟩ : MethodName)) hown (hw _ (List.mem_of_getElem? (i := 10) rfl)) (hw _ (List.mem_of_getElem? (i := 11) rfl)) (hw _ (List.mem_of_getElem? (i := 13) rfl)) (hw _ (List.mem_of_getElem? (i := 12) rfl)) (by decide) e2 (argsL := [(.double u0)]) (rest := []) (W := 0) (rm_fin l Z a0 hw u0 h0 n0 Z0 U0.fin) rfl (by decide) (by decide) (by decide) (by decide) (g := (mkF m 5 #[.val (.ref a), .val (.double u0), .second, .val (.double u1), .second] [(.double u0)])) rfl (by rw [hml]; rfl) (lenOf pd1 rfl) rfl (by show 2 * 0 + _ ≤ _; exact Nat.le_of_eq rfl) (hb hby d1_5)
  obtain ⟨rfl, NL3, hk3⟩ := hQ3
  have N0 := Fr.app N0 NL3
  refine Goes.by (T' := T3) (g' := (mkF m 8 #[.val (.ref a), .val (.double u0), .second, .val (.double u1), .second] [(.int (1 : Int32))])) st3 ?_
  refine Goes.by (T' := T3) (g' := (mkF m 11 #[.val (.ref a), .val (.double u0), .second, .val (.double u1), .second] [])) (fun _ k => XS.ifNo X3.here hx rfl (hb hby d1_8) rfl (by decide) k) ?_
  refine Goes.by (T' := T3) (g' := (mkF m 12 #[.val (.ref a), .val (.double u0), .second, .val (.double u1), .second] [(.double u1)])) (fun _ k => XS.dloadN X3.here hx rfl (hb hby d1_11) rfl k) ?_
  obtain ⟨v4, T4, L4, X4, hQ4, st4⟩ := callC X3 hx hZ (y := (⟨"java/lang/Double", "isFinite", "(D)Z"⟩ : MethodName)) hown (hw _ (List.mem_of_getElem? (i := 10) rfl)) (hw _ (List.mem_of_getElem? (i := 11) rfl)) (hw _ (List.mem_of_getElem? (i := 13) rfl)) (hw _ (List.mem_of_getElem? (i := 12) rfl)) (by decide) hk3 (argsL := [(.double u1)]) (rest := []) (W := 0) (rm_fin l Z a0 hw u1 h0 n0 Z0 U1.fin) rfl (by decide) (by decide) (by decide) (by decide) (g := (mkF m 12 #[.val (.ref a), .val (.double u0), .second, .val (.double u1), .second] [(.double u1)])) rfl (by rw [hml]; rfl) (lenOf pd1 rfl) rfl (by show 2 * 0 + _ ≤ _; exact Nat.le_of_eq rfl) (hb hby d1_12)
  obtain ⟨rfl, NL4, hk4⟩ := hQ4
  have N0 := Fr.app N0 NL4
  refine Goes.by (T' := T4) (g' := (mkF m 15 #[.val (.ref a), .val (.double u0), .second, .val (.double u1), .second] [(.int (1 : Int32))])) st4 ?_
  refine Goes.by (T' := T4) (g' := (mkF m 33 #[.val (.ref a), .val (.double u0), .second, .val (.double u1), .second] [])) (fun _ k => XS.ifYes X4.here hx rfl (pc0 := 15) (pc' := 33) rfl (hb hby d1_15) rfl (by decide) (by decide) (by decide) k) ?_
  refine Goes.by (T' := T4) (g' := (mkF m 34 #[.val (.ref a), .val (.double u0), .second, .val (.double u1), .second] [(.double u0)])) (fun _ k => XS.dloadN X4.here hx rfl (hb hby d1_33) rfl k) ?_
  refine Goes.by (T' := T4) (g' := (mkF m 35 #[.val (.ref a), .val (.double u0), .second, .val (.double u1), .second] [(.double u1), (.double u0)])) (fun _ k => XS.dloadN X4.here hx rfl (hb hby d1_34) rfl k) ?_
  refine Goes.by (T' := T4) (g' := (mkF m 36 #[.val (.ref a), .val (.double u0), .second, .val (.double u1), .second] [(.int (-1 : Int32))])) (fun _ k => XS.dcmpS X4.here hx rfl (hb hby d1_35) rfl (U0.cmp_lt U1 hlt _) k) ?_
  refine Goes.by (T' := T4) (g' := (mkF m 54 #[.val (.ref a), .val (.double u0), .second, .val (.double u1), .second] [])) (fun _ k => XS.ifYes X4.here hx rfl (pc0 := 36) (pc' := 54) rfl (hb hby d1_36) rfl (by decide) (by decide) (by decide) k) ?_
  refine Goes.by (T' := T4) (g' := (mkF m 55 #[.val (.ref a), .val (.double u0), .second, .val (.double u1), .second] [(.ref a)])) (fun _ k => XS.aloadN X4.here hx rfl (hb hby d1_54) rfl rfl k) ?_
  refine Goes.by (T' := T4) (g' := (mkF m 56 #[.val (.ref a), .val (.double u0), .second, .val (.double u1), .second] [(.double u0), (.ref a)])) (fun _ k => XS.dloadN X4.here hx rfl (hb hby d1_55) rfl k) ?_
  obtain ⟨T5, h5, X5, e5, W5, st5⟩ := putF X4 hx hZ hown (host := "") (Or.inl (hw _ (List.mem_of_getElem? (i := 19) rfl))) Via.refl hk4 F_begin_a EA (Or.inr ⟨(hw _ (List.mem_of_getElem? (i := 20) rfl)), rfl, hnm⟩) (hw _ (List.mem_of_getElem? (i := 1) rfl)) (ty := .double) (by decide) rfl rfl (g := (mkF m 56 #[.val (.ref a), .val (.double u0), .second, .val (.double u1), .second] [(.double u0), (.ref a)])) rfl rfl (hb hby d1_56)
  have N0 := Fr.snoc X5 N0 ga
  have EA := EA.wr W5
  have F_begin_a := F_begin_a.same W5
  have F_end_a := F_end_a.other W5 (Or.inr (slot_ne (t := .double) (t' := .double) (Or.inr (hw _ (List.mem_of_getElem? (i := 22) rfl))) (Or.inr (hw _ (List.mem_of_getElem? (i := 20) rfl))) (by decide) (by decide) (by decide)))
  have Z0 := Nat.le_trans Z0 (Nat.le_of_eq W5.size.symm)
  have K0 := K0.wr W5 (Or.inl (List.mem_singleton.mpr rfl))
  refine Goes.by (T' := T5) (g' := (mkF m 59 #[.val (.ref a), .val (.double u0), .second, .val (.double u1), .second] [])) st5 ?_
  refine Goes.by (T' := T5) (g' := (mkF m 60 #[.val (.ref a), .val (.double u0), .second, .val (.double u1), .second] [(.ref a)])) (fun _ k => XS.aloadN X5.here hx rfl (hb hby d1_59) rfl rfl k) ?_
  refine Goes.by (T' := T5) (g' := (mkF m 61 #[.val (.ref a), .val (.double u0), .second, .val (.double u1), .second] [(.double u1), (.ref a)])) (fun _ k => XS.dloadN X5.here hx rfl (hb hby d1_60) rfl k) ?_
  obtain ⟨T6, h6, X6, e6, W6, st6⟩ := putF X5 hx hZ hown (host := "") (Or.inl (hw _ (List.mem_of_getElem? (i := 21) rfl))) Via.refl e5 F_end_a EA (Or.inr ⟨(hw _ (List.mem_of_getElem? (i := 22) rfl)), rfl, hnm⟩) (hw _ (List.mem_of_getElem? (i := 1) rfl)) (ty := .double) (by decide) rfl rfl (g := (mkF m 61 #[.val (.ref a), .val (.double u0), .second, .val (.double u1), .second] [(.double u1), (.ref a)])) rfl rfl (hb hby d1_61)
  have N0 := Fr.snoc X6 N0 ga
  have EA := EA.wr W6
  have F_begin_a := F_begin_a.other W6 (Or.inr (slot_ne (t := .double) (t' := .double) (Or.inr (hw _ (List.mem_of_getElem? (i := 20) rfl))) (Or.inr (hw _ (List.mem_of_getElem? (i := 22) rfl))) (by decide) (by decide) (by decide)))
  have F_end_a := F_end_a.same W6
  have Z0 := Nat.le_trans Z0 (Nat.le_of_eq W6.size.symm)
  have K0 := K0.wr W6 (Or.inl (List.mem_singleton.mpr rfl))
  refine Goes.by (T' := T6) (g' := (mkF m 64 #[.val (.ref a), .val (.double u0), .second, .val (.double u1), .second] [])) st6 ?_
  exact outV X6 hx hlk hret (hb hby d1_64) (by rw [e6]; exact ⟨rfl, F_begin_a, F_end_a, K0, N0⟩) (by decide) (by decide)
theorem d5_0 : decode prog_9_method_4_code 0 = .ok (.aload_n 0, 1) := by decide +kernel
theorem d5_1 : decode prog_9_method_4_code 1 = .ok (.getfield 23, 3) := by decide +kernel
theorem d5_4 : decode prog_9_method_4_code 4 = .ok (.dload_n 1, 1) := by decide +kernel
theorem d5_5 : decode prog_9_method_4_code 5 = .ok (.dcmp .g, 1) := by decide +kernel
theorem d5_6 : decode prog_9_method_4_code 6 = .ok (.ifCond .gt 16, 3) := by decide +kernel
theorem d5_9 : decode prog_9_method_4_code 9 = .ok (.dload_n 1, 1) := by decide +kernel
theorem d5_10 : decode prog_9_method_4_code 10 = .ok (.aload_n 0, 1) := by decide +kernel
theorem d5_11 : decode prog_9_method_4_code 11 = .ok (.getfield 29, 3) := by decide +kernel
theorem d5_14 : decode prog_9_method_4_code 14 = .ok (.dcmp .g, 1) := by decide +kernel
theorem d5_15 : decode prog_9_method_4_code 15 = .ok (.ifCond .ge 7, 3) := by decide +kernel
theorem d5_18 : decode prog_9_method_4_code 18 = .ok (.iconst 1, 1) := by decide +kernel
theorem d5_19 : decode prog_9_method_4_code 19 = .ok (.goto 4, 3) := by decide +kernel
theorem d5_22 : decode prog_9_method_4_code 22 = .ok (.iconst 0, 1) := by decide +kernel
theorem d5_23 : decode prog_9_method_4_code 23 = .ok (.ireturn, 1) := by decide +kernel
theorem ef_rm_con0 (m : MethodId) (x0 : Addr) (x1 : UInt64) : entryFrame m #[(.ref x0), (.double x1)] 3 = mkF m 0 #[.val (.ref x0), .val (.double x1), .second] [] := by first | (simp [entryFrame, mkF, argsToLocals, Value.category, maxLocals]; done) | rfl
set_option maxRecDepth 65536 in
set_option maxHeartbeats 40000000 in
theorem rm_con0 (l : Launch) (Z : State) (a0 : Array Value) (hw : ∀ d ∈ tables_1, d.before a0 Z = true) (a : Addr) (u0 u1 u2 : UInt64) (m0 m1 m2 : Int) (h0 : Heap) (n0 : Nat) (Z0 : n0 ≤ h0.size) (F0 : Fld Z h0 a "com/example/gaugefit/gaugefit/core/Interval" "begin" "D" (.double u0)) (F1 : Fld Z h0 a "com/example/gaugefit/gaugefit/core/Interval" "end" "D" (.double u1)) (U0 : Zv m0 u0) (U1 : Zv m1 u1) (U2 : Zv m2 u2) (h1 : m0 ≤ m2) (h2 : m2 < m1) :
    Does l (⟨"com/example/gaugefit/gaugefit/core/Interval", "contains", "(D)Z"⟩ : MethodName) prog_9_method_4_code 3 (some .boolean) [] ({ frames := 0, cells := 0, slots := 0, locals := 0 } : Room) Z #[(.ref a), (.double u2)] h0 (fun v h L => v = some (.int 1) ∧ Fr n0 L ∧ h = h0) := by
  refine Does.of (plainFor_of_name pn1) ?_
  intro p e s m below meth c s₁ hx hby hml hret hlk hZ hown hnm X0 e0
  have N0 := Fr.nil n0
  refine Goes.cast (g' := mkF m 0 #[.val (.ref a), .val (.double u2), .second] []) (ef_rm_con0 m a u2) ?_
  refine Goes.by (T' := s₁) (g' := (mkF m 1 #[.val (.ref a), .val (.double u2), .second] [(.ref a)])) (fun _ k => XS.aloadN X0.here hx rfl (hb hby d5_0) rfl rfl k) ?_
  obtain ⟨T7, X7, e7, st7⟩ := getF X0 hx hZ hown (host := "") (Or.inl (hw _ (List.mem_of_getElem? (i := 19) rfl))) Via.refl e0 F0 (g := (mkF m 1 #[.val (.ref a), .val (.double u2), .second] [(.ref a)])) rfl rfl (hb hby d5_1)
  refine Goes.by (T' := T7) (g' := (mkF m 4 #[.val (.ref a), .val (.double u2), .second] [(.double u0)])) st7 ?_
  refine Goes.by (T' := T7) (g' := (mkF m 5 #[.val (.ref a), .val (.double u2), .second] [(.double u2), (.double u0)])) (fun _ k => XS.dloadN X7.here hx rfl (hb hby d5_4) rfl k) ?_
  obtain ⟨cv, hv, hn⟩ := U0.cmp_le U2 h1 .g
  refine Goes.by (T' := T7) (g' := (mkF m 6 #[.val (.ref a), .val (.double u2), .second] [(.int cv)])) (fun _ k => XS.dcmpS X7.here hx rfl (hb hby d5_5) rfl hv k) ?_
  refine Goes.by (T' := T7) (g' := (mkF m 9 #[.val (.ref a), .val (.double u2), .second] [])) (fun _ k => XS.ifNo X7.here hx rfl (hb hby d5_6) rfl ((if0 _ _).trans (flt hn).2.2.1) k) ?_
  refine Goes.by (T' := T7) (g' := (mkF m 10 #[.val (.ref a), .val (.double u2), .second] [(.double u2)])) (fun _ k => XS.dloadN X7.here hx rfl (hb hby d5_9) rfl k) ?_
  refine Goes.by (T' := T7) (g' := (mkF m 11 #[.val (.ref a), .val (.double u2), .second] [(.ref a), (.double u2)])) (fun _ k => XS.aloadN X7.here hx rfl (hb hby d5_10) rfl rfl k) ?_
  obtain ⟨T8, X8, e8, st8⟩ := getF X7 hx hZ hown (host := "") (Or.inl (hw _ (List.mem_of_getElem? (i := 21) rfl))) Via.refl e7 F1 (g := (mkF m 11 #[.val (.ref a), .val (.double u2), .second] [(.ref a), (.double u2)])) rfl rfl (hb hby d5_11)
  refine Goes.by (T' := T8) (g' := (mkF m 14 #[.val (.ref a), .val (.double u2), .second] [(.double u1), (.double u2)])) st8 ?_
  refine Goes.by (T' := T8) (g' := (mkF m 15 #[.val (.ref a), .val (.double u2), .second] [(.int (-1 : Int32))])) (fun _ k => XS.dcmpS X8.here hx rfl (hb hby d5_14) rfl (U2.cmp_lt U1 h2 _) k) ?_
  refine Goes.by (T' := T8) (g' := (mkF m 18 #[.val (.ref a), .val (.double u2), .second] [])) (fun _ k => XS.ifNo X8.here hx rfl (hb hby d5_15) rfl (by decide) k) ?_
  refine Goes.by (T' := T8) (g' := (mkF m 19 #[.val (.ref a), .val (.double u2), .second] [(.int (1 : Int32))])) (fun _ k => XS.iconst X8.here hx rfl (hb hby d5_18)  k) ?_
  refine Goes.by (T' := T8) (g' := (mkF m 23 #[.val (.ref a), .val (.double u2), .second] [(.int (1 : Int32))])) (fun _ k => XS.goto X8.here hx rfl (pc0 := 19) (pc' := 23) rfl (hb hby d5_19) (by decide) (by decide) k) ?_
  exact outZ X8 hx hlk hret (hb hby d5_23) (by rw [e8]; exact ⟨rfl, N0, rfl⟩) (by decide) (by decide)
theorem ef_rm_con1 (m : MethodId) (x0 : Addr) (x1 : UInt64) : entryFrame m #[(.ref x0), (.double x1)] 3 = mkF m 0 #[.val (.ref x0), .val (.double x1), .second] [] := by first | (simp [entryFrame, mkF, argsToLocals, Value.category, maxLocals]; done) | rfl
set_option maxRecDepth 65536 in
set_option maxHeartbeats 40000000 in
theorem rm_con1 (l : Launch) (Z : State) (a0 : Array Value) (hw : ∀ d ∈ tables_1, d.before a0 Z = true) (a : Addr) (u0 u1 u2 : UInt64) (m0 m1 m2 : Int) (h0 : Heap) (n0 : Nat) (Z0 : n0 ≤ h0.size) (F0 : Fld Z h0 a "com/example/gaugefit/gaugefit/core/Interval" "begin" "D" (.double u0)) (F1 : Fld Z h0 a "com/example/gaugefit/gaugefit/core/Interval" "end" "D" (.double u1)) (U0 : Zv m0 u0) (U1 : Zv m1 u1) (U2 : Zv m2 u2) (h1 : m2 < m0) :
    Does l (⟨"com/example/gaugefit/gaugefit/core/Interval", "contains", "(D)Z"⟩ : MethodName) prog_9_method_4_code 3 (some .boolean) [] ({ frames := 0, cells := 0, slots := 0, locals := 0 } : Room) Z #[(.ref a), (.double u2)] h0 (fun v h L => v = some (.int 0) ∧ Fr n0 L ∧ h = h0) := by
  refine Does.of (plainFor_of_name pn1) ?_
  intro p e s m below meth c s₁ hx hby hml hret hlk hZ hown hnm X0 e0
  have N0 := Fr.nil n0
  refine Goes.cast (g' := mkF m 0 #[.val (.ref a), .val (.double u2), .second] []) (ef_rm_con1 m a u2) ?_
  refine Goes.by (T' := s₁) (g' := (mkF m 1 #[.val (.ref a), .val (.double u2), .second] [(.ref a)])) (fun _ k => XS.aloadN X0.here hx rfl (hb hby d5_0) rfl rfl k) ?_
  obtain ⟨T9, X9, e9, st9⟩ := getF X0 hx hZ hown (host := "") (Or.inl (hw _ (List.mem_of_getElem? (i := 19) rfl))) Via.refl e0 F0 (g := (mkF m 1 #[.val (.ref a), .val (.double u2), .second] [(.ref a)])) rfl rfl (hb hby d5_1)
  refine Goes.by (T' := T9) (g' := (mkF m 4 #[.val (.ref a), .val (.double u2), .second] [(.double u0)])) st9 ?_
  refine Goes.by (T' := T9) (g' := (mkF m 5 #[.val (.ref a), .val (.double u2), .second] [(.double u2), (.double u0)])) (fun _ k => XS.dloadN X9.here hx rfl (hb hby d5_4) rfl k) ?_
  refine Goes.by (T' := T9) (g' := (mkF m 6 #[.val (.ref a), .val (.double u2), .second] [(.int (1 : Int32))])) (fun _ k => XS.dcmpS X9.here hx rfl (hb hby d5_5) rfl (U0.cmp_gt U2 h1 _) k) ?_
  refine Goes.by (T' := T9) (g' := (mkF m 22 #[.val (.ref a), .val (.double u2), .second] [])) (fun _ k => XS.ifYes X9.here hx rfl (pc0 := 6) (pc' := 22) rfl (hb hby d5_6) rfl (by decide) (by decide) (by decide) k) ?_
  refine Goes.by (T' := T9) (g' := (mkF m 23 #[.val (.ref a), .val (.double u2), .second] [(.int (0 : Int32))])) (fun _ k => XS.iconst X9.here hx rfl (hb hby d5_22)  k) ?_
  exact outZ X9 hx hlk hret (hb hby d5_23) (by rw [e9]; exact ⟨rfl, N0, rfl⟩) (by decide) (by decide)
theorem ef_rm_con2 (m : MethodId) (x0 : Addr) (x1 : UInt64) : entryFrame m #[(.ref x0), (.double x1)] 3 = mkF m 0 #[.val (.ref x0), .val (.double x1), .second] [] := by first | (simp [entryFrame, mkF, argsToLocals, Value.category, maxLocals]; done) | rfl
set_option maxRecDepth 65536 in
set_option maxHeartbeats 40000000 in
theorem rm_con2 (l : Launch) (Z : State) (a0 : Array Value) (hw : ∀ d ∈ tables_1, d.before a0 Z = true) (a : Addr) (u0 u1 u2 : UInt64) (m0 m1 m2 : Int) (h0 : Heap) (n0 : Nat) (Z0 : n0 ≤ h0.size) (F0 : Fld Z h0 a "com/example/gaugefit/gaugefit/core/Interval" "begin" "D" (.double u0)) (F1 : Fld Z h0 a "com/example/gaugefit/gaugefit/core/Interval" "end" "D" (.double u1)) (U0 : Zv m0 u0) (U1 : Zv m1 u1) (U2 : Zv m2 u2) (h1 : m0 ≤ m2) (h2 : m1 ≤ m2) :
    Does l (⟨"com/example/gaugefit/gaugefit/core/Interval", "contains", "(D)Z"⟩ : MethodName) prog_9_method_4_code 3 (some .boolean) [] ({ frames := 0, cells := 0, slots := 0, locals := 0 } : Room) Z #[(.ref a), (.double u2)] h0 (fun v h L => v = some (.int 0) ∧ Fr n0 L ∧ h = h0) := by
  refine Does.of (plainFor_of_name pn1) ?_
  intro p e s m below meth c s₁ hx hby hml hret hlk hZ hown hnm X0 e0
  have N0 := Fr.nil n0
  refine Goes.cast (g' := mkF m 0 #[.val (.ref a), .val (.double u2), .second] []) (ef_rm_con2 m a u2) ?_
  refine Goes.by (T' := s₁) (g' := (mkF m 1 #[.val (.ref a), .val (.double u2), .second] [(.ref a)])) (fun _ k => XS.aloadN X0.here hx rfl (hb hby d5_0) rfl rfl k) ?_
  obtain ⟨T10, X10, e10, st10⟩ := getF X0 hx hZ hown (host := "") (Or.inl (hw _ (List.mem_of_getElem? (i := 19) rfl))) Via.refl e0 F0 (g := (mkF m 1 #[.val (.ref a), .val (.double u2), .second] [(.ref a)])) rfl rfl (hb hby d5_1)
  refine Goes.by (T' := T10) (g' := (mkF m 4 #[.val (.ref a), .val (.double u2), .second] [(.double u0)])) st10 ?_
  refine Goes.by (T' := T10) (g' := (mkF m 5 #[.val (.ref a), .val (.double u2), .second] [(.double u2), (.double u0)])) (fun _ k => XS.dloadN X10.here hx rfl (hb hby d5_4) rfl k) ?_
  obtain ⟨cv, hv, hn⟩ := U0.cmp_le U2 h1 .g
  refine Goes.by (T' := T10) (g' := (mkF m 6 #[.val (.ref a), .val (.double u2), .second] [(.int cv)])) (fun _ k => XS.dcmpS X10.here hx rfl (hb hby d5_5) rfl hv k) ?_
  refine Goes.by (T' := T10) (g' := (mkF m 9 #[.val (.ref a), .val (.double u2), .second] [])) (fun _ k => XS.ifNo X10.here hx rfl (hb hby d5_6) rfl ((if0 _ _).trans (flt hn).2.2.1) k) ?_
  refine Goes.by (T' := T10) (g' := (mkF m 10 #[.val (.ref a), .val (.double u2), .second] [(.double u2)])) (fun _ k => XS.dloadN X10.here hx rfl (hb hby d5_9) rfl k) ?_
  refine Goes.by (T' := T10) (g' := (mkF m 11 #[.val (.ref a), .val (.double u2), .second] [(.ref a), (.double u2)])) (fun _ k => XS.aloadN X10.here hx rfl (hb hby d5_10) rfl rfl k) ?_
  obtain ⟨T11, X11, e11, st11⟩ := getF X10 hx hZ hown (host := "") (Or.inl (hw _ (List.mem_of_getElem? (i := 21) rfl))) Via.refl e10 F1 (g := (mkF m 11 #[.val (.ref a), .val (.double u2), .second] [(.ref a), (.double u2)])) rfl rfl (hb hby d5_11)
  refine Goes.by (T' := T11) (g' := (mkF m 14 #[.val (.ref a), .val (.double u2), .second] [(.double u1), (.double u2)])) st11 ?_
  obtain ⟨cw, hw1, hn1⟩ := U2.cmp_ge U1 h2 .g
  refine Goes.by (T' := T11) (g' := (mkF m 15 #[.val (.ref a), .val (.double u2), .second] [(.int cw)])) (fun _ k => XS.dcmpS X11.here hx rfl (hb hby d5_14) rfl hw1 k) ?_
  refine Goes.by (T' := T11) (g' := (mkF m 22 #[.val (.ref a), .val (.double u2), .second] [])) (fun _ k => XS.ifYes X11.here hx rfl (pc0 := 15) (pc' := 22) rfl (hb hby d5_15) rfl ((if0 _ _).trans (flt hn1).2.1) (by decide) (by decide) k) ?_
  refine Goes.by (T' := T11) (g' := (mkF m 23 #[.val (.ref a), .val (.double u2), .second] [(.int (0 : Int32))])) (fun _ k => XS.iconst X11.here hx rfl (hb hby d5_22)  k) ?_
  exact outZ X11 hx hlk hret (hb hby d5_23) (by rw [e11]; exact ⟨rfl, N0, rfl⟩) (by decide) (by decide)
theorem pn2 : plainName "com/example/gaugefit/gaugefit/core/IntervalContainsPinLaw" = true := by first | (simp [plainName, overriddenIn]; done) | decide +kernel
theorem ef_rm_law (m : MethodId) (x0 : Int32) (x1 : Int32) (x2 : Int32) (x3 : Int32) : entryFrame m #[(.int x0), (.int x1), (.int x2), (.int x3)] maxLocals = mkF m 0 #[.val (.int x0), .val (.int x1), .val (.int x2), .val (.int x3), .unset, .unset, .unset, .unset, .unset, .unset, .unset, .unset] [] := by first | (simp [entryFrame, mkF, argsToLocals, Value.category, maxLocals]; done) | rfl
set_option maxRecDepth 65536 in
set_option maxHeartbeats 40000000 in
theorem rm_law (l : Launch) (Z : State) (a0 : Array Value) (hw : ∀ d ∈ tables_1, d.before a0 Z = true) (x0 x1 x2 x3 : Int32) (h0 : Heap) (n0 : Nat) (Z0 : n0 ≤ h0.size)  :
    Does l x code maxLocals ret tables_1 room_1 Z #[(.int x0), (.int x1), (.int x2), (.int x3)] h0 (fun v h L => v = some (.int 1) ∧ Fr n0 L) := by
  refine Does.of (plainFor_of_name pn2) ?_
  intro p e s m below meth c s₁ hx hby hml hret hlk hZ hown hnm X0 e0
  have N0 := Fr.nil n0
  refine Goes.cast (g' := mkF m 0 #[.val (.int x0), .val (.int x1), .val (.int x2), .val (.int x3), .unset, .unset, .unset, .unset, .unset, .unset, .unset, .unset] []) (ef_rm_law m x0 x1 x2 x3) ?_
  refine Goes.by (T' := s₁) (g' := (mkF m 1 #[.val (.int x0), .val (.int x1), .val (.int x2), .val (.int x3), .unset, .unset, .unset, .unset, .unset, .unset, .unset, .unset] [(.int x0)])) (fun _ k => XS.iloadN X0.here hx rfl (hb hby at_0) rfl k) ?_
  refine Goes.by (T' := s₁) (g' := (mkF m 2 #[.val (.int x0), .val (.int x1), .val (.int x2), .val (.int x3), .unset, .unset, .unset, .unset, .unset, .unset, .unset, .unset] [(.long ((x0).toInt64))])) (fun _ k => XS.i2l X0.here hx rfl (hb hby at_1) rfl k) ?_
  obtain ⟨bh, q_bh⟩ : ∃ zz : Int64, zz = ((x0).toInt64) := ⟨_, rfl⟩
  rw [← q_bh]
  refine Goes.by (T' := s₁) (g' := (mkF m 4 #[.val (.int x0), .val (.int x1), .val (.int x2), .val (.int x3), .val (.long bh), .second, .unset, .unset, .unset, .unset, .unset, .unset] [])) (fun _ k => XS.lstore X0.here hx rfl (hb hby at_2) rfl (l' := #[.val (.int x0), .val (.int x1), .val (.int x2), .val (.int x3), .val (.long bh), .second, .unset, .unset, .unset, .unset, .unset, .unset]) rfl k) ?_
  refine Goes.by (T' := s₁) (g' := (mkF m 6 #[.val (.int x0), .val (.int x1), .val (.int x2), .val (.int x3), .val (.long bh), .second, .unset, .unset, .unset, .unset, .unset, .unset] [(.long bh)])) (fun _ k => XS.lload X0.here hx rfl (hb hby at_4) rfl k) ?_
  refine Goes.by (T' := s₁) (g' := (mkF m 7 #[.val (.int x0), .val (.int x1), .val (.int x2), .val (.int x3), .val (.long bh), .second, .unset, .unset, .unset, .unset, .unset, .unset] [(.int x1), (.long bh)])) (fun _ k => XS.iloadN X0.here hx rfl (hb hby at_6) rfl k) ?_
  refine Goes.by (T' := s₁) (g' := (mkF m 10 #[.val (.int x0), .val (.int x1), .val (.int x2), .val (.int x3), .val (.long bh), .second, .unset, .unset, .unset, .unset, .unset, .unset] [(.int (1023 : Int32)), (.int x1), (.long bh)])) (fun _ k => XS.sipush X0.here hx rfl (hb hby at_7)  k) ?_
  refine Goes.by (T' := s₁) (g' := (mkF m 11 #[.val (.int x0), .val (.int x1), .val (.int x2), .val (.int x3), .val (.long bh), .second, .unset, .unset, .unset, .unset, .unset, .unset] [(.int (x1 &&& (1023 : Int32))), (.long bh)])) (fun _ k => XS.iand X0.here hx rfl (hb hby at_10) rfl k) ?_
  refine Goes.by (T' := s₁) (g' := (mkF m 12 #[.val (.int x0), .val (.int x1), .val (.int x2), .val (.int x3), .val (.long bh), .second, .unset, .unset, .unset, .unset, .unset, .unset] [(.long (((x1 &&& (1023 : Int32))).toInt64)), (.long bh)])) (fun _ k => XS.i2l X0.here hx rfl (hb hby at_11) rfl k) ?_
  refine Goes.by (T' := s₁) (g' := (mkF m 13 #[.val (.int x0), .val (.int x1), .val (.int x2), .val (.int x3), .val (.long bh), .second, .unset, .unset, .unset, .unset, .unset, .unset] [(.long (bh + (((x1 &&& (1023 : Int32))).toInt64)))])) (fun _ k => XS.ladd X0.here hx rfl (hb hby at_12) rfl k) ?_
  refine Goes.by (T' := s₁) (g' := (mkF m 14 #[.val (.int x0), .val (.int x1), .val (.int x2), .val (.int x3), .val (.long bh), .second, .unset, .unset, .unset, .unset, .unset, .unset] [(.long (1 : Int64)), (.long (bh + (((x1 &&& (1023 : Int32))).toInt64)))])) (fun _ k => XS.lconst X0.here hx rfl (hb hby at_13)  k) ?_
  refine Goes.by (T' := s₁) (g' := (mkF m 15 #[.val (.int x0), .val (.int x1), .val (.int x2), .val (.int x3), .val (.long bh), .second, .unset, .unset, .unset, .unset, .unset, .unset] [(.long ((bh + (((x1 &&& (1023 : Int32))).toInt64)) + (1 : Int64)))])) (fun _ k => XS.ladd X0.here hx rfl (hb hby at_14) rfl k) ?_
  obtain ⟨eh, q_eh⟩ : ∃ zz : Int64, zz = ((bh + (((x1 &&& (1023 : Int32))).toInt64)) + (1 : Int64)) := ⟨_, rfl⟩
  rw [← q_eh]
  have rx0 := rng32 x0
  have ebh : bh.toInt = x0.toInt := by rw [q_bh, c_i2l]
  have eeh : bh.toInt + 1 ≤ eh.toInt ∧ eh.toInt ≤ bh.toInt + 1024 := by
    have t := c_and x1 (1023 : Int32) (by decide)
    have t2 : (1023 : Int32).toInt = 1023 := by decide
    have t3 : ((x1 &&& (1023 : Int32)).toInt64).toInt = (x1 &&& (1023 : Int32)).toInt := c_i2l _
    have t4 : (1 : Int64).toInt = 1 := by decide
    have t5 : (bh + (x1 &&& (1023 : Int32)).toInt64).toInt = bh.toInt + (x1 &&& (1023 : Int32)).toInt := by rw [own_ladd (by rw [t3]; omega) (by rw [t3]; omega), t3]
    rw [q_eh, own_ladd (by rw [t5, t4]; omega) (by rw [t5, t4]; omega), t5, t4]
    omega
  refine Goes.by (T' := s₁) (g' := (mkF m 17 #[.val (.int x0), .val (.int x1), .val (.int x2), .val (.int x3), .val (.long bh), .second, .val (.long eh), .second, .unset, .unset, .unset, .unset] [])) (fun _ k => XS.lstore X0.here hx rfl (hb hby at_15) rfl (l' := #[.val (.int x0), .val (.int x1), .val (.int x2), .val (.int x3), .val (.long bh), .second, .val (.long eh), .second, .unset, .unset, .unset, .unset]) rfl k) ?_
  refine Goes.by (T' := s₁) (g' := (mkF m 18 #[.val (.int x0), .val (.int x1), .val (.int x2), .val (.int x3), .val (.long bh), .second, .val (.long eh), .second, .unset, .unset, .unset, .unset] [(.int x3)])) (fun _ k => XS.iloadN X0.here hx rfl (hb hby at_17) rfl k) ?_
  refine Goes.by (T' := s₁) (g' := (mkF m 19 #[.val (.int x0), .val (.int x1), .val (.int x2), .val (.int x3), .val (.long bh), .second, .val (.long eh), .second, .unset, .unset, .unset, .unset] [(.int (1 : Int32)), (.int x3)])) (fun _ k => XS.iconst X0.here hx rfl (hb hby at_18)  k) ?_
  refine Goes.by (T' := s₁) (g' := (mkF m 20 #[.val (.int x0), .val (.int x1), .val (.int x2), .val (.int x3), .val (.long bh), .second, .val (.long eh), .second, .unset, .unset, .unset, .unset] [(.int (x3 &&& (1 : Int32)))])) (fun _ k => XS.iand X0.here hx rfl (hb hby at_19) rfl k) ?_
  have rest : ∀ (th : Int64), th.toInt.natAbs ≤ 8589934592 → Goes p e below (Fin1 below s room_1 (fun v h L => v = some (.int 1) ∧ Fr n0 L)) s₁ (mkF m 45 #[.val (.int x0), .val (.int x1), .val (.int x2), .val (.int x3), .val (.long bh), .second, .val (.long eh), .second, .val (.long th), .second, .unset, .unset] []) := by
    intro th bth
    obtain ⟨T12, h12, X12, e12, E12, A12, D12, -, st12⟩ := newO X0 hx hZ hown (hw _ (List.mem_of_getElem? (i := 0) rfl)) (hw _ (List.mem_of_getElem? (i := 1) rfl)) (hw _ (List.mem_of_getElem? (i := 2) rfl)) e0 (g := (mkF m 45 #[.val (.int x0), .val (.int x1), .val (.int x2), .val (.int x3), .val (.long bh), .second, .val (.long eh), .second, .val (.long th), .second, .unset, .unset] [])) rfl (hb hby at_45) (by decide) (by decide)
    obtain ⟨a, g12⟩ : ∃ z, z = h0.size := ⟨_, rfl⟩
    rw [← g12] at A12 D12 st12
    have ge_a : n0 ≤ a := Nat.le_trans Z0 (Nat.le_of_eq g12.symm)
    have Z0 := Nat.le_trans Z0 E12.1
    have E_a := A12
    have F_begin_a : Fld Z h12 a "com/example/gaugefit/gaugefit/core/Interval" "begin" "D" (.double (0 : UInt64)) := D12 (Or.inr (hw _ (List.mem_of_getElem? (i := 20) rfl))) (ty := .double) (by decide)
    have F_end_a : Fld Z h12 a "com/example/gaugefit/gaugefit/core/Interval" "end" "D" (.double (0 : UInt64)) := D12 (Or.inr (hw _ (List.mem_of_getElem? (i := 22) rfl))) (ty := .double) (by decide)
    refine Goes.by (T' := T12) (g' := (mkF m 48 #[.val (.int x0), .val (.int x1), .val (.int x2), .val (.int x3), .val (.long bh), .second, .val (.long eh), .second, .val (.long th), .second, .unset, .unset] [(.ref a)])) st12 ?_
    refine Goes.by (T' := T12) (g' := (mkF m 49 #[.val (.int x0), .val (.int x1), .val (.int x2), .val (.int x3), .val (.long bh), .second, .val (.long eh), .second, .val (.long th), .second, .unset, .unset] [(.ref a), (.ref a)])) (fun _ k => XS.dup X12.here hx rfl (hb hby at_48) rfl rfl k) ?_
    refine Goes.by (T' := T12) (g' := (mkF m 51 #[.val (.int x0), .val (.int x1), .val (.int x2), .val (.int x3), .val (.long bh), .second, .val (.long eh), .second, .val (.long th), .second, .unset, .unset] [(.long bh), (.ref a), (.ref a)])) (fun _ k => XS.lload X12.here hx rfl (hb hby at_49) rfl k) ?_
    obtain ⟨d0, q_d0⟩ : ∃ zz, FP.l2d bh = zz := ⟨_, rfl⟩
    refine Goes.by (T' := T12) (g' := (mkF m 52 #[.val (.int x0), .val (.int x1), .val (.int x2), .val (.int x3), .val (.long bh), .second, .val (.long eh), .second, .val (.long th), .second, .unset, .unset] [(.double d0), (.ref a), (.ref a)])) (fun _ k => XS.l2dS X12.here hx rfl (hb hby at_51) rfl q_d0 k) ?_
    have D0 : Core.DInt bh.toInt d0 := DInt_l2d q_d0 (by omega)
    refine Goes.by (T' := T12) (g' := (mkF m 55 #[.val (.int x0), .val (.int x1), .val (.int x2), .val (.int x3), .val (.long bh), .second, .val (.long eh), .second, .val (.long th), .second, .unset, .unset] [(.double (4602678819172646912 : UInt64)), (.double d0), (.ref a), (.ref a)])) (X12.ldc2DoubleC hx hown (mvT hZ (hw _ (List.mem_of_getElem? (i := 3) rfl))) (g := (mkF m 52 #[.val (.int x0), .val (.int x1), .val (.int x2), .val (.int x3), .val (.long bh), .second, .val (.long eh), .second, .val (.long th), .second, .unset, .unset] [(.double d0), (.ref a), (.ref a)])) rfl (hb hby at_52)) ?_
    obtain ⟨u0, q_u0⟩ : ∃ zz, FP.dmul d0 (4602678819172646912 : UInt64) = zz := ⟨_, rfl⟩
    have U0 := own_halfmul D0 q_u0 (by omega)
    refine Goes.by (T' := T12) (g' := (mkF m 56 #[.val (.int x0), .val (.int x1), .val (.int x2), .val (.int x3), .val (.long bh), .second, .val (.long eh), .second, .val (.long th), .second, .unset, .unset] [(.double u0), (.ref a), (.ref a)])) (fun _ k => XS.dmulS X12.here hx rfl (hb hby at_55) rfl (by rw [q_u0]; exact U0.nn) q_u0 k) ?_
    refine Goes.by (T' := T12) (g' := (mkF m 58 #[.val (.int x0), .val (.int x1), .val (.int x2), .val (.int x3), .val (.long bh), .second, .val (.long eh), .second, .val (.long th), .second, .unset, .unset] [(.long eh), (.double u0), (.ref a), (.ref a)])) (fun _ k => XS.lload X12.here hx rfl (hb hby at_56) rfl k) ?_
    obtain ⟨d1, q_d1⟩ : ∃ zz, FP.l2d eh = zz := ⟨_, rfl⟩
    refine Goes.by (T' := T12) (g' := (mkF m 59 #[.val (.int x0), .val (.int x1), .val (.int x2), .val (.int x3), .val (.long bh), .second, .val (.long eh), .second, .val (.long th), .second, .unset, .unset] [(.double d1), (.double u0), (.ref a), (.ref a)])) (fun _ k => XS.l2dS X12.here hx rfl (hb hby at_58) rfl q_d1 k) ?_
    have D1 : Core.DInt eh.toInt d1 := DInt_l2d q_d1 (by omega)
    refine Goes.by (T' := T12) (g' := (mkF m 62 #[.val (.int x0), .val (.int x1), .val (.int x2), .val (.int x3), .val (.long bh), .second, .val (.long eh), .second, .val (.long th), .second, .unset, .unset] [(.double (4602678819172646912 : UInt64)), (.double d1), (.double u0), (.ref a), (.ref a)])) (X12.ldc2DoubleC hx hown (mvT hZ (hw _ (List.mem_of_getElem? (i := 3) rfl))) (g := (mkF m 59 #[.val (.int x0), .val (.int x1), .val (.int x2), .val (.int x3), .val (.long bh), .second, .val (.long eh), .second, .val (.long th), .second, .unset, .unset] [(.double d1), (.double u0), (.ref a), (.ref a)])) rfl (hb hby at_59)) ?_
    obtain ⟨u1, q_u1⟩ : ∃ zz, FP.dmul d1 (4602678819172646912 : UInt64) = zz := ⟨_, rfl⟩
    have U1 := own_halfmul D1 q_u1 (by omega)
    refine Goes.by (T' := T12) (g' := (mkF m 63 #[.val (.int x0), .val (.int x1), .val (.int x2), .val (.int x3), .val (.long bh), .second, .val (.long eh), .second, .val (.long th), .second, .unset, .unset] [(.double u1), (.double u0), (.ref a), (.ref a)])) (fun _ k => XS.dmulS X12.here hx rfl (hb hby at_62) rfl (by rw [q_u1]; exact U1.nn) q_u1 k) ?_
    obtain ⟨v13, T13, L13, X13, hQ13, st13⟩ := callI X12 hx hZ (y := (⟨"com/example/gaugefit/gaugefit/core/Interval", "<init>", "(DD)V"⟩ : MethodName)) rfl hown (hw _ (List.mem_of_getElem? (i := 4) rfl)) (hw _ (List.mem_of_getElem? (i := 5) rfl)) (hw _ (List.mem_of_getElem? (i := 6) rfl)) (hw _ (List.mem_of_getElem? (i := 2) rfl)) (by decide) e12 (a := a) (argsL := [(.double u0), (.double u1)]) (rest := [(.ref a)]) (W := 1) (rm_init l Z a0 hw a u0 u1 _ _ h12 n0 Z0 E_a F_begin_a F_end_a ge_a U0 U1 (own_hlt (by omega))) rfl (by decide) (by decide) (by decide) (by decide) (g := (mkF m 63 #[.val (.int x0), .val (.int x1), .val (.int x2), .val (.int x3), .val (.long bh), .second, .val (.long eh), .second, .val (.long th), .second, .unset, .unset] [(.double u1), (.double u0), (.ref a), (.ref a)])) rfl (by rw [hml]; rfl) (lenOf pd2 rfl) rfl (by show 2 * 0 + _ ≤ _; exact Nat.le_of_eq rfl) (hb hby at_63)
    obtain ⟨rfl, F_begin_a, F_end_a, K13, NL13⟩ := hQ13
    have N0 := Fr.app N0 NL13
    have e13 : T13.heap = T13.heap := rfl
    have E_a := E_a.keep K13
    have Z0 := Nat.le_trans Z0 K13.1
    refine Goes.by (T' := T13) (g' := (mkF m 66 #[.val (.int x0), .val (.int x1), .val (.int x2), .val (.int x3), .val (.long bh), .second, .val (.long eh), .second, .val (.long th), .second, .unset, .unset] [(.ref a)])) st13 ?_
    refine Goes.by (T' := T13) (g' := (mkF m 68 #[.val (.int x0), .val (.int x1), .val (.int x2), .val (.int x3), .val (.long bh), .second, .val (.long eh), .second, .val (.long th), .second, .val (.ref a), .unset] [])) (fun _ k => XS.astore X13.here hx rfl (hb hby at_66) rfl rfl (l' := #[.val (.int x0), .val (.int x1), .val (.int x2), .val (.int x3), .val (.long bh), .second, .val (.long eh), .second, .val (.long th), .second, .val (.ref a), .unset]) rfl k) ?_
    refine Goes.by (T' := T13) (g' := (mkF m 70 #[.val (.int x0), .val (.int x1), .val (.int x2), .val (.int x3), .val (.long bh), .second, .val (.long eh), .second, .val (.long th), .second, .val (.ref a), .unset] [(.long bh)])) (fun _ k => XS.lload X13.here hx rfl (hb hby at_68) rfl k) ?_
    refine Goes.by (T' := T13) (g' := (mkF m 72 #[.val (.int x0), .val (.int x1), .val (.int x2), .val (.int x3), .val (.long bh), .second, .val (.long eh), .second, .val (.long th), .second, .val (.ref a), .unset] [(.long th), (.long bh)])) (fun _ k => XS.lload X13.here hx rfl (hb hby at_70) rfl k) ?_
    by_cases hc1 : th.toInt < bh.toInt
    · refine Goes.by (T' := T13) (g' := (mkF m 73 #[.val (.int x0), .val (.int x1), .val (.int x2), .val (.int x3), .val (.long bh), .second, .val (.long eh), .second, .val (.long th), .second, .val (.ref a), .unset] [(.int (1 : Int32))])) (fun _ k => XS.lcmpS X13.here hx rfl (hb hby at_72) rfl (cmpL_gtI hc1) k) ?_
      refine Goes.by (T' := T13) (g' := (mkF m 88 #[.val (.int x0), .val (.int x1), .val (.int x2), .val (.int x3), .val (.long bh), .second, .val (.long eh), .second, .val (.long th), .second, .val (.ref a), .unset] [])) (fun _ k => XS.ifYes X13.here hx rfl (pc0 := 73) (pc' := 88) rfl (hb hby at_73) rfl (by decide) (by decide) (by decide) k) ?_
      refine Goes.by (T' := T13) (g' := (mkF m 89 #[.val (.int x0), .val (.int x1), .val (.int x2), .val (.int x3), .val (.long bh), .second, .val (.long eh), .second, .val (.long th), .second, .val (.ref a), .unset] [(.int (0 : Int32))])) (fun _ k => XS.iconst X13.here hx rfl (hb hby at_88)  k) ?_
      refine Goes.by (T' := T13) (g' := (mkF m 91 #[.val (.int x0), .val (.int x1), .val (.int x2), .val (.int x3), .val (.long bh), .second, .val (.long eh), .second, .val (.long th), .second, .val (.ref a), .val (.int (0 : Int32))] [])) (fun _ k => XS.istore X13.here hx rfl (hb hby at_89) rfl (l' := #[.val (.int x0), .val (.int x1), .val (.int x2), .val (.int x3), .val (.long bh), .second, .val (.long eh), .second, .val (.long th), .second, .val (.ref a), .val (.int (0 : Int32))]) rfl k) ?_
      refine Goes.by (T' := T13) (g' := (mkF m 93 #[.val (.int x0), .val (.int x1), .val (.int x2), .val (.int x3), .val (.long bh), .second, .val (.long eh), .second, .val (.long th), .second, .val (.ref a), .val (.int (0 : Int32))] [(.ref a)])) (fun _ k => XS.aload X13.here hx rfl (hb hby at_91) rfl rfl k) ?_
      refine Goes.by (T' := T13) (g' := (mkF m 95 #[.val (.int x0), .val (.int x1), .val (.int x2), .val (.int x3), .val (.long bh), .second, .val (.long eh), .second, .val (.long th), .second, .val (.ref a), .val (.int (0 : Int32))] [(.long th), (.ref a)])) (fun _ k => XS.lload X13.here hx rfl (hb hby at_93) rfl k) ?_
      obtain ⟨d2, q_d2⟩ : ∃ zz, FP.l2d th = zz := ⟨_, rfl⟩
      refine Goes.by (T' := T13) (g' := (mkF m 96 #[.val (.int x0), .val (.int x1), .val (.int x2), .val (.int x3), .val (.long bh), .second, .val (.long eh), .second, .val (.long th), .second, .val (.ref a), .val (.int (0 : Int32))] [(.double d2), (.ref a)])) (fun _ k => XS.l2dS X13.here hx rfl (hb hby at_95) rfl q_d2 k) ?_
      have D2 : Core.DInt th.toInt d2 := DInt_l2d q_d2 (by omega)
      refine Goes.by (T' := T13) (g' := (mkF m 99 #[.val (.int x0), .val (.int x1), .val (.int x2), .val (.int x3), .val (.long bh), .second, .val (.long eh), .second, .val (.long th), .second, .val (.ref a), .val (.int (0 : Int32))] [(.double (4602678819172646912 : UInt64)), (.double d2), (.ref a)])) (X13.ldc2DoubleC hx hown (mvT hZ (hw _ (List.mem_of_getElem? (i := 3) rfl))) (g := (mkF m 96 #[.val (.int x0), .val (.int x1), .val (.int x2), .val (.int x3), .val (.long bh), .second, .val (.long eh), .second, .val (.long th), .second, .val (.ref a), .val (.int (0 : Int32))] [(.double d2), (.ref a)])) rfl (hb hby at_96)) ?_
      obtain ⟨u2, q_u2⟩ : ∃ zz, FP.dmul d2 (4602678819172646912 : UInt64) = zz := ⟨_, rfl⟩
      have U2 := own_halfmul D2 q_u2 (by omega)
      refine Goes.by (T' := T13) (g' := (mkF m 100 #[.val (.int x0), .val (.int x1), .val (.int x2), .val (.int x3), .val (.long bh), .second, .val (.long eh), .second, .val (.long th), .second, .val (.ref a), .val (.int (0 : Int32))] [(.double u2), (.ref a)])) (fun _ k => XS.dmulS X13.here hx rfl (hb hby at_99) rfl (by rw [q_u2]; exact U2.nn) q_u2 k) ?_
      obtain ⟨v14, T14, L14, X14, hQ14, st14⟩ := callV X13 hx hZ (y := (⟨"com/example/gaugefit/gaugefit/core/Interval", "contains", "(D)Z"⟩ : MethodName)) hown (hw _ (List.mem_of_getElem? (i := 23) rfl)) (hw _ (List.mem_of_getElem? (i := 24) rfl)) (hw _ (List.mem_of_getElem? (i := 26) rfl)) (hw _ (List.mem_of_getElem? (i := 25) rfl)) (hw _ (List.mem_of_getElem? (i := 27) rfl)) (hw _ (List.mem_of_getElem? (i := 2) rfl)) (by decide) e13 E_a (argsL := [(.double u2)]) (rest := []) (W := 0) (rm_con1 l Z a0 hw a u0 u1 u2 _ _ _ T13.heap n0 Z0 F_begin_a F_end_a U0 U1 U2 (own_hlt (by omega))) rfl (by decide) (by decide) (by decide) (by decide) (g := (mkF m 100 #[.val (.int x0), .val (.int x1), .val (.int x2), .val (.int x3), .val (.long bh), .second, .val (.long eh), .second, .val (.long th), .second, .val (.ref a), .val (.int (0 : Int32))] [(.double u2), (.ref a)])) rfl (by rw [hml]; rfl) (lenOf pd1 rfl) rfl (by show 2 * 0 + _ ≤ _; exact Nat.le_of_eq rfl) (hb hby at_100)
      obtain ⟨rfl, NL14, hk14⟩ := hQ14
      have N0 := Fr.app N0 NL14
      refine Goes.by (T' := T14) (g' := (mkF m 103 #[.val (.int x0), .val (.int x1), .val (.int x2), .val (.int x3), .val (.long bh), .second, .val (.long eh), .second, .val (.long th), .second, .val (.ref a), .val (.int (0 : Int32))] [(.int (0 : Int32))])) st14 ?_
      refine Goes.by (T' := T14) (g' := (mkF m 105 #[.val (.int x0), .val (.int x1), .val (.int x2), .val (.int x3), .val (.long bh), .second, .val (.long eh), .second, .val (.long th), .second, .val (.ref a), .val (.int (0 : Int32))] [(.int (0 : Int32)), (.int (0 : Int32))])) (fun _ k => XS.iload X14.here hx rfl (hb hby at_103) rfl k) ?_
      refine Goes.by (T' := T14) (g' := (mkF m 108 #[.val (.int x0), .val (.int x1), .val (.int x2), .val (.int x3), .val (.long bh), .second, .val (.long eh), .second, .val (.long th), .second, .val (.ref a), .val (.int (0 : Int32))] [])) (fun _ k => XS.icmpNo X14.here hx rfl (hb hby at_105) rfl (by decide) k) ?_
      refine Goes.by (T' := T14) (g' := (mkF m 109 #[.val (.int x0), .val (.int x1), .val (.int x2), .val (.int x3), .val (.long bh), .second, .val (.long eh), .second, .val (.long th), .second, .val (.ref a), .val (.int (0 : Int32))] [(.int (1 : Int32))])) (fun _ k => XS.iconst X14.here hx rfl (hb hby at_108)  k) ?_
      refine Goes.by (T' := T14) (g' := (mkF m 113 #[.val (.int x0), .val (.int x1), .val (.int x2), .val (.int x3), .val (.long bh), .second, .val (.long eh), .second, .val (.long th), .second, .val (.ref a), .val (.int (0 : Int32))] [(.int (1 : Int32))])) (fun _ k => XS.goto X14.here hx rfl (pc0 := 109) (pc' := 113) rfl (hb hby at_109) (by decide) (by decide) k) ?_
      exact outZ X14 hx hlk hret (hb hby at_113) (by exact ⟨rfl, N0⟩) (by decide) (by decide)
    · obtain ⟨cv, hv, hn⟩ := cmpL_le (x := bh) (y := th) hc1
      refine Goes.by (T' := T13) (g' := (mkF m 73 #[.val (.int x0), .val (.int x1), .val (.int x2), .val (.int x3), .val (.long bh), .second, .val (.long eh), .second, .val (.long th), .second, .val (.ref a), .unset] [(.int cv)])) (fun _ k => XS.lcmpS X13.here hx rfl (hb hby at_72) rfl hv k) ?_
      refine Goes.by (T' := T13) (g' := (mkF m 76 #[.val (.int x0), .val (.int x1), .val (.int x2), .val (.int x3), .val (.long bh), .second, .val (.long eh), .second, .val (.long th), .second, .val (.ref a), .unset] [])) (fun _ k => XS.ifNo X13.here hx rfl (hb hby at_73) rfl ((if0 _ _).trans (flt hn).2.2.1) k) ?_
      refine Goes.by (T' := T13) (g' := (mkF m 78 #[.val (.int x0), .val (.int x1), .val (.int x2), .val (.int x3), .val (.long bh), .second, .val (.long eh), .second, .val (.long th), .second, .val (.ref a), .unset] [(.long th)])) (fun _ k => XS.lload X13.here hx rfl (hb hby at_76) rfl k) ?_
      refine Goes.by (T' := T13) (g' := (mkF m 80 #[.val (.int x0), .val (.int x1), .val (.int x2), .val (.int x3), .val (.long bh), .second, .val (.long eh), .second, .val (.long th), .second, .val (.ref a), .unset] [(.long eh), (.long th)])) (fun _ k => XS.lload X13.here hx rfl (hb hby at_78) rfl k) ?_
      by_cases hc2 : th.toInt < eh.toInt
      · refine Goes.by (T' := T13) (g' := (mkF m 81 #[.val (.int x0), .val (.int x1), .val (.int x2), .val (.int x3), .val (.long bh), .second, .val (.long eh), .second, .val (.long th), .second, .val (.ref a), .unset] [(.int (-1 : Int32))])) (fun _ k => XS.lcmpS X13.here hx rfl (hb hby at_80) rfl (cmpL_lt (Int64.lt_iff_toInt_lt.mpr hc2)) k) ?_
        refine Goes.by (T' := T13) (g' := (mkF m 84 #[.val (.int x0), .val (.int x1), .val (.int x2), .val (.int x3), .val (.long bh), .second, .val (.long eh), .second, .val (.long th), .second, .val (.ref a), .unset] [])) (fun _ k => XS.ifNo X13.here hx rfl (hb hby at_81) rfl (by decide) k) ?_
        refine Goes.by (T' := T13) (g' := (mkF m 85 #[.val (.int x0), .val (.int x1), .val (.int x2), .val (.int x3), .val (.long bh), .second, .val (.long eh), .second, .val (.long th), .second, .val (.ref a), .unset] [(.int (1 : Int32))])) (fun _ k => XS.iconst X13.here hx rfl (hb hby at_84)  k) ?_
        refine Goes.by (T' := T13) (g' := (mkF m 89 #[.val (.int x0), .val (.int x1), .val (.int x2), .val (.int x3), .val (.long bh), .second, .val (.long eh), .second, .val (.long th), .second, .val (.ref a), .unset] [(.int (1 : Int32))])) (fun _ k => XS.goto X13.here hx rfl (pc0 := 85) (pc' := 89) rfl (hb hby at_85) (by decide) (by decide) k) ?_
        refine Goes.by (T' := T13) (g' := (mkF m 91 #[.val (.int x0), .val (.int x1), .val (.int x2), .val (.int x3), .val (.long bh), .second, .val (.long eh), .second, .val (.long th), .second, .val (.ref a), .val (.int (1 : Int32))] [])) (fun _ k => XS.istore X13.here hx rfl (hb hby at_89) rfl (l' := #[.val (.int x0), .val (.int x1), .val (.int x2), .val (.int x3), .val (.long bh), .second, .val (.long eh), .second, .val (.long th), .second, .val (.ref a), .val (.int (1 : Int32))]) rfl k) ?_
        refine Goes.by (T' := T13) (g' := (mkF m 93 #[.val (.int x0), .val (.int x1), .val (.int x2), .val (.int x3), .val (.long bh), .second, .val (.long eh), .second, .val (.long th), .second, .val (.ref a), .val (.int (1 : Int32))] [(.ref a)])) (fun _ k => XS.aload X13.here hx rfl (hb hby at_91) rfl rfl k) ?_
        refine Goes.by (T' := T13) (g' := (mkF m 95 #[.val (.int x0), .val (.int x1), .val (.int x2), .val (.int x3), .val (.long bh), .second, .val (.long eh), .second, .val (.long th), .second, .val (.ref a), .val (.int (1 : Int32))] [(.long th), (.ref a)])) (fun _ k => XS.lload X13.here hx rfl (hb hby at_93) rfl k) ?_
        obtain ⟨d2, q_d2⟩ : ∃ zz, FP.l2d th = zz := ⟨_, rfl⟩
        refine Goes.by (T' := T13) (g' := (mkF m 96 #[.val (.int x0), .val (.int x1), .val (.int x2), .val (.int x3), .val (.long bh), .second, .val (.long eh), .second, .val (.long th), .second, .val (.ref a), .val (.int (1 : Int32))] [(.double d2), (.ref a)])) (fun _ k => XS.l2dS X13.here hx rfl (hb hby at_95) rfl q_d2 k) ?_
        have D2 : Core.DInt th.toInt d2 := DInt_l2d q_d2 (by omega)
        refine Goes.by (T' := T13) (g' := (mkF m 99 #[.val (.int x0), .val (.int x1), .val (.int x2), .val (.int x3), .val (.long bh), .second, .val (.long eh), .second, .val (.long th), .second, .val (.ref a), .val (.int (1 : Int32))] [(.double (4602678819172646912 : UInt64)), (.double d2), (.ref a)])) (X13.ldc2DoubleC hx hown (mvT hZ (hw _ (List.mem_of_getElem? (i := 3) rfl))) (g := (mkF m 96 #[.val (.int x0), .val (.int x1), .val (.int x2), .val (.int x3), .val (.long bh), .second, .val (.long eh), .second, .val (.long th), .second, .val (.ref a), .val (.int (1 : Int32))] [(.double d2), (.ref a)])) rfl (hb hby at_96)) ?_
        obtain ⟨u2, q_u2⟩ : ∃ zz, FP.dmul d2 (4602678819172646912 : UInt64) = zz := ⟨_, rfl⟩
        have U2 := own_halfmul D2 q_u2 (by omega)
        refine Goes.by (T' := T13) (g' := (mkF m 100 #[.val (.int x0), .val (.int x1), .val (.int x2), .val (.int x3), .val (.long bh), .second, .val (.long eh), .second, .val (.long th), .second, .val (.ref a), .val (.int (1 : Int32))] [(.double u2), (.ref a)])) (fun _ k => XS.dmulS X13.here hx rfl (hb hby at_99) rfl (by rw [q_u2]; exact U2.nn) q_u2 k) ?_
        obtain ⟨v15, T15, L15, X15, hQ15, st15⟩ := callV X13 hx hZ (y := (⟨"com/example/gaugefit/gaugefit/core/Interval", "contains", "(D)Z"⟩ : MethodName)) hown (hw _ (List.mem_of_getElem? (i := 23) rfl)) (hw _ (List.mem_of_getElem? (i := 24) rfl)) (hw _ (List.mem_of_getElem? (i := 26) rfl)) (hw _ (List.mem_of_getElem? (i := 25) rfl)) (hw _ (List.mem_of_getElem? (i := 27) rfl)) (hw _ (List.mem_of_getElem? (i := 2) rfl)) (by decide) e13 E_a (argsL := [(.double u2)]) (rest := []) (W := 0) (rm_con0 l Z a0 hw a u0 u1 u2 _ _ _ T13.heap n0 Z0 F_begin_a F_end_a U0 U1 U2 (own_hle (by omega)) (own_hlt (by omega))) rfl (by decide) (by decide) (by decide) (by decide) (g := (mkF m 100 #[.val (.int x0), .val (.int x1), .val (.int x2), .val (.int x3), .val (.long bh), .second, .val (.long eh), .second, .val (.long th), .second, .val (.ref a), .val (.int (1 : Int32))] [(.double u2), (.ref a)])) rfl (by rw [hml]; rfl) (lenOf pd1 rfl) rfl (by show 2 * 0 + _ ≤ _; exact Nat.le_of_eq rfl) (hb hby at_100)
        obtain ⟨rfl, NL15, hk15⟩ := hQ15
        have N0 := Fr.app N0 NL15
        refine Goes.by (T' := T15) (g' := (mkF m 103 #[.val (.int x0), .val (.int x1), .val (.int x2), .val (.int x3), .val (.long bh), .second, .val (.long eh), .second, .val (.long th), .second, .val (.ref a), .val (.int (1 : Int32))] [(.int (1 : Int32))])) st15 ?_
        refine Goes.by (T' := T15) (g' := (mkF m 105 #[.val (.int x0), .val (.int x1), .val (.int x2), .val (.int x3), .val (.long bh), .second, .val (.long eh), .second, .val (.long th), .second, .val (.ref a), .val (.int (1 : Int32))] [(.int (1 : Int32)), (.int (1 : Int32))])) (fun _ k => XS.iload X15.here hx rfl (hb hby at_103) rfl k) ?_
        refine Goes.by (T' := T15) (g' := (mkF m 108 #[.val (.int x0), .val (.int x1), .val (.int x2), .val (.int x3), .val (.long bh), .second, .val (.long eh), .second, .val (.long th), .second, .val (.ref a), .val (.int (1 : Int32))] [])) (fun _ k => XS.icmpNo X15.here hx rfl (hb hby at_105) rfl (by decide) k) ?_
        refine Goes.by (T' := T15) (g' := (mkF m 109 #[.val (.int x0), .val (.int x1), .val (.int x2), .val (.int x3), .val (.long bh), .second, .val (.long eh), .second, .val (.long th), .second, .val (.ref a), .val (.int (1 : Int32))] [(.int (1 : Int32))])) (fun _ k => XS.iconst X15.here hx rfl (hb hby at_108)  k) ?_
        refine Goes.by (T' := T15) (g' := (mkF m 113 #[.val (.int x0), .val (.int x1), .val (.int x2), .val (.int x3), .val (.long bh), .second, .val (.long eh), .second, .val (.long th), .second, .val (.ref a), .val (.int (1 : Int32))] [(.int (1 : Int32))])) (fun _ k => XS.goto X15.here hx rfl (pc0 := 109) (pc' := 113) rfl (hb hby at_109) (by decide) (by decide) k) ?_
        exact outZ X15 hx hlk hret (hb hby at_113) (by exact ⟨rfl, N0⟩) (by decide) (by decide)
      · obtain ⟨cw, hw2, hn2⟩ := cmpL_ge (x := th) (y := eh) hc2
        refine Goes.by (T' := T13) (g' := (mkF m 81 #[.val (.int x0), .val (.int x1), .val (.int x2), .val (.int x3), .val (.long bh), .second, .val (.long eh), .second, .val (.long th), .second, .val (.ref a), .unset] [(.int cw)])) (fun _ k => XS.lcmpS X13.here hx rfl (hb hby at_80) rfl hw2 k) ?_
        refine Goes.by (T' := T13) (g' := (mkF m 88 #[.val (.int x0), .val (.int x1), .val (.int x2), .val (.int x3), .val (.long bh), .second, .val (.long eh), .second, .val (.long th), .second, .val (.ref a), .unset] [])) (fun _ k => XS.ifYes X13.here hx rfl (pc0 := 81) (pc' := 88) rfl (hb hby at_81) rfl ((if0 _ _).trans (flt hn2).2.1) (by decide) (by decide) k) ?_
        refine Goes.by (T' := T13) (g' := (mkF m 89 #[.val (.int x0), .val (.int x1), .val (.int x2), .val (.int x3), .val (.long bh), .second, .val (.long eh), .second, .val (.long th), .second, .val (.ref a), .unset] [(.int (0 : Int32))])) (fun _ k => XS.iconst X13.here hx rfl (hb hby at_88)  k) ?_
        refine Goes.by (T' := T13) (g' := (mkF m 91 #[.val (.int x0), .val (.int x1), .val (.int x2), .val (.int x3), .val (.long bh), .second, .val (.long eh), .second, .val (.long th), .second, .val (.ref a), .val (.int (0 : Int32))] [])) (fun _ k => XS.istore X13.here hx rfl (hb hby at_89) rfl (l' := #[.val (.int x0), .val (.int x1), .val (.int x2), .val (.int x3), .val (.long bh), .second, .val (.long eh), .second, .val (.long th), .second, .val (.ref a), .val (.int (0 : Int32))]) rfl k) ?_
        refine Goes.by (T' := T13) (g' := (mkF m 93 #[.val (.int x0), .val (.int x1), .val (.int x2), .val (.int x3), .val (.long bh), .second, .val (.long eh), .second, .val (.long th), .second, .val (.ref a), .val (.int (0 : Int32))] [(.ref a)])) (fun _ k => XS.aload X13.here hx rfl (hb hby at_91) rfl rfl k) ?_
        refine Goes.by (T' := T13) (g' := (mkF m 95 #[.val (.int x0), .val (.int x1), .val (.int x2), .val (.int x3), .val (.long bh), .second, .val (.long eh), .second, .val (.long th), .second, .val (.ref a), .val (.int (0 : Int32))] [(.long th), (.ref a)])) (fun _ k => XS.lload X13.here hx rfl (hb hby at_93) rfl k) ?_
        obtain ⟨d2, q_d2⟩ : ∃ zz, FP.l2d th = zz := ⟨_, rfl⟩
        refine Goes.by (T' := T13) (g' := (mkF m 96 #[.val (.int x0), .val (.int x1), .val (.int x2), .val (.int x3), .val (.long bh), .second, .val (.long eh), .second, .val (.long th), .second, .val (.ref a), .val (.int (0 : Int32))] [(.double d2), (.ref a)])) (fun _ k => XS.l2dS X13.here hx rfl (hb hby at_95) rfl q_d2 k) ?_
        have D2 : Core.DInt th.toInt d2 := DInt_l2d q_d2 (by omega)
        refine Goes.by (T' := T13) (g' := (mkF m 99 #[.val (.int x0), .val (.int x1), .val (.int x2), .val (.int x3), .val (.long bh), .second, .val (.long eh), .second, .val (.long th), .second, .val (.ref a), .val (.int (0 : Int32))] [(.double (4602678819172646912 : UInt64)), (.double d2), (.ref a)])) (X13.ldc2DoubleC hx hown (mvT hZ (hw _ (List.mem_of_getElem? (i := 3) rfl))) (g := (mkF m 96 #[.val (.int x0), .val (.int x1), .val (.int x2), .val (.int x3), .val (.long bh), .second, .val (.long eh), .second, .val (.long th), .second, .val (.ref a), .val (.int (0 : Int32))] [(.double d2), (.ref a)])) rfl (hb hby at_96)) ?_
        obtain ⟨u2, q_u2⟩ : ∃ zz, FP.dmul d2 (4602678819172646912 : UInt64) = zz := ⟨_, rfl⟩
        have U2 := own_halfmul D2 q_u2 (by omega)
        refine Goes.by (T' := T13) (g' := (mkF m 100 #[.val (.int x0), .val (.int x1), .val (.int x2), .val (.int x3), .val (.long bh), .second, .val (.long eh), .second, .val (.long th), .second, .val (.ref a), .val (.int (0 : Int32))] [(.double u2), (.ref a)])) (fun _ k => XS.dmulS X13.here hx rfl (hb hby at_99) rfl (by rw [q_u2]; exact U2.nn) q_u2 k) ?_
        obtain ⟨v16, T16, L16, X16, hQ16, st16⟩ := callV X13 hx hZ (y := (⟨"com/example/gaugefit/gaugefit/core/Interval", "contains", "(D)Z"⟩ : MethodName)) hown (hw _ (List.mem_of_getElem? (i := 23) rfl)) (hw _ (List.mem_of_getElem? (i := 24) rfl)) (hw _ (List.mem_of_getElem? (i := 26) rfl)) (hw _ (List.mem_of_getElem? (i := 25) rfl)) (hw _ (List.mem_of_getElem? (i := 27) rfl)) (hw _ (List.mem_of_getElem? (i := 2) rfl)) (by decide) e13 E_a (argsL := [(.double u2)]) (rest := []) (W := 0) (rm_con2 l Z a0 hw a u0 u1 u2 _ _ _ T13.heap n0 Z0 F_begin_a F_end_a U0 U1 U2 (own_hle (by omega)) (own_hle (by omega))) rfl (by decide) (by decide) (by decide) (by decide) (g := (mkF m 100 #[.val (.int x0), .val (.int x1), .val (.int x2), .val (.int x3), .val (.long bh), .second, .val (.long eh), .second, .val (.long th), .second, .val (.ref a), .val (.int (0 : Int32))] [(.double u2), (.ref a)])) rfl (by rw [hml]; rfl) (lenOf pd1 rfl) rfl (by show 2 * 0 + _ ≤ _; exact Nat.le_of_eq rfl) (hb hby at_100)
        obtain ⟨rfl, NL16, hk16⟩ := hQ16
        have N0 := Fr.app N0 NL16
        refine Goes.by (T' := T16) (g' := (mkF m 103 #[.val (.int x0), .val (.int x1), .val (.int x2), .val (.int x3), .val (.long bh), .second, .val (.long eh), .second, .val (.long th), .second, .val (.ref a), .val (.int (0 : Int32))] [(.int (0 : Int32))])) st16 ?_
        refine Goes.by (T' := T16) (g' := (mkF m 105 #[.val (.int x0), .val (.int x1), .val (.int x2), .val (.int x3), .val (.long bh), .second, .val (.long eh), .second, .val (.long th), .second, .val (.ref a), .val (.int (0 : Int32))] [(.int (0 : Int32)), (.int (0 : Int32))])) (fun _ k => XS.iload X16.here hx rfl (hb hby at_103) rfl k) ?_
        refine Goes.by (T' := T16) (g' := (mkF m 108 #[.val (.int x0), .val (.int x1), .val (.int x2), .val (.int x3), .val (.long bh), .second, .val (.long eh), .second, .val (.long th), .second, .val (.ref a), .val (.int (0 : Int32))] [])) (fun _ k => XS.icmpNo X16.here hx rfl (hb hby at_105) rfl (by decide) k) ?_
        refine Goes.by (T' := T16) (g' := (mkF m 109 #[.val (.int x0), .val (.int x1), .val (.int x2), .val (.int x3), .val (.long bh), .second, .val (.long eh), .second, .val (.long th), .second, .val (.ref a), .val (.int (0 : Int32))] [(.int (1 : Int32))])) (fun _ k => XS.iconst X16.here hx rfl (hb hby at_108)  k) ?_
        refine Goes.by (T' := T16) (g' := (mkF m 113 #[.val (.int x0), .val (.int x1), .val (.int x2), .val (.int x3), .val (.long bh), .second, .val (.long eh), .second, .val (.long th), .second, .val (.ref a), .val (.int (0 : Int32))] [(.int (1 : Int32))])) (fun _ k => XS.goto X16.here hx rfl (pc0 := 109) (pc' := 113) rfl (hb hby at_109) (by decide) (by decide) k) ?_
        exact outZ X16 hx hlk hret (hb hby at_113) (by exact ⟨rfl, N0⟩) (by decide) (by decide)
  by_cases hf : (x3 &&& (1 : Int32)) = (0 : Int32)
  · refine Goes.by (T' := s₁) (g' := (mkF m 30 #[.val (.int x0), .val (.int x1), .val (.int x2), .val (.int x3), .val (.long bh), .second, .val (.long eh), .second, .unset, .unset, .unset, .unset] [])) (fun _ k => XS.ifYes X0.here hx rfl (pc0 := 20) (pc' := 30) rfl (hb hby at_20) rfl ((if0 _ _).trans (teq hf).1) (by decide) (by decide) k) ?_
    refine Goes.by (T' := s₁) (g' := (mkF m 32 #[.val (.int x0), .val (.int x1), .val (.int x2), .val (.int x3), .val (.long bh), .second, .val (.long eh), .second, .unset, .unset, .unset, .unset] [(.long bh)])) (fun _ k => XS.lload X0.here hx rfl (hb hby at_30) rfl k) ?_
    refine Goes.by (T' := s₁) (g' := (mkF m 33 #[.val (.int x0), .val (.int x1), .val (.int x2), .val (.int x3), .val (.long bh), .second, .val (.long eh), .second, .unset, .unset, .unset, .unset] [(.int x2), (.long bh)])) (fun _ k => XS.iloadN X0.here hx rfl (hb hby at_32) rfl k) ?_
    refine Goes.by (T' := s₁) (g' := (mkF m 36 #[.val (.int x0), .val (.int x1), .val (.int x2), .val (.int x3), .val (.long bh), .second, .val (.long eh), .second, .unset, .unset, .unset, .unset] [(.int (2047 : Int32)), (.int x2), (.long bh)])) (fun _ k => XS.sipush X0.here hx rfl (hb hby at_33)  k) ?_
    refine Goes.by (T' := s₁) (g' := (mkF m 37 #[.val (.int x0), .val (.int x1), .val (.int x2), .val (.int x3), .val (.long bh), .second, .val (.long eh), .second, .unset, .unset, .unset, .unset] [(.int (x2 &&& (2047 : Int32))), (.long bh)])) (fun _ k => XS.iand X0.here hx rfl (hb hby at_36) rfl k) ?_
    refine Goes.by (T' := s₁) (g' := (mkF m 40 #[.val (.int x0), .val (.int x1), .val (.int x2), .val (.int x3), .val (.long bh), .second, .val (.long eh), .second, .unset, .unset, .unset, .unset] [(.int (1024 : Int32)), (.int (x2 &&& (2047 : Int32))), (.long bh)])) (fun _ k => XS.sipush X0.here hx rfl (hb hby at_37)  k) ?_
    refine Goes.by (T' := s₁) (g' := (mkF m 41 #[.val (.int x0), .val (.int x1), .val (.int x2), .val (.int x3), .val (.long bh), .second, .val (.long eh), .second, .unset, .unset, .unset, .unset] [(.int ((x2 &&& (2047 : Int32)) - (1024 : Int32))), (.long bh)])) (fun _ k => XS.isub X0.here hx rfl (hb hby at_40) rfl k) ?_
    refine Goes.by (T' := s₁) (g' := (mkF m 42 #[.val (.int x0), .val (.int x1), .val (.int x2), .val (.int x3), .val (.long bh), .second, .val (.long eh), .second, .unset, .unset, .unset, .unset] [(.long ((((x2 &&& (2047 : Int32)) - (1024 : Int32))).toInt64)), (.long bh)])) (fun _ k => XS.i2l X0.here hx rfl (hb hby at_41) rfl k) ?_
    refine Goes.by (T' := s₁) (g' := (mkF m 43 #[.val (.int x0), .val (.int x1), .val (.int x2), .val (.int x3), .val (.long bh), .second, .val (.long eh), .second, .unset, .unset, .unset, .unset] [(.long (bh + ((((x2 &&& (2047 : Int32)) - (1024 : Int32))).toInt64)))])) (fun _ k => XS.ladd X0.here hx rfl (hb hby at_42) rfl k) ?_
    obtain ⟨th, q_th⟩ : ∃ zz : Int64, zz = (bh + ((((x2 &&& (2047 : Int32)) - (1024 : Int32))).toInt64)) := ⟨_, rfl⟩
    rw [← q_th]
    refine Goes.by (T' := s₁) (g' := (mkF m 45 #[.val (.int x0), .val (.int x1), .val (.int x2), .val (.int x3), .val (.long bh), .second, .val (.long eh), .second, .val (.long th), .second, .unset, .unset] [])) (fun _ k => XS.lstore X0.here hx rfl (hb hby at_43) rfl (l' := #[.val (.int x0), .val (.int x1), .val (.int x2), .val (.int x3), .val (.long bh), .second, .val (.long eh), .second, .val (.long th), .second, .unset, .unset]) rfl k) ?_
    refine rest th ?_
    have t := c_and x2 (2047 : Int32) (by decide)
    have t2 : (2047 : Int32).toInt = 2047 := by decide
    have t3 : (1024 : Int32).toInt = 1024 := by decide
    have t4 := c_isub (x2 &&& (2047 : Int32)) (1024 : Int32)
    have t5 := rng32 ((x2 &&& (2047 : Int32)) - (1024 : Int32))
    have t6 := c_i2l ((x2 &&& (2047 : Int32)) - (1024 : Int32))
    rw [q_th, own_ladd (by omega) (by omega)]
    omega
  · refine Goes.by (T' := s₁) (g' := (mkF m 23 #[.val (.int x0), .val (.int x1), .val (.int x2), .val (.int x3), .val (.long bh), .second, .val (.long eh), .second, .unset, .unset, .unset, .unset] [])) (fun _ k => XS.ifNo X0.here hx rfl (hb hby at_20) rfl ((if0 _ _).trans (feq hf).1) k) ?_
    refine Goes.by (T' := s₁) (g' := (mkF m 24 #[.val (.int x0), .val (.int x1), .val (.int x2), .val (.int x3), .val (.long bh), .second, .val (.long eh), .second, .unset, .unset, .unset, .unset] [(.int x2)])) (fun _ k => XS.iloadN X0.here hx rfl (hb hby at_23) rfl k) ?_
    refine Goes.by (T' := s₁) (g' := (mkF m 25 #[.val (.int x0), .val (.int x1), .val (.int x2), .val (.int x3), .val (.long bh), .second, .val (.long eh), .second, .unset, .unset, .unset, .unset] [(.long ((x2).toInt64))])) (fun _ k => XS.i2l X0.here hx rfl (hb hby at_24) rfl k) ?_
    obtain ⟨th, q_th⟩ : ∃ zz : Int64, zz = ((x2).toInt64) := ⟨_, rfl⟩
    rw [← q_th]
    refine Goes.by (T' := s₁) (g' := (mkF m 27 #[.val (.int x0), .val (.int x1), .val (.int x2), .val (.int x3), .val (.long bh), .second, .val (.long eh), .second, .val (.long th), .second, .unset, .unset] [])) (fun _ k => XS.lstore X0.here hx rfl (hb hby at_25) rfl (l' := #[.val (.int x0), .val (.int x1), .val (.int x2), .val (.int x3), .val (.long bh), .second, .val (.long eh), .second, .val (.long th), .second, .unset, .unset]) rfl k) ?_
    refine Goes.by (T' := s₁) (g' := (mkF m 45 #[.val (.int x0), .val (.int x1), .val (.int x2), .val (.int x3), .val (.long bh), .second, .val (.long eh), .second, .val (.long th), .second, .unset, .unset] [])) (fun _ k => XS.goto X0.here hx rfl (pc0 := 27) (pc' := 45) rfl (hb hby at_27) (by decide) (by decide) k) ?_
    refine rest th ?_
    have t := rng32 x2
    rw [q_th, c_i2l]
    omega
set_option maxRecDepth 65536 in
set_option maxHeartbeats 40000000 in
theorem comes_1 {Post : Tables → Env → Array Value → State → Outcome → State → Prop} (hpost : ∀ tb e args s v u, (limb_1_1.after args s (.returned v) u = true ∧ limb_1_2.after args s (.returned v) u = true ∧ True) → FrameEnd s (.returned v) u (Jvm.fieldLocs frame_1_writes args s ++ Jvm.arrayLocs frame_1_arrays args s ++ Jvm.staticLocs frame_1_statics s) 16 128 → Post tb e args s (.returned v) u) :
    ArmFor flags0 classFile x code maxLocals ret World_1 tables_1 room_1 Calls_1 rest_1 Pre_1 Post := by
  intro l hfl _ _ p e ha hc hk s m args below hf hA hF happ hP
  obtain ⟨hcalls, hrest, hpre⟩ := hP
  obtain ⟨-, -, -, hnamed, -, -, -, hat⟩ := (Spec.applies_iff hf).mp happ
  obtain ⟨hg, hn⟩ := and_e (Cond.before_iff.mp (show (Jvm.Cond.and given_1 narrow_1).before args s = true from hpre))
  obtain ⟨g0, t0⟩ := and_e hg
  obtain ⟨g1, t1⟩ := and_e t0
  obtain ⟨g2, t2⟩ := and_e t1
  obtain ⟨g3, t3⟩ := and_e t2
  obtain ⟨w0, w1, w2, w3, rfl⟩ : ∃ w0 w1 w2 w3 : Value, args = #[w0, w1, w2, w3] := by
    have hs : args.size = 4 := by simpa [Cond.value, given_1] using g0
    obtain ⟨L⟩ := args
    match L, hs with
    | [w0, w1, w2, w3], _ => exact ⟨w0, w1, w2, w3, rfl⟩
  have hw := fun d (hd : d ∈ tables_1) => atoms_spec (ws := Jvm.Cond.code x code maxLocals ret :: tables_1) hat d (List.mem_cons_of_mem _ hd)
  obtain ⟨i0, e0⟩ := is_v g1
  obtain rfl : w0 = (.int i0) := Option.some.inj e0
  obtain ⟨i1, e1⟩ := is_v g2
  obtain rfl : w1 = (.int i1) := Option.some.inj e1
  obtain ⟨i2, e2⟩ := is_v g3
  obtain rfl : w2 = (.int i2) := Option.some.inj e2
  obtain ⟨i3, e3⟩ := is_v t3
  obtain rfl : w3 = (.int i3) := Option.some.inj e3
  obtain ⟨n, o, h1, h2, h3, _, L, rfl, ⟨rfl, N⟩, hq⟩ := rm_law l s _ hw i0 i1 i2 i3 s.heap s.heap.size (Nat.le_refl _)  p e ha hc hk s m _ below hf ((Spec.applies_iff_loose hf).mp happ).1 ⟨rfl, State.Warmed39.refl s, rfl⟩ trivial
  refine ⟨n, _, h1, h2, h3, hpost _ _ _ _ _ _ ⟨Cond.after_iff.mpr rfl, Cond.after_iff.mpr (eq_i res_at (Term.int_eval (1)) rfl), trivial⟩ ⟨hq.1, hq.2.1, (hq.2.2.sift fun y hy => Or.inr (N y hy)).mono (by decide) (by decide)⟩⟩
theorem main_1_1 : Claimed_1_1 := comes_1 fun _ _ _ _ _ _ h hF => ⟨h.1, hF⟩
theorem main_1_2 : Claimed_1_2 := comes_1 fun _ _ _ _ _ _ h hF => ⟨h.2.1, hF⟩
end Jvm.Pilot.@@N@@
namespace Jvm.Pilot.@@N@@
open Jvm Jvm.ClassFile Sem Op Lib Jvm.Free Jvm.Stand Jvm.Pilot.@@N@@.Jvm.D
/-! MADE BY PROGRAM (witnessworld.py) out of the Statement's table words and the real class files: 15 classes; the members and pool entries that the words name. The judged class is class 1, her method 1. -/
namespace start1
open Jvm.ClassFile
def u (s : String) : CpInfo := .utf8 (stringToUtf16 s)
/-- a pool by its gaps: so many unusable entries, then the entry; so many at the end -/
def gap : Nat → List CpInfo → List CpInfo
  | 0, r => r
  | n + 1, r => .unusable :: gap n r
def poolList (es : List (Nat × CpInfo)) (last : Nat) : List CpInfo := es.foldr (fun e r => gap e.1 (e.2 :: r)) (gap last [])
def pool (es : List (Nat × CpInfo)) (last : Nat) : Array CpInfo := ⟨poolList es last⟩
def fileOf (pool : Array CpInfo) (this : Nat) (attrs : Array Attribute := #[]) (ms : Array MethodInfo := #[]) (fl : Nat := 33) (sup : Nat := 0) (ifs : Array Nat := #[]) (fds : Array FieldInfo := #[]) : ClassFile where
  minorVersion := 0
  majorVersion := 65
  constantPool := pool
  accessFlags := fl
  thisClass := this
  superClass := sup
  interfaces := ifs
  fields := fds
  methods := ms
  attributes := attrs
def plain (name : String) (sup : Option ClassId) : Class where
  name := name
  kind := .ordinary
  loader := none
  accessFlags := 33
  super := sup
  interfaces := #[]
  cf := none
  fields := #[]
  methods := #[]
  instanceTypes := #[]
  staticTypes := #[]
  resolved := #[]
  callSites := []
  init := .initialized
  statics := none
  mirror := none

def pool0 : Array CpInfo := pool [(5, u "<init>"), (0, u "()V"), (1, .class_ 10), (1, u "java/lang/Object")] 113

def k0c0 : Code := { maxStack := 0, maxLocals := 1, code := object_method_1_code, exceptionTable := #[], attributes := #[] }
def k0m0 : Method := { name := "<init>", desc := "()V", sig := { parameters := [], returnType := none }, accessFlags := 1, code := some k0c0 }
/-- java/lang/Object -/
def k0 : Class := { plain "java/lang/Object" none with
  accessFlags := 33
  interfaces := #[]
  cf := some (fileOf pool0 8 #[] #[{ accessFlags := 1, nameIndex := 5, descriptorIndex := 6, attributes := #[] }] 33 0 #[] #[])
  fields := #[]
  methods := #[k0m0]
  instanceTypes := #[]
  staticTypes := #[]
  resolved := Array.replicate 124 none
  statics := none }

def pool1 : Array CpInfo := pool [(2, .class_ 4), (1, u "java/lang/Object"), (0, u "<init>"), (0, u "()V"), (0, .class_ 8), (0, u "com/example/gaugefit/gaugefit/core/Interval"), (0, .double 4602678819172646912), (1, .methodref 7 12), (0, .nameAndType 5 13), (0, u "(DD)V"), (0, .methodref 7 15), (0, .nameAndType 16 17), (0, u "contains"), (0, u "(D)Z"), (0, .class_ 19), (0, u "com/example/gaugefit/gaugefit/core/IntervalContainsPinLaw"), (2, u "law"), (0, u "(IIII)Z")] 3

def k1m0 : Method := { name := "<init>", desc := "()V", sig := { parameters := [], returnType := none }, accessFlags := 1, code := none }
def k1c1 : Code := { maxStack := 8, maxLocals := 12, code := code, exceptionTable := #[], attributes := #[] }
def k1m1 : Method := { name := "law", desc := "(IIII)Z", sig := { parameters := [.int, .int, .int, .int], returnType := some .boolean }, accessFlags := 9, code := some k1c1 }
/-- com/example/gaugefit/gaugefit/core/IntervalContainsPinLaw -/
def k1 : Class := { plain "com/example/gaugefit/gaugefit/core/IntervalContainsPinLaw" (some 0) with
  accessFlags := 49
  interfaces := #[]
  cf := some (fileOf pool1 18 #[] #[{ accessFlags := 1, nameIndex := 5, descriptorIndex := 6, attributes := #[] }, { accessFlags := 9, nameIndex := 22, descriptorIndex := 23, attributes := #[] }] 49 2 #[] #[])
  fields := #[]
  methods := #[k1m0, k1m1]
  instanceTypes := #[]
  staticTypes := #[]
  resolved := Array.replicate 27 none
  statics := none }

def pool2 : Array CpInfo := pool [(1, .methodref 2 3), (0, .class_ 4), (0, .nameAndType 5 6), (0, u "java/lang/Object"), (0, u "<init>"), (0, u "()V"), (0, .methodref 8 9), (0, .class_ 10), (0, .nameAndType 11 12), (0, u "java/lang/Double"), (0, u "isFinite"), (0, u "(D)Z"), (10, .fieldref 24 25), (0, .class_ 26), (0, .nameAndType 27 28), (0, u "com/example/gaugefit/gaugefit/core/Interval"), (0, u "begin"), (0, u "D"), (0, .fieldref 24 30), (0, .nameAndType 31 28), (0, u "end"), (15, u "(DD)V"), (6, u "contains")] 27

def k2c0 : Code := { maxStack := 6, maxLocals := 5, code := prog_9_method_1_code, exceptionTable := #[], attributes := #[] }
def k2m0 : Method := { name := "<init>", desc := "(DD)V", sig := { parameters := [.double, .double], returnType := none }, accessFlags := 0, code := some k2c0 }
def k2c1 : Code := { maxStack := 4, maxLocals := 3, code := prog_9_method_4_code, exceptionTable := #[], attributes := #[] }
def k2m1 : Method := { name := "contains", desc := "(D)Z", sig := { parameters := [.double], returnType := some .boolean }, accessFlags := 0, code := some k2c1 }
/-- com/example/gaugefit/gaugefit/core/Interval -/
def k2 : Class := { plain "com/example/gaugefit/gaugefit/core/Interval" (some 0) with
  accessFlags := 48
  interfaces := #[]
  cf := some (fileOf pool2 24 #[] #[{ accessFlags := 0, nameIndex := 5, descriptorIndex := 47, attributes := #[] }, { accessFlags := 0, nameIndex := 54, descriptorIndex := 12, attributes := #[] }] 48 2 #[] #[{ accessFlags := 18, nameIndex := 27, descriptorIndex := 28, attributes := #[] }, { accessFlags := 18, nameIndex := 31, descriptorIndex := 28, attributes := #[] }])
  fields := #[{ name := "begin", type := .double, accessFlags := 18, slot := 0, constantValue := 0 }, { name := "end", type := .double, accessFlags := 18, slot := 1, constantValue := 0 }]
  methods := #[k2m0, k2m1]
  instanceTypes := #[.double, .double]
  staticTypes := #[]
  resolved := Array.replicate 82 none
  statics := none }

def pool3 : Array CpInfo := pool [(1, .class_ 2), (0, u "java/io/Serializable"), (0, .class_ 4), (0, u "java/lang/Object")] 2

/-- java/io/Serializable -/
def k3 : Class := { plain "java/io/Serializable" (some 0) with
  accessFlags := 1537
  interfaces := #[]
  cf := some (fileOf pool3 1 #[] #[] 1537 3 #[] #[])
  fields := #[]
  methods := #[]
  instanceTypes := #[]
  staticTypes := #[]
  resolved := Array.replicate 7 none
  statics := none }

def pool4 : Array CpInfo := pool [(2, .class_ 4), (1, u "java/lang/Object"), (0, u "<init>"), (0, u "()V"), (1, .class_ 10), (1, u "java/lang/Number"), (2, .class_ 14), (0, u "java/io/Serializable"), (0, u "serialVersionUID"), (0, u "J")] 20

def k4m0 : Method := { name := "<init>", desc := "()V", sig := { parameters := [], returnType := none }, accessFlags := 1, code := none }
/-- java/lang/Number -/
def k4 : Class := { plain "java/lang/Number" (some 0) with
  accessFlags := 1057
  interfaces := #[3]
  cf := some (fileOf pool4 8 #[] #[{ accessFlags := 1, nameIndex := 5, descriptorIndex := 6, attributes := #[] }] 1057 2 #[13] #[{ accessFlags := 26, nameIndex := 15, descriptorIndex := 16, attributes := #[] }])
  fields := #[{ name := "serialVersionUID", type := .long, accessFlags := 26, slot := 0, constantValue := 0 }]
  methods := #[k4m0]
  instanceTypes := #[]
  staticTypes := #[.long]
  resolved := Array.replicate 37 none
  statics := none }

def pool5 : Array CpInfo := pool [(1, .class_ 2), (0, u "java/lang/Comparable"), (0, .class_ 4), (0, u "java/lang/Object")] 7

/-- java/lang/Comparable -/
def k5 : Class := { plain "java/lang/Comparable" (some 0) with
  accessFlags := 1537
  interfaces := #[]
  cf := some (fileOf pool5 1 #[] #[] 1537 3 #[] #[])
  fields := #[]
  methods := #[]
  instanceTypes := #[]
  staticTypes := #[]
  resolved := Array.replicate 12 none
  statics := none }

def pool6 : Array CpInfo := pool [(1, .class_ 2), (0, u "java/lang/constant/Constable"), (0, .class_ 4), (0, u "java/lang/Object")] 6

/-- java/lang/constant/Constable -/
def k6 : Class := { plain "java/lang/constant/Constable" (some 0) with
  accessFlags := 1537
  interfaces := #[]
  cf := some (fileOf pool6 1 #[] #[] 1537 3 #[] #[])
  fields := #[]
  methods := #[]
  instanceTypes := #[]
  staticTypes := #[]
  resolved := Array.replicate 11 none
  statics := none }

def pool7 : Array CpInfo := pool [(1, .class_ 2), (0, u "java/lang/constant/ConstantDesc"), (0, .class_ 4), (0, u "java/lang/Object")] 32

/-- java/lang/constant/ConstantDesc -/
def k7 : Class := { plain "java/lang/constant/ConstantDesc" (some 0) with
  accessFlags := 1537
  interfaces := #[]
  cf := some (fileOf pool7 1 #[] #[] 1537 3 #[] #[])
  fields := #[]
  methods := #[]
  instanceTypes := #[]
  staticTypes := #[]
  resolved := Array.replicate 37 none
  statics := none }

def pool8 : Array CpInfo := pool [(1, .class_ 2), (0, u "java/lang/Double"), (10, u "isFinite"), (0, u "(D)Z"), (8, .class_ 25), (1, u "java/lang/Math"), (12, .methodref 23 39), (0, .nameAndType 40 41), (0, u "abs"), (0, u "(D)D"), (69, .double 9218868437227405311), (2, .class_ 116), (1, u "java/lang/Number"), (3, u "value"), (0, u "D"), (51, u "TYPE"), (0, u "Ljava/lang/Class;"), (0, .class_ 176), (0, u "java/lang/Comparable"), (0, .class_ 178), (0, u "java/lang/constant/Constable"), (0, .class_ 180), (0, u "java/lang/constant/ConstantDesc"), (0, u "POSITIVE_INFINITY"), (3, u "NEGATIVE_INFINITY"), (2, u "NaN"), (2, u "MAX_VALUE"), (0, u "MIN_NORMAL"), (0, u "MIN_VALUE"), (2, u "SIZE"), (0, u "I"), (1, u "PRECISION"), (1, u "MAX_EXPONENT"), (1, u "MIN_EXPONENT"), (1, u "BYTES"), (3, u "serialVersionUID"), (0, u "J")] 79

def k8c0 : Code := { maxStack := 4, maxLocals := 2, code := jdk_117_method_8_code, exceptionTable := #[], attributes := #[] }
def k8m0 : Method := { name := "isFinite", desc := "(D)Z", sig := { parameters := [.double], returnType := some .boolean }, accessFlags := 9, code := some k8c0 }
/-- java/lang/Double -/
def k8 : Class := { plain "java/lang/Double" (some 4) with
  accessFlags := 49
  interfaces := #[5, 6, 7]
  cf := some (fileOf pool8 1 #[] #[{ accessFlags := 9, nameIndex := 13, descriptorIndex := 14, attributes := #[] }] 49 114 #[175, 177, 179] #[{ accessFlags := 25, nameIndex := 181, descriptorIndex := 121, attributes := #[] }, { accessFlags := 25, nameIndex := 185, descriptorIndex := 121, attributes := #[] }, { accessFlags := 25, nameIndex := 188, descriptorIndex := 121, attributes := #[] }, { accessFlags := 25, nameIndex := 191, descriptorIndex := 121, attributes := #[] }, { accessFlags := 25, nameIndex := 192, descriptorIndex := 121, attributes := #[] }, { accessFlags := 25, nameIndex := 193, descriptorIndex := 121, attributes := #[] }, { accessFlags := 25, nameIndex := 196, descriptorIndex := 197, attributes := #[] }, { accessFlags := 25, nameIndex := 199, descriptorIndex := 197, attributes := #[] }, { accessFlags := 25, nameIndex := 201, descriptorIndex := 197, attributes := #[] }, { accessFlags := 25, nameIndex := 203, descriptorIndex := 197, attributes := #[] }, { accessFlags := 25, nameIndex := 205, descriptorIndex := 197, attributes := #[] }, { accessFlags := 25, nameIndex := 173, descriptorIndex := 174, attributes := #[] }, { accessFlags := 18, nameIndex := 120, descriptorIndex := 121, attributes := #[] }, { accessFlags := 26, nameIndex := 209, descriptorIndex := 210, attributes := #[] }])
  fields := #[{ name := "POSITIVE_INFINITY", type := .double, accessFlags := 25, slot := 0, constantValue := 0 }, { name := "NEGATIVE_INFINITY", type := .double, accessFlags := 25, slot := 1, constantValue := 0 }, { name := "NaN", type := .double, accessFlags := 25, slot := 2, constantValue := 0 }, { name := "MAX_VALUE", type := .double, accessFlags := 25, slot := 3, constantValue := 0 }, { name := "MIN_NORMAL", type := .double, accessFlags := 25, slot := 4, constantValue := 0 }, { name := "MIN_VALUE", type := .double, accessFlags := 25, slot := 5, constantValue := 0 }, { name := "SIZE", type := .int, accessFlags := 25, slot := 6, constantValue := 0 }, { name := "PRECISION", type := .int, accessFlags := 25, slot := 7, constantValue := 0 }, { name := "MAX_EXPONENT", type := .int, accessFlags := 25, slot := 8, constantValue := 0 }, { name := "MIN_EXPONENT", type := .int, accessFlags := 25, slot := 9, constantValue := 0 }, { name := "BYTES", type := .int, accessFlags := 25, slot := 10, constantValue := 0 }, { name := "TYPE", type := (.object "java/lang/Class"), accessFlags := 25, slot := 11, constantValue := 0 }, { name := "value", type := .double, accessFlags := 18, slot := 0, constantValue := 0 }, { name := "serialVersionUID", type := .long, accessFlags := 26, slot := 12, constantValue := 0 }]
  methods := #[k8m0]
  instanceTypes := #[.double]
  staticTypes := #[.double, .double, .double, .double, .double, .double, .int, .int, .int, .int, .int, (.object "java/lang/Class"), .long]
  resolved := Array.replicate 290 none
  statics := none }

def pool9 : Array CpInfo := pool [(1, .class_ 2), (0, u "java/lang/Math"), (1, .class_ 6), (1, u "java/lang/Object"), (0, u "<init>"), (0, u "()V"), (5, u "(D)D"), (83, .class_ 100), (1, u "java/lang/Math$RandomNumberGeneratorHolder"), (23, u "abs"), (47, u "negativeZeroFloatBits"), (0, u "J"), (2, u "negativeZeroDoubleBits"), (68, u "$assertionsDisabled"), (0, u "Z"), (91, u "twoToTheDoubleScaleDown"), (0, u "D"), (4, u "twoToTheDoubleScaleUp"), (9, u "E"), (3, u "PI"), (2, u "TAU"), (2, u "DEGREES_TO_RADIANS"), (0, u "RADIANS_TO_DEGREES")] 94

def k9m0 : Method := { name := "<init>", desc := "()V", sig := { parameters := [], returnType := none }, accessFlags := 2, code := none }
def k9c1 : Code := { maxStack := 4, maxLocals := 2, code := jdk_29_method_64_code, exceptionTable := #[], attributes := #[] }
def k9m1 : Method := { name := "abs", desc := "(D)D", sig := { parameters := [.double], returnType := some .double }, accessFlags := 9, code := some k9c1 }
/-- java/lang/Math -/
def k9 : Class := { plain "java/lang/Math" (some 0) with
  accessFlags := 49
  interfaces := #[]
  cf := some (fileOf pool9 1 #[.nestMembers #[98]] #[{ accessFlags := 2, nameIndex := 7, descriptorIndex := 8, attributes := #[] }, { accessFlags := 9, nameIndex := 124, descriptorIndex := 14, attributes := #[] }] 49 4 #[] #[{ accessFlags := 25, nameIndex := 354, descriptorIndex := 339, attributes := #[] }, { accessFlags := 25, nameIndex := 358, descriptorIndex := 339, attributes := #[] }, { accessFlags := 25, nameIndex := 361, descriptorIndex := 339, attributes := #[] }, { accessFlags := 26, nameIndex := 364, descriptorIndex := 339, attributes := #[] }, { accessFlags := 26, nameIndex := 365, descriptorIndex := 339, attributes := #[] }, { accessFlags := 26, nameIndex := 172, descriptorIndex := 173, attributes := #[] }, { accessFlags := 26, nameIndex := 176, descriptorIndex := 173, attributes := #[] }, { accessFlags := 8, nameIndex := 344, descriptorIndex := 339, attributes := #[] }, { accessFlags := 8, nameIndex := 338, descriptorIndex := 339, attributes := #[] }, { accessFlags := 4120, nameIndex := 245, descriptorIndex := 246, attributes := #[] }])
  fields := #[{ name := "E", type := .double, accessFlags := 25, slot := 0, constantValue := 0 }, { name := "PI", type := .double, accessFlags := 25, slot := 1, constantValue := 0 }, { name := "TAU", type := .double, accessFlags := 25, slot := 2, constantValue := 0 }, { name := "DEGREES_TO_RADIANS", type := .double, accessFlags := 26, slot := 3, constantValue := 0 }, { name := "RADIANS_TO_DEGREES", type := .double, accessFlags := 26, slot := 4, constantValue := 0 }, { name := "negativeZeroFloatBits", type := .long, accessFlags := 26, slot := 5, constantValue := 0 }, { name := "negativeZeroDoubleBits", type := .long, accessFlags := 26, slot := 6, constantValue := 0 }, { name := "twoToTheDoubleScaleUp", type := .double, accessFlags := 8, slot := 7, constantValue := 0 }, { name := "twoToTheDoubleScaleDown", type := .double, accessFlags := 8, slot := 8, constantValue := 0 }, { name := "$assertionsDisabled", type := .boolean, accessFlags := 4120, slot := 9, constantValue := 0 }]
  methods := #[k9m0, k9m1]
  instanceTypes := #[]
  staticTypes := #[.double, .double, .double, .double, .double, .long, .long, .double, .double, .boolean]
  resolved := Array.replicate 460 none
  statics := none }

def pool10 : Array CpInfo := pool [(1, u "java/lang/Cloneable"), (0, .class_ 1), (0, u "java/lang/Object"), (0, .class_ 3)] 3

/-- java/lang/Cloneable -/
def k10 : Class := { plain "java/lang/Cloneable" (some 0) with
  accessFlags := 1537
  interfaces := #[]
  cf := some (fileOf pool10 2 #[] #[] 1537 4 #[] #[])
  fields := #[]
  methods := #[]
  instanceTypes := #[]
  staticTypes := #[]
  resolved := Array.replicate 8 none
  statics := none }

/-- the primitive byte -/
def k11 : Class := { plain "byte" none with kind := .primitive 'B', accessFlags := 0x411 }
/-- [B -/
def k12 : Class := { plain "[B" (some 0) with kind := .array 11 .byte, interfaces := #[10, 3], accessFlags := 1041 }

/-- the primitive int -/
def k13 : Class := { plain "int" none with kind := .primitive 'I', accessFlags := 0x411 }
/-- [I -/
def k14 : Class := { plain "[I" (some 0) with kind := .array 13 .int, interfaces := #[10, 3], accessFlags := 1041 }

def heap : Heap := #[]
def classes : Array Class := #[k0, k1, k2, k3, k4, k5, k6, k7, k8, k9, k10, k11, k12, k13, k14]
def interned : List (Array UInt16 × Addr) := []
def slotsUsed : Nat := 0
def theMethod : MethodId := ⟨1, 1⟩
def args0 : Array Value := #[.int 5, .int 5, .int 5, .int 5]
def aboutOver (below : List Frame) : State where
  vm := { classes := classes, interned := interned.toArray }
  heap := heap
  slotsUsed := slotsUsed
  threads := #[{ frames := .invoking theMethod args0 :: below }]
def below0 : List Frame := [.native { method := ⟨0, 0⟩, args := #[] }]
def about1 : State := aboutOver below0
def p0 : Program := .bare "" "" ""
def e0 : Env := launch0.env 0 0 0
theorem w_frames : about1.frames = Frame.invoking theMethod args0 :: below0 := rfl
set_option maxRecDepth 65536 in
theorem w_args : argsFit about1.vm theMethod args0 = true := by decide +kernel
set_option maxRecDepth 65536 in
theorem w_heap : heapFits about1 = true := by decide +kernel
set_option maxRecDepth 65536 in
theorem w_runnable : about1.curStatus? = some .runnable := by decide +kernel
set_option maxRecDepth 65536 in
theorem w_alone : about1.alone = true := by decide +kernel
set_option maxRecDepth 65536 in
theorem w_named : about1.methodNamed? x = some theMethod := by decide +kernel
set_option maxRecDepth 65536 in
theorem w_hears : about1.hears theMethod below0 = true := by decide +kernel
set_option maxRecDepth 65536 in
theorem w_ripe : about1.ripe theMethod args0 below0 = true := by decide +kernel
theorem w_running : about1.status = .running := rfl
set_option maxRecDepth 65536 in
theorem w_room : about1.hasRoom e0.platform room_1 = true :=
  launch0.hasRoom_least _ room_1 (by decide +kernel) (by decide +kernel) (by decide +kernel) (by decide +kernel) (by decide +kernel) (by decide +kernel)
theorem allAtoms_all (ts : List Jvm.Cond) (a : Array Jvm.Value) (st : Jvm.State) : (allAtoms ts).before a st = ts.all (fun c => c.before a st) := by
  induction ts with
  | nil => rfl
  | cons c t ih =>
    show (Jvm.Cond.and c (allAtoms t)).before a st = _
    rw [Jvm.Cond.before_and, ih, List.all_cons]
def words1 : List Jvm.Cond := Jvm.Cond.code x code maxLocals ret :: tables_1
/-- a 'code' word, met by the world's own term for the bytes: nothing is compared byte by byte -/
theorem code_word {y : MethodName} {bytes : ByteArray} {mx : Nat} {rt : Option FieldType} {a : Array Value} {s : State} {m : MethodId} {meth : Method} {c : Code} (h1 : s.methodNamed? y = some m) (h2 : s.vm.method? m = some meth) (h3 : meth.code = some c) (h4 : c.code = bytes)
    (h5 : (c.maxLocals == mx && c.exceptionTable.isEmpty && decide (c.maxStack ≤ mostOperands) && decide (meth.sig.returnType = rt) && !meth.locks && decide (parseMethodDescriptor y.desc = some meth.sig)) = true) : (Jvm.Cond.code y bytes mx rt).before a s = true := by
  simp only [Bool.and_eq_true, beq_iff_eq, Bool.not_eq_true', decide_eq_true_eq] at h5
  obtain ⟨⟨⟨⟨⟨g1, g2⟩, g3⟩, g4⟩, g5⟩, g6⟩ := h5
  simp [Cond.before, Cond.holds, Cond.value, h1, h2, h3, h4, g1, g2, g3, g4, g5, g6]
def isCode : Jvm.Cond → Bool
  | .code _ _ _ _ => true
  | _ => false
theorem all_split {L : List Jvm.Cond} {P : Jvm.Cond → Bool} (h1 : L.all (fun c => isCode c || P c) = true) (h2 : ∀ c ∈ L.filter isCode, P c = true) : L.all P = true := by
  refine List.all_eq_true.mpr fun c hc => ?_
  have h := List.all_eq_true.mp h1 c hc
  rcases Bool.eq_false_or_eq_true (isCode c) with hi | hi
  · exact h2 c (List.mem_filter.mpr ⟨hc, hi⟩)
  · simpa [hi] using h
set_option maxRecDepth 65536 in
theorem w_c0 : (Jvm.Cond.code x code maxLocals ret).before args0 about1 = true := code_word (m := ⟨1, 1⟩) (meth := k1m1) (c := k1c1) (by decide +kernel) rfl rfl rfl (by decide +kernel)
set_option maxRecDepth 65536 in
theorem w_c1 : (Jvm.Cond.code ({ cls := "com/example/gaugefit/gaugefit/core/Interval", name := "<init>", desc := "(DD)V" } : Jvm.MethodName) prog_9_method_1_code (5 : Nat) (Option.none : Option Jvm.ClassFile.FieldType)).before args0 about1 = true := code_word (m := ⟨2, 0⟩) (meth := k2m0) (c := k2c0) (by decide +kernel) rfl rfl rfl (by decide +kernel)
set_option maxRecDepth 65536 in
theorem w_c2 : (Jvm.Cond.code ({ cls := "java/lang/Object", name := "<init>", desc := "()V" } : Jvm.MethodName) object_method_1_code (1 : Nat) (Option.none : Option Jvm.ClassFile.FieldType)).before args0 about1 = true := code_word (m := ⟨0, 0⟩) (meth := k0m0) (c := k0c0) (by decide +kernel) rfl rfl rfl (by decide +kernel)
set_option maxRecDepth 65536 in
theorem w_c3 : (Jvm.Cond.code ({ cls := "java/lang/Double", name := "isFinite", desc := "(D)Z" } : Jvm.MethodName) jdk_117_method_8_code (2 : Nat) (Option.some Jvm.ClassFile.FieldType.boolean)).before args0 about1 = true := code_word (m := ⟨8, 0⟩) (meth := k8m0) (c := k8c0) (by decide +kernel) rfl rfl rfl (by decide +kernel)
set_option maxRecDepth 65536 in
theorem w_c4 : (Jvm.Cond.code ({ cls := "java/lang/Math", name := "abs", desc := "(D)D" } : Jvm.MethodName) jdk_29_method_64_code (2 : Nat) (Option.some Jvm.ClassFile.FieldType.double)).before args0 about1 = true := code_word (m := ⟨9, 1⟩) (meth := k9m1) (c := k9c1) (by decide +kernel) rfl rfl rfl (by decide +kernel)
set_option maxRecDepth 65536 in
theorem w_c5 : (Jvm.Cond.code ({ cls := "com/example/gaugefit/gaugefit/core/Interval", name := "contains", desc := "(D)Z" } : Jvm.MethodName) prog_9_method_4_code (3 : Nat) (Option.some Jvm.ClassFile.FieldType.boolean)).before args0 about1 = true := code_word (m := ⟨2, 1⟩) (meth := k2m1) (c := k2c1) (by decide +kernel) rfl rfl rfl (by decide +kernel)
def codes1 : List Jvm.Cond := [Jvm.Cond.code x code maxLocals ret, Jvm.Cond.code ({ cls := "com/example/gaugefit/gaugefit/core/Interval", name := "<init>", desc := "(DD)V" } : Jvm.MethodName) prog_9_method_1_code (5 : Nat) (Option.none : Option Jvm.ClassFile.FieldType), Jvm.Cond.code ({ cls := "java/lang/Object", name := "<init>", desc := "()V" } : Jvm.MethodName) object_method_1_code (1 : Nat) (Option.none : Option Jvm.ClassFile.FieldType), Jvm.Cond.code ({ cls := "java/lang/Double", name := "isFinite", desc := "(D)Z" } : Jvm.MethodName) jdk_117_method_8_code (2 : Nat) (Option.some Jvm.ClassFile.FieldType.boolean), Jvm.Cond.code ({ cls := "java/lang/Math", name := "abs", desc := "(D)D" } : Jvm.MethodName) jdk_29_method_64_code (2 : Nat) (Option.some Jvm.ClassFile.FieldType.double), Jvm.Cond.code ({ cls := "com/example/gaugefit/gaugefit/core/Interval", name := "contains", desc := "(D)Z" } : Jvm.MethodName) prog_9_method_4_code (3 : Nat) (Option.some Jvm.ClassFile.FieldType.boolean)]
set_option maxRecDepth 65536 in
theorem codes_eq : words1.filter isCode = codes1 := rfl
theorem w_codes : ∀ c ∈ words1.filter isCode, c.before args0 about1 = true := by
  rw [codes_eq]
  intro c hc
  simp only [codes1, List.mem_cons, List.not_mem_nil, or_false] at hc
  rcases hc with rfl | rfl | rfl | rfl | rfl | rfl
  · exact w_c0
  · exact w_c1
  · exact w_c2
  · exact w_c3
  · exact w_c4
  · exact w_c5
set_option maxRecDepth 65536 in
theorem w_t1 : (words1.take 24).all (fun c => isCode c || c.before args0 about1) = true := by decide +kernel
set_option maxRecDepth 65536 in
theorem w_t2 : (words1.drop 24).all (fun c => isCode c || c.before args0 about1) = true := by decide +kernel
theorem w_tables : (allAtoms (Jvm.Cond.code x code maxLocals ret :: tables_1)).before args0 about1 = true := by
  rw [allAtoms_all]
  show words1.all (fun c => c.before args0 about1) = true
  refine all_split ?_ w_codes
  rw [← List.take_append_drop 24 words1, List.all_append, w_t1, w_t2]
  rfl
set_option maxRecDepth 65536 in
theorem w_case : (Jvm.Cond.and given_1 narrow_1).before args0 about1 = true := by decide +kernel
theorem w_applies : (headSpec (Jvm.Cond.code x code maxLocals ret :: tables_1) room_1).applies x e0.platform about1 = true :=
  (Spec.applies_iff w_frames).mpr ⟨w_running, w_runnable, w_alone, w_named, w_hears, w_ripe, w_room, w_tables⟩
theorem atStart : AtStart classFile x code maxLocals ret World_1 tables_1 room_1 Calls_1 rest_1 Pre_1 launch0 p0 e0 about1 theMethod args0 below0 :=
  ⟨lists_1, trivial, launch0.admits_env _ _ _, launch0.least_env, fairChoices_fair.cas, fairChoices_fair.clock, w_frames, w_args, w_heap, w_applies, trivial, trivial, w_case⟩
end start1
theorem witness_1 : WitnessClaimed_1 := ⟨start1.p0, start1.e0, start1.about1, start1.theMethod, start1.args0, start1.below0, start1.atStart⟩
end Jvm.Pilot.@@N@@
