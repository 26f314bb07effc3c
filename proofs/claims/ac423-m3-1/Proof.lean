import JvmDerived
import JvmDerived.Pilot.@@N@@Statement
import JvmDerived.Pilot.@@N@@Code
set_option linter.unusedVariables false
set_option linter.unusedSimpArgs false
namespace Jvm.RoadKit
open Sem ClassFile Op Lib Jvm.Stand Jvm.Free Jvm.LawKit
/-! own_: walks written forward: 'Goes P T g': from the frame g at T the run comes to a state that P takes. -/
def Goes (p : Program) (e : Env) (below : List Frame) (P : State → Prop) (T : State) (g : JFrame) : Prop := ∃ t, Steps p.tables e below (T.setTop g) t ∧ P t
/-- how a body ends: it returned v, and Q holds of v, the heap and the places written -/
def Fin1 (below : List Frame) (s : State) (rm : Room) (Q : Option Value → Heap → List Loc → Prop) (t : State) : Prop :=
  ∃ o, t.status = .running ∧ Ended t below o ∧ ∃ v L, o = .returned v ∧ Q v t.heap L ∧ FrameEnd s o t L rm.cells rm.slots
/-- a body's contract -/
def Does (l : Launch) (y : MethodName) (bytes : ByteArray) (maxL : Nat) (ret : Option FieldType) (ws : List Cond) (rm : Room) (Z : State) (as' : Array Value) (h : Heap) (Q : Option Value → Heap → List Loc → Prop) : Prop :=
  MetFree l y (head1 (Cond.code y bytes maxL ret :: ws) rm) (fun a U => a = as' ∧ Z.Warmed39 U.vm ∧ U.heap = h) (fun _ _ _ _ _ => True) (fun _ U o U' => ∃ v L, o = .returned v ∧ Q v U'.heap L ∧ FrameEnd U o U' L rm.cells rm.slots)
section Own
variable {p : Program} {l : Launch} {e : Env} {R : Room} {s : State} {m : MethodId} {args : Array Value} {below : List Frame} {meth : Method} {c : Code} {T T' : State} {locs : List Loc} {cells slots : Nat} {Z : State} {a0 : Array Value} {h h' : Heap} {g g' : JFrame} {P : State → Prop}
theorem Goes.by (st : ∀ target, Steps p.tables e below (T'.setTop g') target → Steps p.tables e below (T.setTop g) target) (k : Goes p e below P T' g') : Goes p e below P T g := by
  obtain ⟨t, h1, h2⟩ := k
  exact ⟨t, st _ h1, h2⟩
theorem Goes.cast (q : g = g') (k : Goes p e below P T g') : Goes p e below P T g := q ▸ k
theorem Does.of {y : MethodName} {bytes : ByteArray} {maxL : Nat} {ret : Option FieldType} {ws : List Cond} {rm : Room} {as' : Array Value} {Q : Option Value → Heap → List Loc → Prop} (hp : plainFor y = true)
    (body : ∀ (p : Program) (e : Env) (s : State) (m : MethodId) (below : List Frame) (meth : Method) (c : Code) (s₁ : State), p.tables.exec = Jvm.exec → c.code = bytes → c.maxLocals = maxL → meth.sig.returnType = ret → meth.locks = false → Z.Warmed39 s.vm → s.vm.findClass y.cls = some m.cls → meth.name = y.name → Stand p l e rm s m as' below meth c s₁ [] 0 0 → s₁.heap = h →
      Goes p e below (Fin1 below s rm Q) s₁ (entryFrame m as' maxL)) : Does l y bytes maxL ret ws rm Z as' h Q := by
  refine MetFree.of_bodySF hp hisR ?_
  intro p e s m args below meth c s₁ Bd hml0 hP hK
  obtain ⟨rfl, hZ, hh⟩ := hP
  have e0 : s₁.heap = h := by rw [← hh, Bd.state]; rfl
  obtain ⟨t, h1, o, h2⟩ := body p e s m below meth c s₁ Bd.exec Bd.bytes hml0 Bd.returns Bd.notSynchronized hZ (findClass_of_methodNamed Bd.named) ((name_of_methodNamed Bd.named Bd.method).1) (Stand.of_body Bd) e0
  exact ⟨t, o, h1, h2⟩
theorem fin_of {rm : Room} {Q : Option Value → Heap → List Loc → Prop} {v : Option Value} (X : Stand p l e R s m args below meth c T locs cells slots) (hlk : meth.locks = false) (hv : meth.sig.returnType = none → v = none) (hQ : Q v T.heap locs) (hc : cells ≤ rm.cells) (hs : slots ≤ rm.slots)
    (st : ∀ fs, (∀ (f : JFrame) (acts : List Action), f.method = m → f.locked = none → f.entered = [] → (doReturn e (T.setTop f) acts v).1 = T.setFrames fs) → Steps p.tables e below (T.setTop g) (T.setFrames fs)) : Goes p e below (Fin1 below s rm Q) T g := by
  obtain ⟨fs, hr, hrun, hended, hW, hsame⟩ := X.leave (v := v) hv hlk
  exact ⟨_, st fs hr, _, hrun, hended, _, _, rfl, hQ, ⟨_, rfl⟩, hW, hsame.mono hc hs⟩
theorem outV {rm : Room} {Q : Option Value → Heap → List Loc → Prop} {pc : Nat} {Ls : Array Slot} (X : Stand p l e R s m args below meth c T locs cells slots) (hx : p.tables.exec = Jvm.exec) (hlk : meth.locks = false) (hret : meth.sig.returnType = none) (hd : decode c.code pc = .ok (.return_, 1)) (hQ : Q none T.heap locs) (hc : cells ≤ rm.cells) (hs : slots ≤ rm.slots) : Goes p e below (Fin1 below s rm Q) T (mkF m pc Ls []) :=
  fin_of X hlk (fun _ => rfl) hQ hc hs fun fs hr => X.returnOut hx hret hd hr
theorem outZ {rm : Room} {Q : Option Value → Heap → List Loc → Prop} {pc : Nat} {Ls : Array Slot} {z : Int32} {rest : List Value} (X : Stand p l e R s m args below meth c T locs cells slots) (hx : p.tables.exec = Jvm.exec) (hlk : meth.locks = false) (hret : meth.sig.returnType = some .boolean) (hd : decode c.code pc = .ok (.ireturn, 1)) (hQ : Q (some (.int (nar .boolean z))) T.heap locs) (hc : cells ≤ rm.cells) (hs : slots ≤ rm.slots) : Goes p e below (Fin1 below s rm Q) T (mkF m pc Ls (.int z :: rest)) :=
  fin_of X hlk (fun h => by rw [hret] at h; cases h) hQ hc hs fun fs hr => retN X hx (t := .boolean) hret (by simp) hd hr
theorem outO {rm : Room} {Q : Option Value → Heap → List Loc → Prop} {pc : Nat} {Ls : Array Slot} {w : Value} {t : FieldType} {i : Instr} {rest : List Value} (X : Stand p l e R s m args below meth c T locs cells slots) (hx : p.tables.exec = Jvm.exec) (hlk : meth.locks = false) (hret : meth.sig.returnType = some t) (hn : narrow t w = w)
    (hi : (i = .ireturn ∧ (t = .int ∨ t = .boolean ∨ t = .byte ∨ t = .char ∨ t = .short) ∧ ∃ z, w = .int z) ∨ (i = .lreturn ∧ t = .long ∧ ∃ z, w = .long z) ∨ (i = .dreturn ∧ t = .double ∧ ∃ z, w = .double z) ∨ (i = .freturn ∧ t = .float ∧ ∃ z, w = .float z) ∨ (i = .areturn ∧ t.isReference = true ∧ w.isRef = true))
    (hd : decode c.code pc = .ok (i, 1)) (hQ : Q (some w) T.heap locs) (hc : cells ≤ rm.cells) (hs : slots ≤ rm.slots) : Goes p e below (Fin1 below s rm Q) T (mkF m pc Ls (w :: rest)) :=
  fin_of X hlk (fun h => by rw [hret] at h; cases h) hQ hc hs fun fs hr => retOut X hx hret hn hi hd hr
theorem outI {rm : Room} {Q : Option Value → Heap → List Loc → Prop} {pc : Nat} {Ls : Array Slot} {z : Int32} {rest : List Value} (X : Stand p l e R s m args below meth c T locs cells slots) (hx : p.tables.exec = Jvm.exec) (hlk : meth.locks = false) (hret : meth.sig.returnType = some .int) (hd : decode c.code pc = .ok (.ireturn, 1)) (hQ : Q (some (.int z)) T.heap locs) (hc : cells ≤ rm.cells) (hs : slots ≤ rm.slots) : Goes p e below (Fin1 below s rm Q) T (mkF m pc Ls (.int z :: rest)) :=
  outO X hx hlk hret rfl (Or.inl ⟨rfl, Or.inl rfl, _, rfl⟩) hd hQ hc hs
theorem outJ {rm : Room} {Q : Option Value → Heap → List Loc → Prop} {pc : Nat} {Ls : Array Slot} {z : Int64} {rest : List Value} (X : Stand p l e R s m args below meth c T locs cells slots) (hx : p.tables.exec = Jvm.exec) (hlk : meth.locks = false) (hret : meth.sig.returnType = some .long) (hd : decode c.code pc = .ok (.lreturn, 1)) (hQ : Q (some (.long z)) T.heap locs) (hc : cells ≤ rm.cells) (hs : slots ≤ rm.slots) : Goes p e below (Fin1 below s rm Q) T (mkF m pc Ls (.long z :: rest)) :=
  outO X hx hlk hret rfl (Or.inr (Or.inl ⟨rfl, rfl, _, rfl⟩)) hd hQ hc hs
theorem outD {rm : Room} {Q : Option Value → Heap → List Loc → Prop} {pc : Nat} {Ls : Array Slot} {z : UInt64} {rest : List Value} (X : Stand p l e R s m args below meth c T locs cells slots) (hx : p.tables.exec = Jvm.exec) (hlk : meth.locks = false) (hret : meth.sig.returnType = some .double) (hd : decode c.code pc = .ok (.dreturn, 1)) (hQ : Q (some (.double z)) T.heap locs) (hc : cells ≤ rm.cells) (hs : slots ≤ rm.slots) : Goes p e below (Fin1 below s rm Q) T (mkF m pc Ls (.double z :: rest)) :=
  outO X hx hlk hret rfl (Or.inr (Or.inr (Or.inl ⟨rfl, rfl, _, rfl⟩))) hd hQ hc hs
theorem outA {rm : Room} {Q : Option Value → Heap → List Loc → Prop} {pc : Nat} {Ls : Array Slot} {w : Value} {t : FieldType} {rest : List Value} (X : Stand p l e R s m args below meth c T locs cells slots) (hx : p.tables.exec = Jvm.exec) (hlk : meth.locks = false) (hret : meth.sig.returnType = some t) (ht : t.isReference = true) (hw : w.isRef = true) (hn : narrow t w = w) (hd : decode c.code pc = .ok (.areturn, 1)) (hQ : Q (some w) T.heap locs) (hc : cells ≤ rm.cells) (hs : slots ≤ rm.slots) : Goes p e below (Fin1 below s rm Q) T (mkF m pc Ls (w :: rest)) :=
  outO X hx hlk hret hn (Or.inr (Or.inr (Or.inr (Or.inr ⟨rfl, ht, hw⟩)))) hd hQ hc hs
/-! calls by a contract -/
theorem callI (X : Stand p l e R s m args below meth c T locs cells slots) (hx : p.tables.exec = Jvm.exec) (hZ : Z.Warmed39 s.vm) {own : String} {index : Nat} {y : MethodName} (hy1 : y.name = "<init>") (hown : s.vm.findClass own = some m.cls) {bytes : ByteArray} {maxL : Nat} {rm : Room}
    (w1 : (Cond.methodLink own index y).before a0 Z = true) (w2 : (Cond.instanceMethod y).before a0 Z = true) (w3 : (Cond.code y bytes maxL none).before a0 Z = true) (w4 : (Cond.initialized y.cls).before a0 Z = true) (hy : y.cls ≠ "java/lang/invoke/MethodHandle" ∧ y.cls ≠ "java/lang/invoke/VarHandle")
    (eT : T.heap = h) {a : Addr} {argsL rest : List Value} {as' : Array Value} {Q : Option Value → Heap → List Loc → Prop} {W : Nat} (hM : Does l y bytes maxL none [] rm Z as' h Q) (has : (.ref a :: argsL).toArray = as') (hf : rm.frames + 1 ≤ R.frames) (hl : W + (maxL + 11) + rm.locals ≤ R.locals)
    (hcc : cells + rm.cells ≤ R.cells) (hss : slots + rm.slots ≤ R.slots) {g : JFrame} (hg : g.method = m) (hsize : g.locals.size = c.maxLocals) (hlen : ∀ sig, parseMethodDescriptor y.desc = some sig → argsL.length = sig.parameters.length) (hst : g.stack = argsL.reverse ++ .ref a :: rest) (hW : 2 * g.monitorRoom + (rest.map fun v => v.category).sum ≤ W) (hd : decode c.code g.pc = .ok (.invokespecial index, 3)) :
    ∃ v T' L, Stand p l e R s m args below meth c T' (locs ++ L) (cells + rm.cells) (slots + rm.slots) ∧ Q v T'.heap L ∧ ∀ target, Steps p.tables e below (T'.setTop { g with pc := g.pc + 3, stack := v.toList ++ rest }) target → Steps p.tables e below (T.setTop g) target := by
  obtain ⟨v, vm1, ⟨T', L', k', n'⟩, -, X', ⟨L, hQ, e1, e2, e3⟩, st⟩ := X.specialBack hx (y := y) hy1 hown (mvT hZ w1) (mvT hZ w2) (mvT hZ w3) hy (backOf (W := W) hM hZ w3 w4 hf hl) hg hsize (Steps.refl _) hlen hst hW hd (fun _ _ => ⟨has, eT, hcc, hss⟩)
  dsimp only [Pt.U, Pt.locs, Pt.cells, Pt.slots] at X' e1 e2 e3 st hQ
  subst e1 e2 e3
  exact ⟨v, T', L, X', hQ, fun t k => st.trans k⟩
theorem callV (X : Stand p l e R s m args below meth c T locs cells slots) (hx : p.tables.exec = Jvm.exec) (hZ : Z.Warmed39 s.vm) {own C : String} {index : Nat} {y : MethodName} (hown : s.vm.findClass own = some m.cls) {bytes : ByteArray} {maxL : Nat} {ret : Option FieldType} {rm : Room}
    (w1 : (Cond.methodLink own index y).before a0 Z = true) (w2 : (Cond.declares y).before a0 Z = true) (w3 : (Cond.selects C y y).before a0 Z = true) (w4 : (Cond.instanceMethod y).before a0 Z = true) (w5 : (Cond.code y bytes maxL ret).before a0 Z = true) (w6 : (Cond.initialized y.cls).before a0 Z = true) (hy : y.cls ≠ "java/lang/invoke/MethodHandle" ∧ y.cls ≠ "java/lang/invoke/VarHandle")
    (eT : T.heap = h) {a : Addr} (E : Exa Z h a C) {argsL rest : List Value} {as' : Array Value} {Q : Option Value → Heap → List Loc → Prop} {W : Nat} (hM : Does l y bytes maxL ret [] rm Z as' h Q) (has : (.ref a :: argsL).toArray = as') (hf : rm.frames + 1 ≤ R.frames) (hl : W + (maxL + 11) + rm.locals ≤ R.locals)
    (hcc : cells + rm.cells ≤ R.cells) (hss : slots + rm.slots ≤ R.slots) {g : JFrame} (hg : g.method = m) (hsize : g.locals.size = c.maxLocals) (hlen : ∀ sig, parseMethodDescriptor y.desc = some sig → argsL.length = sig.parameters.length) (hst : g.stack = argsL.reverse ++ .ref a :: rest) (hW : 2 * g.monitorRoom + (rest.map fun v => v.category).sum ≤ W) (hd : decode c.code g.pc = .ok (.invokevirtual index, 3)) :
    ∃ v T' L, Stand p l e R s m args below meth c T' (locs ++ L) (cells + rm.cells) (slots + rm.slots) ∧ Q v T'.heap L ∧ ∀ target, Steps p.tables e below (T'.setTop { g with pc := g.pc + 3, stack := v.toList ++ rest }) target → Steps p.tables e below (T.setTop g) target := by
  obtain ⟨cB, kB, q1, q2, q3⟩ := isOf hZ eT E
  obtain ⟨v, vm1, ⟨T', L', k', n'⟩, -, X', ⟨L, hQ, e1, e2, e3⟩, st⟩ := X.virtualBack hx (y := y) (z := y) hown (mvT hZ w1) (mvT hZ w2) (notFace_of_selects (args := args) (mvT hZ w3)) (mvT hZ w3) (mvT hZ w4) hy (backOf (W := W) hM hZ w5 w6 hf hl) q1 q3 hg hsize (Steps.refl _) hlen hst hW hd (fun _ _ => ⟨has, eT, hcc, hss⟩)
  dsimp only [Pt.U, Pt.locs, Pt.cells, Pt.slots] at X' e1 e2 e3 st hQ
  subst e1 e2 e3
  exact ⟨v, T', L, X', hQ, fun t k => st.trans k⟩
theorem callC (X : Stand p l e R s m args below meth c T locs cells slots) (hx : p.tables.exec = Jvm.exec) (hZ : Z.Warmed39 s.vm) {own : String} {index : Nat} {y : MethodName} (hown : s.vm.findClass own = some m.cls) {bytes : ByteArray} {maxL : Nat} {ret : Option FieldType} {rm : Room}
    (w1 : (Cond.methodLink own index y).before a0 Z = true) (w2 : (Cond.static y).before a0 Z = true) (w3 : (Cond.code y bytes maxL ret).before a0 Z = true) (w4 : (Cond.initialized y.cls).before a0 Z = true) (hy : y.cls ≠ "java/lang/invoke/MethodHandle" ∧ y.cls ≠ "java/lang/invoke/VarHandle")
    (eT : T.heap = h) {argsL rest : List Value} {as' : Array Value} {Q : Option Value → Heap → List Loc → Prop} {W : Nat} (hM : Does l y bytes maxL ret [] rm Z as' h Q) (has : argsL.toArray = as') (hf : rm.frames + 1 ≤ R.frames) (hl : W + (maxL + 11) + rm.locals ≤ R.locals)
    (hcc : cells + rm.cells ≤ R.cells) (hss : slots + rm.slots ≤ R.slots) {g : JFrame} (hg : g.method = m) (hsize : g.locals.size = c.maxLocals) (hlen : ∀ sig, parseMethodDescriptor y.desc = some sig → argsL.length = sig.parameters.length) (hst : g.stack = argsL.reverse ++ rest) (hW : 2 * g.monitorRoom + (rest.map fun v => v.category).sum ≤ W) (hd : decode c.code g.pc = .ok (.invokestatic index, 3)) :
    ∃ v T' L, Stand p l e R s m args below meth c T' (locs ++ L) (cells + rm.cells) (slots + rm.slots) ∧ Q v T'.heap L ∧ ∀ target, Steps p.tables e below (T'.setTop { g with pc := g.pc + 3, stack := v.toList ++ rest }) target → Steps p.tables e below (T.setTop g) target := by
  obtain ⟨v, vm1, ⟨T', L', k', n'⟩, -, X', ⟨L, hQ, e1, e2, e3⟩, st⟩ := Jvm.LawKit.callS X hx (y := y) hown (mvT hZ w1) (mvT hZ w2) (mvT hZ w4) (mvT hZ w3) hy (backOf (W := W) hM hZ w3 w4 hf hl) hg hsize hlen hst hW hd (fun _ _ => ⟨has, eT, hcc, hss⟩)
  dsimp only [Pt.U, Pt.locs, Pt.cells, Pt.slots] at X' e1 e2 e3 st hQ
  subst e1 e2 e3
  exact ⟨v, T', L, X', hQ, st⟩
end Own
end Jvm.RoadKit
namespace Jvm.Free.XS
open Sem ClassFile Op Lib
theorem lcmpS {tb : Tables} [Ours tb] {e : Env} {below : List Frame} {T target : State} {m : MethodId} {c : Code} {g : JFrame} (h : At T m c below) (hx : tb.exec = Jvm.exec) (hg : g.method = m) {x y : Int64} {v : Int32} {rest : List Value} (hd : decode c.code g.pc = .ok (.lcmp, 1)) (hs : g.stack = .long y :: .long x :: rest) (hv : Jvm.RoadKit.lcmpW x y = v)
    (hr : Steps tb e below (T.setTop { g with pc := g.pc + 1, stack := .int v :: rest }) target) : Steps tb e below (T.setTop g) target := by
  subst hv
  exact lcmp h hx hg hd hs hr
end Jvm.Free.XS
namespace Jvm.RoadKit
open Sem ClassFile Op Lib Jvm.Stand Jvm.Free Jvm.LawKit Jvm.FP Jvm.Free.Fl
section OwnD
theorem own_cmp (i j : Int) : compare i j = if i < j then Ordering.lt else if i = j then Ordering.eq else Ordering.gt := rfl
theorem cmpL_lt {x y : Int64} (h : x < y) : lcmpW x y = -1 := by
  have h' := Int64.lt_iff_toInt_lt.mp h
  show (if y < x then (1 : Int32) else if x = y then 0 else -1) = -1
  rw [if_neg (fun q => by have := Int64.lt_iff_toInt_lt.mp q; omega), if_neg (fun q => by rw [q] at h'; omega)]
theorem cmpL_eq {x y : Int64} (h : x = y) : lcmpW x y = 0 := by
  subst h
  show (if x < x then (1 : Int32) else if x = x then 0 else -1) = 0
  rw [if_neg (fun q => by have := Int64.lt_iff_toInt_lt.mp q; omega), if_pos rfl]
theorem cmpL_gt {x y : Int64} (h : y < x) : lcmpW x y = 1 := by
  show (if y < x then (1 : Int32) else if x = y then 0 else -1) = 1
  rw [if_pos h]
theorem DInt_nn {i : Int} {x : UInt64} (h : Core.DInt i x) : NoNaN64 x := val64_no.mpr (Core.DInt_ne_nan h)
theorem DInt_fin {i : Int} {x : UInt64} (h : Core.DInt i x) : Fin64 x := fin64_core.mpr (by
  have h' : Core.Whole i (Core.val64 x) := h
  cases q : Core.val64 x with
  | nan => rw [q] at h'; exact h'.elim
  | inf s => rw [q] at h'; exact h'.elim
  | fin s c e => exact ⟨s, c, e, q⟩)
theorem cmpD_lt {i j : Int} {x y : UInt64} (hx : Core.DInt i x) (hy : Core.DInt j y) (h : i < j) (o : CmpOp) : cmpValue (FP.dcmp x y) o = -1 := by
  rw [show FP.dcmp x y = _ from Core.dcmp_int hx hy, own_cmp, if_pos h]; rfl
theorem cmpD_eq {i j : Int} {x y : UInt64} (hx : Core.DInt i x) (hy : Core.DInt j y) (h : i = j) (o : CmpOp) : cmpValue (FP.dcmp x y) o = 0 := by
  rw [show FP.dcmp x y = _ from Core.dcmp_int hx hy, own_cmp, if_neg (by omega), if_pos h]; rfl
theorem cmpD_gt {i j : Int} {x y : UInt64} (hx : Core.DInt i x) (hy : Core.DInt j y) (h : j < i) (o : CmpOp) : cmpValue (FP.dcmp x y) o = 1 := by
  rw [show FP.dcmp x y = _ from Core.dcmp_int hx hy, own_cmp, if_neg (by omega), if_neg (by omega)]; rfl
theorem DInt_zero : Core.DInt 0 0 := by
  have h := Core.l2d_int (a := 0) (by decide)
  rw [show Core.l2d 0 = 0 from l2d_zero] at h
  exact h
theorem DInt_i2d {x : Int32} {d : UInt64} (q : FP.i2d x = d) : Core.DInt x.toInt d := q ▸ Core.i2d_int x
theorem DInt_l2d {x : Int64} {d : UInt64} (q : FP.l2d x = d) (h : x.toInt.natAbs ≤ 2 ^ 53) : Core.DInt x.toInt d := q ▸ Core.l2d_int h
theorem DInt_add {i j : Int} {a b d : UInt64} (q : FP.dadd a b = d) (ha : Core.DInt i a) (hb : Core.DInt j b) (h : (i + j).natAbs ≤ 2 ^ 53) : Core.DInt (i + j) d := q ▸ Core.dadd_int ha hb h
theorem DInt_sub {i j : Int} {a b d : UInt64} (q : FP.dsub a b = d) (ha : Core.DInt i a) (hb : Core.DInt j b) (h : (i - j).natAbs ≤ 2 ^ 53) : Core.DInt (i - j) d := q ▸ Core.dsub_int ha hb h
theorem DInt_mul {i j : Int} {a b d : UInt64} (q : FP.dmul a b = d) (ha : Core.DInt i a) (hb : Core.DInt j b) (h : (i * j).natAbs ≤ 2 ^ 53) : Core.DInt (i * j) d := q ▸ Core.dmul_int ha hb h
end OwnD
/-! an array by the list of its values -/
def Sar (Z : State) (h : Heap) (a : Addr) (ty : FieldType) (vs : List Value) : Prop := ∃ c : Cell, Arr Z h a c ty ∧ c.slots = vs.toArray
section OwnA
variable {p : Program} {l : Launch} {e : Env} {R : Room} {s : State} {m : MethodId} {args : Array Value} {below : List Frame} {meth : Method} {c : Code} {T : State} {locs : List Loc} {cells slots : Nat} {Z : State} {a0 : Array Value} {h h' : Heap} {a b : Addr} {ty : FieldType} {vs : List Value} {sl : Nat} {v : Value} {ws : List Addr}
theorem Sar.lt (F : Sar Z h a ty vs) : a < h.size := by obtain ⟨c, A, -⟩ := F; exact A.lt
theorem Sar.ext (F : Sar Z h a ty vs) (E : Ext h h') : Sar Z h' a ty vs := by obtain ⟨c, A, r⟩ := F; exact ⟨c, A.ext E, r⟩
theorem Sar.other (F : Sar Z h b ty vs) (W : Wr h h' a sl v) (q : b ≠ a) : Sar Z h' b ty vs := by obtain ⟨c, A, r⟩ := F; exact ⟨c, A.other W q, r⟩
theorem Sar.keep (F : Sar Z h a ty vs) (K : Keep h h' ws) (q : a ∉ ws) : Sar Z h' a ty vs := by obtain ⟨c, A, r⟩ := F; exact ⟨c, ⟨K.2.1 a c A.1 q, A.2⟩, r⟩
theorem Sar.new {k : ClassId} {z : Int32} {n : Nat} (A : Arr Z h a (newA k ty z) ty) (hn : z.toNatClampNeg = n) : Sar Z h a ty (List.replicate n (defaultValue ty)) := ⟨_, A, by subst hn; show Array.replicate _ _ = _; simp⟩
theorem Sar.in {cl : Cell} {j : Int32} {i : Nat} (S : cl.slots = vs.toArray) (hj : j.toInt = i) (hi : i < vs.length) : ¬ (j < 0 ∨ cl.slots.size ≤ j.toNatClampNeg) := by
  rw [S]
  have q : j.toNatClampNeg = i := by show j.toInt.toNat = i; omega
  have r : ¬ j < 0 := fun z => by have z' := Int32.lt_iff_toInt_lt.mp z; rw [hj] at z'; simp at z'; omega
  rw [q]
  simp only [List.size_toArray]
  intro z
  rcases z with z | z
  · exact r z
  · omega
theorem Sar.nat {j : Int32} {i : Nat} (hj : j.toInt = i) : j.toNatClampNeg = i := by show j.toInt.toNat = i; omega
theorem stDS (X : Stand p l e R s m args below meth c T locs cells slots) (hx : p.tables.exec = Jvm.exec) (hZ : Z.Warmed39 s.vm) (eT : T.heap = h) (V : Sar Z h a .double vs) {j : Int32} {x : UInt64} (i : Nat) (hj : j.toInt = i) (hi : i < vs.length) {g : JFrame} (hg : g.method = m) {rest : List Value} (hs : g.stack = .double x :: .int j :: .ref a :: rest) (hd : decode c.code g.pc = .ok (.dastore, 1)) :
    ∃ T' h', Stand p l e R s m args below meth c T' (locs ++ [⟨a, i⟩]) cells slots ∧ T'.heap = h' ∧ Wr h h' a i (.double x) ∧ Sar Z h' a .double (vs.set i (.double x)) ∧ ∀ target, Steps p.tables e below (T'.setTop { g with pc := g.pc + 1, stack := rest }) target → Steps p.tables e below (T.setTop g) target := by
  obtain ⟨cl, A, S⟩ := V
  obtain ⟨T', h', X', e', W, st⟩ := stD X hx hZ eT A (Sar.in S hj hi) hg hs hd
  rw [Sar.nat hj] at X' W
  exact ⟨T', h', X', e', W, ⟨_, A.same W, by show cl.slots.setIfInBounds _ _ = _; rw [S]; simp⟩, st⟩
theorem stIS (X : Stand p l e R s m args below meth c T locs cells slots) (hx : p.tables.exec = Jvm.exec) (hZ : Z.Warmed39 s.vm) (eT : T.heap = h) (V : Sar Z h a .int vs) {j : Int32} {x : Int32} (i : Nat) (hj : j.toInt = i) (hi : i < vs.length) {g : JFrame} (hg : g.method = m) {rest : List Value} (hs : g.stack = .int x :: .int j :: .ref a :: rest) (hd : decode c.code g.pc = .ok (.iastore, 1)) :
    ∃ T' h', Stand p l e R s m args below meth c T' (locs ++ [⟨a, i⟩]) cells slots ∧ T'.heap = h' ∧ Wr h h' a i (.int x) ∧ Sar Z h' a .int (vs.set i (.int x)) ∧ ∀ target, Steps p.tables e below (T'.setTop { g with pc := g.pc + 1, stack := rest }) target → Steps p.tables e below (T.setTop g) target := by
  obtain ⟨cl, A, S⟩ := V
  obtain ⟨T', h', X', e', W, st⟩ := stI X hx hZ eT A (Sar.in S hj hi) hg hs hd
  rw [Sar.nat hj] at X' W
  exact ⟨T', h', X', e', W, ⟨_, A.same W, by show cl.slots.setIfInBounds _ _ = _; rw [S]; simp⟩, st⟩
theorem ldDS (X : Stand p l e R s m args below meth c T locs cells slots) (hx : p.tables.exec = Jvm.exec) (hZ : Z.Warmed39 s.vm) (eT : T.heap = h) (V : Sar Z h a .double vs) {j : Int32} (i : Nat) (hj : j.toInt = i) (hv : vs[i]? = some v) {g : JFrame} (hg : g.method = m) {rest : List Value} (hs : g.stack = .int j :: .ref a :: rest) (hd : decode c.code g.pc = .ok (.daload, 1)) :
    ∀ target, Steps p.tables e below (T.setTop { g with pc := g.pc + 1, stack := v :: rest }) target → Steps p.tables e below (T.setTop g) target := by
  obtain ⟨cl, A, S⟩ := V
  have hi : i < vs.length := (List.getElem?_eq_some_iff.mp hv).1
  exact X.daload hx (by rw [eT]; exact A.1) (State.isArrayOf_alike hZ.alike A.2.1) A.2.2 (Sar.in S hj hi) (by rw [S, Sar.nat hj]; simpa using hv) hg hs hd
theorem ldIS (X : Stand p l e R s m args below meth c T locs cells slots) (hx : p.tables.exec = Jvm.exec) (hZ : Z.Warmed39 s.vm) (eT : T.heap = h) (V : Sar Z h a .int vs) {j : Int32} (i : Nat) (hj : j.toInt = i) (hv : vs[i]? = some v) {g : JFrame} (hg : g.method = m) {rest : List Value} (hs : g.stack = .int j :: .ref a :: rest) (hd : decode c.code g.pc = .ok (.iaload, 1)) :
    ∀ target, Steps p.tables e below (T.setTop { g with pc := g.pc + 1, stack := v :: rest }) target → Steps p.tables e below (T.setTop g) target := by
  obtain ⟨cl, A, S⟩ := V
  have hi : i < vs.length := (List.getElem?_eq_some_iff.mp hv).1
  exact X.iaload hx (by rw [eT]; exact A.1) (State.isArrayOf_alike hZ.alike A.2.1) A.2.2 (Sar.in S hj hi) (by rw [S, Sar.nat hj]; simpa using hv) hg hs hd
theorem lenS (X : Stand p l e R s m args below meth c T locs cells slots) (hx : p.tables.exec = Jvm.exec) (hZ : Z.Warmed39 s.vm) (eT : T.heap = h) (V : Sar Z h a ty vs) {n : Int32} (hn : vs.length.toInt32 = n) {g : JFrame} (hg : g.method = m) {rest : List Value} (hs : g.stack = .ref a :: rest) (hd : decode c.code g.pc = .ok (.arraylength, 1)) :
    ∀ target, Steps p.tables e below (T.setTop { g with pc := g.pc + 1, stack := .int n :: rest }) target → Steps p.tables e below (T.setTop g) target := by
  obtain ⟨cl, A, S⟩ := V
  intro target k
  refine X.arraylength hx (by rw [eT]; exact A.1) (State.isArrayOf_alike hZ.alike A.2.1) hg hs hd target ?_
  rw [S]
  simp only [List.size_toArray, hn]
  exact k
end OwnA
end Jvm.RoadKit
namespace Jvm.RoadKit
open Jvm.FP Jvm.Free.Fl
theorem DInt_nz {i : Int} {x : UInt64} (h : Core.DInt i x) (hi : i ≠ 0) : Nz64 x := nz64_core.mpr fun z => by
  obtain ⟨s, q, e⟩ := z
  have h' : Core.Whole i (Core.val64 x) := h
  rw [e] at h'
  exact hi ((Core.whole_zero h').mp rfl)
theorem DInt_one : Core.DInt 1 4607182418800017408 := Core.dint_one
end Jvm.RoadKit
namespace Jvm.RoadKit
open Jvm.FP Jvm.Free.Fl Op
theorem cmpD_le {i j : Int} {x y : UInt64} (hx : Core.DInt i x) (hy : Core.DInt j y) (h : i ≤ j) (o : ClassFile.CmpOp) : ∃ v : Int32, cmpValue (FP.dcmp x y) o = v ∧ ¬ (0 : Int32) < v := by
  by_cases q : i < j
  · exact ⟨-1, cmpD_lt hx hy q o, by decide⟩
  · exact ⟨0, cmpD_eq hx hy (by omega) o, by decide⟩
theorem cmpD_ge {i j : Int} {x y : UInt64} (hx : Core.DInt i x) (hy : Core.DInt j y) (h : j ≤ i) (o : ClassFile.CmpOp) : ∃ v : Int32, cmpValue (FP.dcmp x y) o = v ∧ ¬ v < (0 : Int32) := by
  by_cases q : j < i
  · exact ⟨1, cmpD_gt hx hy q o, by decide⟩
  · exact ⟨0, cmpD_eq hx hy (by omega) o, by decide⟩
end Jvm.RoadKit
namespace Jvm.RoadKit
open Jvm.Free
theorem cmpL_le {x y : Int64} (h : ¬ y.toInt < x.toInt) : ∃ v : Int32, lcmpW x y = v ∧ ¬ (0 : Int32) < v := by
  by_cases q : x.toInt < y.toInt
  · exact ⟨-1, cmpL_lt (Int64.lt_iff_toInt_lt.mpr q), by decide⟩
  · exact ⟨0, cmpL_eq (Int64.toInt_inj.mp (by omega)), by decide⟩
theorem cmpL_gtI {x y : Int64} (h : y.toInt < x.toInt) : lcmpW x y = 1 := cmpL_gt (Int64.lt_iff_toInt_lt.mpr h)
end Jvm.RoadKit
namespace Jvm.RoadKit
open Jvm.Free
theorem cmpL_ge {x y : Int64} (h : ¬ x.toInt < y.toInt) : ∃ v : Int32, lcmpW x y = v ∧ ¬ v < (0 : Int32) := by
  by_cases q : y.toInt < x.toInt
  · exact ⟨1, cmpL_gtI q, by decide⟩
  · exact ⟨0, cmpL_eq (Int64.toInt_inj.mp (by omega)), by decide⟩
end Jvm.RoadKit
namespace Jvm.RoadKit
section OwnN
theorem own_mb {i j : Int} {A B : Nat} (hi : i.natAbs ≤ A) (hj : j.natAbs ≤ B) : (i * j).natAbs ≤ A * B := by rw [Int.natAbs_mul]; exact Nat.mul_le_mul hi hj
theorem own_mb2 {i j : Int} {A B : Nat} (hi : -(A : Int) ≤ i ∧ i ≤ A) (hj : -(B : Int) ≤ j ∧ j ≤ B) : -((A * B : Nat) : Int) ≤ i * j ∧ i * j ≤ ((A * B : Nat) : Int) := by
  have h := own_mb (i := i) (j := j) (A := A) (B := B) (by omega) (by omega)
  omega
theorem own_ladd {a b : Int64} (h1 : -9223372036854775808 ≤ a.toInt + b.toInt) (h2 : a.toInt + b.toInt < 9223372036854775808) : (a + b).toInt = a.toInt + b.toInt := by
  have := c_ladd a b; have := rng64 (a + b); omega
theorem own_lsub {a b : Int64} (h1 : -9223372036854775808 ≤ a.toInt - b.toInt) (h2 : a.toInt - b.toInt < 9223372036854775808) : (a - b).toInt = a.toInt - b.toInt := by
  have := c_lsub a b; have := rng64 (a - b); omega
theorem own_lmul {a b : Int64} (h : (a.toInt * b.toInt).natAbs < 9223372036854775808) : (a * b).toInt = a.toInt * b.toInt := by
  have := c_lmul a b; have := rng64 (a * b); omega
theorem own_short (x : Int32) : (x.toInt16.toInt32).toInt.natAbs ≤ 32768 := by
  have := c_i2s x; omega
theorem own_and3 (x : Int32) : (x &&& 3) = 0 ∨ (x &&& 3) = 1 ∨ (x &&& 3) = 2 ∨ (x &&& 3) = 3 := by
  have h := c_and x 3 (by decide)
  have e : (3 : Int32).toInt = 3 := by decide
  simp only [← Int32.toInt_inj]
  rw [show (0 : Int32).toInt = 0 from by decide, show (1 : Int32).toInt = 1 from by decide, show (2 : Int32).toInt = 2 from by decide, e]
  omega
end OwnN
end Jvm.RoadKit
namespace Jvm.RoadKit
open Jvm.FP Jvm.Free.Fl Op
theorem own_fin_le {x : UInt64} (h : Fin64 x) (o : ClassFile.CmpOp) : ∃ v : Int32, cmpValue (FP.dcmp (x &&& 9223372036854775807) 9218868437227405311) o = v ∧ ¬ (0 : Int32) < v := by
  have q : relLe (FP.dcmp (x &&& 9223372036854775807) 9218868437227405311) = true := (le_max_iff h.noNaN).mpr h
  rcases hc : FP.dcmp (x &&& 9223372036854775807) 9218868437227405311 with _ | (_ | _ | _) <;> rw [hc] at q
  · exact absurd q (by decide)
  · exact ⟨-1, rfl, by decide⟩
  · exact ⟨0, rfl, by decide⟩
  · exact absurd q (by decide)
end Jvm.RoadKit
namespace Jvm.Pilot.@@N@@
open Jvm Jvm.ClassFile Sem Op Lib Jvm.Free Jvm.Stand Jvm.LawKit Jvm.RoadKit Jvm.FP Jvm.Free.Fl Bundle Jvm.Pilot.@@N@@.Jvm.D
def own_nz (f : Int32) (v : Int64) : Int32 := if ¬ f = 0 ∧ v = 0 then 1 else 0
theorem own_nz_y {f : Int32} {v : Int64} (h1 : ¬ f = 0) (h2 : v = 0) : own_nz f v = 1 := if_pos ⟨h1, h2⟩
theorem own_nz_f {f : Int32} {v : Int64} (h1 : f = 0) : own_nz f v = 0 := if_neg fun q => q.1 h1
theorem own_nz_n {f : Int32} {v : Int64} (h2 : ¬ v = 0) : own_nz f v = 0 := if_neg fun q => h2 q.2
theorem own_nz_01 (f : Int32) (v : Int64) : own_nz f v = 0 ∨ own_nz f v = 1 := by
  by_cases h : ¬ f = 0 ∧ v = 0
  · exact Or.inr (if_pos h)
  · exact Or.inl (if_neg h)
/-- the double that 'time' makes -/
def own_time (v : Int64) (f : Int32) : UInt64 := if own_nz f v = 1 then 9223372036854775808 else FP.l2d v
theorem own_time_y {v : Int64} {f : Int32} (h : own_nz f v = 1) : own_time v f = 9223372036854775808 := if_pos h
theorem own_time_n {v : Int64} {f : Int32} (h : own_nz f v = 0) : own_time v f = FP.l2d v := if_neg (by rw [h]; decide)
theorem own_negz : Core.DInt 0 9223372036854775808 := by
  show Core.Whole 0 (Core.val64 9223372036854775808)
  rw [show Core.val64 9223372036854775808 = .fin true 0 Core.b64.qmin from by decide +kernel]
  show Core.signed true (0 * 2 ^ Core.b64.qmin.toNat) = 0 * _
  rw [Nat.zero_mul, Core.signed_zero, Int.zero_mul]
theorem own_nz_zero {v : Int64} {f : Int32} (h : own_nz f v = 1) : v = 0 := by
  by_cases q : v = 0
  · exact q
  · rw [own_nz_n q] at h; exact absurd h (by decide)
theorem own_time_int {v : Int64} {f : Int32} (hv : v.toInt.natAbs ≤ 2 ^ 53) : Core.DInt v.toInt (own_time v f) := by
  rcases own_nz_01 f v with h | h
  · rw [own_time_n h]; exact DInt_l2d rfl hv
  · rw [own_time_y h, own_nz_zero h]; exact own_negz
theorem own_l2d_ne {v : Int64} (h : v.toInt.natAbs ≤ 2 ^ 53) (hv : v = 0) : FP.l2d v ≠ 9223372036854775808 := by subst hv; rw [l2d_zero]; decide
theorem own_time_eq {v w : Int64} {f g : Int32} (hv : v = w) (h : own_nz f v = own_nz g w) : own_time v f = own_time w g := by
  subst hv
  rcases own_nz_01 f v with q | q
  · rw [own_time_n q, own_time_n (h ▸ q)]
  · rw [own_time_y q, own_time_y (h ▸ q)]
theorem own_time_ne1 {v w : Int64} {f g : Int32} (bv : v.toInt.natAbs ≤ 2 ^ 53) (bw : w.toInt.natAbs ≤ 2 ^ 53) (hv : ¬ v = w) : own_time v f ≠ own_time w g := fun q => by
  have h1 : Core.DInt v.toInt (own_time v f) := own_time_int bv
  have h2 : Core.DInt w.toInt (own_time w g) := own_time_int bw
  rw [← q] at h2
  have h3 := Core.DInt_zval h1
  rw [Core.DInt_zval h2] at h3
  have hp : ((Core.one64 : Nat) : Int) ≠ 0 := by have := Core.one64_pos; omega
  exact hv (Int64.toInt_inj.mp (Int.eq_of_mul_eq_mul_right hp h3.symm))
theorem own_time_ne2 {v w : Int64} {f g : Int32} (hv : v = w) (bv : v.toInt.natAbs ≤ 2 ^ 53) (h : ¬ own_nz f v = own_nz g w) : own_time v f ≠ own_time w g := by
  subst hv
  rcases own_nz_01 f v with q | q <;> rcases own_nz_01 g v with r | r
  · exact absurd (q.trans r.symm) h
  · rw [own_time_n q, own_time_y r]; exact own_l2d_ne bv (own_nz_zero r)
  · rw [own_time_y q, own_time_n r]; exact (own_l2d_ne bv (own_nz_zero q)).symm
  · exact absurd (q.trans r.symm) h
theorem own_bits_ne {x y : UInt64} (h : x ≠ y) : ¬ x.toInt64 = y.toInt64 := fun q => h (by have := congrArg Int64.toUInt64 q; simpa using this)
theorem own_cmpL_ne {x y : Int64} (h : ¬ x = y) : ∃ v : Int32, lcmpW x y = v ∧ ¬ v = 0 := by
  by_cases q : y.toInt < x.toInt
  · exact ⟨1, cmpL_gtI q, by decide⟩
  · exact ⟨-1, cmpL_lt (Int64.lt_iff_toInt_lt.mpr (by have : x.toInt ≠ y.toInt := fun r => h (Int64.toInt_inj.mp r); omega)), by decide⟩
section Cache
variable {Z : State} {h h' : Heap}
/-- Integer's cache, as the sheet's sets say it -/
def OwnCache (Z : State) (h : Heap) : Prop := Sta Z h "java/lang/Integer$IntegerCache" "high" "I" (.int 127) ∧ ∃ ca cl, Sta Z h "java/lang/Integer$IntegerCache" "cache" "[Ljava/lang/Integer;" (.ref ca) ∧ Arr Z h ca cl (.object "java/lang/Integer") ∧ cl.slots.size = 256 ∧ ∀ j : Int32, ¬ (j < 0 ∨ cl.slots.size ≤ j.toNatClampNeg) → ∃ r, cl.slots[j.toNatClampNeg]? = some (.ref r) ∧ Exa Z h r "java/lang/Integer"
theorem OwnCache.ext (F : OwnCache Z h) (E : Ext h h') : OwnCache Z h' := by
  obtain ⟨s1, ca, cl, s2, A, n, hr⟩ := F
  exact ⟨s1.ext E, ca, cl, s2.ext E, A.ext E, n, fun i hi => by obtain ⟨r, q1, q2⟩ := hr i hi; exact ⟨r, q1, q2.ext E⟩⟩
theorem own_ext {h0 : Heap} (K : Keep h0 h []) : Ext h0 h := ⟨K.1, fun a c q => K.2.1 a c q nin0⟩
end Cache
theorem own_notin {Z : State} {a0 : Array Value} {n : Nat} (w1 : (Jvm.Cond.superclass "java/lang/Integer" "java/lang/Number").before a0 Z = true) (w2 : (Jvm.Cond.superclass "java/lang/Number" "java/lang/Object").before a0 Z = true) (w3 : (Jvm.Cond.noSuperclass "java/lang/Object").before a0 Z = true) (wk : (Jvm.Cond.instantiable "com/example/gaugefit/gaugefit/core/Interval" n).before a0 Z = true) :
    ∃ c t, Z.vm.findClass "java/lang/Integer" = some c ∧ Z.vm.findClass "com/example/gaugefit/gaugefit/core/Interval" = some t ∧ Z.vm.assignable c t = false := by
  obtain ⟨t, kt, g0, g2, g5, g7, -⟩ := Cond.instantiable_spec wk
  have n0 : NS Z "java/lang/Object" "com/example/gaugefit/gaugefit/core/Interval" := by
    obtain ⟨c, k, h1, h2, h3, -, -⟩ := Cond.noSuperclass_spec w3
    have ne := ids_ne h1 g0 (by decide)
    refine ⟨c, t, h1, g0, fun fuel => ?_⟩
    cases fuel with
    | zero => rfl
    | succ f => simp [Vm.isSubclassAux, ne, h2, h3]
  obtain ⟨c, t', h0, g0', n3⟩ := NS.step w1 (NS.step w2 n0 (by decide)) (by decide)
  cases g0.symm.trans g0'
  obtain ⟨p, k, kp, h1, h2, h3, h4, h5, -, h7⟩ := Cond.superclass_spec h0 w1
  have ne := ids_ne h0 g0 (by decide)
  refine ⟨c, t, h0, g0, ?_⟩
  show Z.vm.assignableAux (255 + 1) c t = false
  have gi : kt.isInterface = false := by simpa using (Bool.or_eq_false_iff.mp g7).1
  simp [Vm.assignableAux, ne, h2, g2, h5, g5, gi, Vm.isSubclass, n3]
def own_fl (x : Int32) : Int32 := if x = 0 then 0 else 1
theorem own_fl_0 {x : Int32} (h : x = 0) : own_fl x = 0 := if_pos h
theorem own_fl_1 {x : Int32} (h : ¬ x = 0) : own_fl x = 1 := if_neg h
theorem own_len {args : Array Value} {first s : State} {o : Option Outcome} {idx : List Nat} {t : Term} {v : Value} {x : Addr} {cl : Cell} (ht : t.eval args first o idx s = some (.ref x)) (ha : s.arrayAt? x = some cl) (h : (Term.length t).eval args first o idx s = some v) : cl.slots.size < 2 ^ 31 := by
  by_cases q : cl.slots.size < 2 ^ 31
  · exact q
  · exfalso
    simp [Term.eval, ht, ha] at h
    omega
theorem own_sub {args : Array Value} {first s : State} {o : Option Outcome} {idx : List Nat} {a b : Term} {x y : Int32} (ha : a.eval args first o idx s = some (.int x)) (hb : b.eval args first o idx s = some (.int y)) : (Term.sub a b).eval args first o idx s = some (.int (x - y)) := by
  simp [Term.eval, ha, hb]
theorem pd0 : parseMethodDescriptor "(D)D" = some ⟨[.double], some .double⟩ := by decide +kernel
theorem d1_0 : decode method_2_code 0 = .ok (.iload_n 2, 1) := by decide +kernel
theorem d1_1 : decode method_2_code 1 = .ok (.ifCond .eq 13, 3) := by decide +kernel
theorem d1_4 : decode method_2_code 4 = .ok (.lload_n 0, 1) := by decide +kernel
theorem d1_5 : decode method_2_code 5 = .ok (.lconst 0, 1) := by decide +kernel
theorem d1_6 : decode method_2_code 6 = .ok (.lcmp, 1) := by decide +kernel
theorem d1_7 : decode method_2_code 7 = .ok (.ifCond .ne 7, 3) := by decide +kernel
theorem d1_10 : decode method_2_code 10 = .ok (.ldc2_w 7, 3) := by decide +kernel
theorem d1_13 : decode method_2_code 13 = .ok (.dreturn, 1) := by decide +kernel
theorem d1_14 : decode method_2_code 14 = .ok (.lload_n 0, 1) := by decide +kernel
theorem d1_15 : decode method_2_code 15 = .ok (.l2d, 1) := by decide +kernel
theorem d1_16 : decode method_2_code 16 = .ok (.dreturn, 1) := by decide +kernel
theorem pn0 : plainName "com/example/gaugefit/gaugefit/core/IntervalEqualsPinLaw" = true := by first | (simp [plainName, overriddenIn]; done) | decide +kernel
theorem pd1 : parseMethodDescriptor "(JZ)D" = some ⟨[.long, .boolean], some .double⟩ := by decide +kernel
theorem ef_rm_time (m : MethodId) (x0 : Int64) (x1 : Int32) : entryFrame m #[(.long x0), (.int x1)] 3 = mkF m 0 #[.val (.long x0), .second, .val (.int x1)] [] := by first | (simp [entryFrame, mkF, argsToLocals, Value.category, maxLocals]; done) | rfl
set_option maxRecDepth 65536 in
set_option maxHeartbeats 40000000 in
theorem rm_time (l : Launch) (Z : State) (a0 : Array Value) (hw : ∀ d ∈ tables_1, d.before a0 Z = true) (v : Int64) (f : Int32) (h0 : Heap) (n0 : Nat) (Z0 : n0 ≤ h0.size)  :
    Does l (⟨"com/example/gaugefit/gaugefit/core/IntervalEqualsPinLaw", "time", "(JZ)D"⟩ : MethodName) method_2_code 3 (some .double) [] ({ frames := 0, cells := 0, slots := 0, locals := 0 } : Room) Z #[(.long v), (.int f)] h0 (fun u h L => u = some (.double (own_time v f)) ∧ Fr n0 L ∧ h = h0) := by
  refine Does.of (plainFor_of_name pn0) ?_
  intro p e s m below meth c s₁ hx hby hml hret hlk hZ hown hnm X0 e0
  have N0 := Fr.nil n0
  refine Goes.cast (g' := mkF m 0 #[.val (.long v), .second, .val (.int f)] []) (ef_rm_time m v f) ?_
  refine Goes.by (T' := s₁) (g' := (mkF m 1 #[.val (.long v), .second, .val (.int f)] [(.int f)])) (fun _ k => XS.iloadN X0.here hx rfl (hb hby d1_0) rfl k) ?_
  by_cases hf : f = (0 : Int32)
  · refine Goes.by (T' := s₁) (g' := (mkF m 14 #[.val (.long v), .second, .val (.int f)] [])) (fun _ k => XS.ifYes X0.here hx rfl (pc0 := 1) (pc' := 14) rfl (hb hby d1_1) rfl ((if0 _ _).trans (teq hf).1) (by decide) (by decide) k) ?_
    refine Goes.by (T' := s₁) (g' := (mkF m 15 #[.val (.long v), .second, .val (.int f)] [(.long v)])) (fun _ k => XS.lloadN X0.here hx rfl (hb hby d1_14) rfl k) ?_
    obtain ⟨d, q_d⟩ : ∃ zz, FP.l2d v = zz := ⟨_, rfl⟩
    refine Goes.by (T' := s₁) (g' := (mkF m 16 #[.val (.long v), .second, .val (.int f)] [(.double d)])) (fun _ k => XS.l2dS X0.here hx rfl (hb hby d1_15) rfl q_d k) ?_
    subst q_d
    exact outD X0 hx hlk hret (hb hby d1_16) (by rw [e0]; exact ⟨by rw [own_time_n (own_nz_f hf)], N0, rfl⟩) (by decide) (by decide)
  · refine Goes.by (T' := s₁) (g' := (mkF m 4 #[.val (.long v), .second, .val (.int f)] [])) (fun _ k => XS.ifNo X0.here hx rfl (hb hby d1_1) rfl ((if0 _ _).trans (feq hf).1) k) ?_
    refine Goes.by (T' := s₁) (g' := (mkF m 5 #[.val (.long v), .second, .val (.int f)] [(.long v)])) (fun _ k => XS.lloadN X0.here hx rfl (hb hby d1_4) rfl k) ?_
    refine Goes.by (T' := s₁) (g' := (mkF m 6 #[.val (.long v), .second, .val (.int f)] [(.long (0 : Int64)), (.long v)])) (fun _ k => XS.lconst X0.here hx rfl (hb hby d1_5)  k) ?_
    by_cases hv : v = 0
    · refine Goes.by (T' := s₁) (g' := (mkF m 7 #[.val (.long v), .second, .val (.int f)] [(.int (0 : Int32))])) (fun _ k => XS.lcmpS X0.here hx rfl (hb hby d1_6) rfl (cmpL_eq hv) k) ?_
      refine Goes.by (T' := s₁) (g' := (mkF m 10 #[.val (.long v), .second, .val (.int f)] [])) (fun _ k => XS.ifNo X0.here hx rfl (hb hby d1_7) rfl (by decide) k) ?_
      refine Goes.by (T' := s₁) (g' := (mkF m 13 #[.val (.long v), .second, .val (.int f)] [(.double (9223372036854775808 : UInt64))])) (X0.ldc2DoubleC hx hown (mvT hZ (hw _ (List.mem_of_getElem? (i := 70) rfl))) (g := (mkF m 10 #[.val (.long v), .second, .val (.int f)] [])) rfl (hb hby d1_10)) ?_
      exact outD X0 hx hlk hret (hb hby d1_13) (by rw [e0]; exact ⟨by rw [own_time_y (own_nz_y hf hv)], N0, rfl⟩) (by decide) (by decide)
    · obtain ⟨cv, hcv, hcn⟩ := own_cmpL_ne hv
      refine Goes.by (T' := s₁) (g' := (mkF m 7 #[.val (.long v), .second, .val (.int f)] [(.int cv)])) (fun _ k => XS.lcmpS X0.here hx rfl (hb hby d1_6) rfl hcv k) ?_
      refine Goes.by (T' := s₁) (g' := (mkF m 14 #[.val (.long v), .second, .val (.int f)] [])) (fun _ k => XS.ifYes X0.here hx rfl (pc0 := 7) (pc' := 14) rfl (hb hby d1_7) rfl ((if0 _ _).trans (feq hcn).2) (by decide) (by decide) k) ?_
      refine Goes.by (T' := s₁) (g' := (mkF m 15 #[.val (.long v), .second, .val (.int f)] [(.long v)])) (fun _ k => XS.lloadN X0.here hx rfl (hb hby d1_14) rfl k) ?_
      obtain ⟨d, q_d⟩ : ∃ zz, FP.l2d v = zz := ⟨_, rfl⟩
      refine Goes.by (T' := s₁) (g' := (mkF m 16 #[.val (.long v), .second, .val (.int f)] [(.double d)])) (fun _ k => XS.l2dS X0.here hx rfl (hb hby d1_15) rfl q_d k) ?_
      subst q_d
      exact outD X0 hx hlk hret (hb hby d1_16) (by rw [e0]; exact ⟨by rw [own_time_n (own_nz_n hv)], N0, rfl⟩) (by decide) (by decide)
theorem d4_0 : decode jdk_117_method_8_code 0 = .ok (.dload_n 0, 1) := by decide +kernel
theorem d4_1 : decode jdk_117_method_8_code 1 = .ok (.invokestatic 38, 3) := by decide +kernel
theorem d4_4 : decode jdk_117_method_8_code 4 = .ok (.ldc2_w 111, 3) := by decide +kernel
theorem d4_7 : decode jdk_117_method_8_code 7 = .ok (.dcmp .g, 1) := by decide +kernel
theorem d4_8 : decode jdk_117_method_8_code 8 = .ok (.ifCond .gt 7, 3) := by decide +kernel
theorem d4_11 : decode jdk_117_method_8_code 11 = .ok (.iconst 1, 1) := by decide +kernel
theorem d4_12 : decode jdk_117_method_8_code 12 = .ok (.goto 4, 3) := by decide +kernel
theorem d4_15 : decode jdk_117_method_8_code 15 = .ok (.iconst 0, 1) := by decide +kernel
theorem d4_16 : decode jdk_117_method_8_code 16 = .ok (.ireturn, 1) := by decide +kernel
theorem pn1 : plainName "java/lang/Double" = true := by first | (simp [plainName, overriddenIn]; done) | decide +kernel
theorem pd2 : parseMethodDescriptor "(D)Z" = some ⟨[.double], some .boolean⟩ := by decide +kernel
theorem ef_rm_fin (m : MethodId) (x0 : UInt64) : entryFrame m #[(.double x0)] 2 = mkF m 0 #[.val (.double x0), .second] [] := by first | (simp [entryFrame, mkF, argsToLocals, Value.category, maxLocals]; done) | rfl
set_option maxRecDepth 65536 in
set_option maxHeartbeats 40000000 in
theorem rm_fin (l : Launch) (Z : State) (a0 : Array Value) (hw : ∀ d ∈ tables_1, d.before a0 Z = true) (x : UInt64) (h0 : Heap) (n0 : Nat) (Z0 : n0 ≤ h0.size) (FX : Fin64 x) :
    Does l (⟨"java/lang/Double", "isFinite", "(D)Z"⟩ : MethodName) jdk_117_method_8_code 2 (some .boolean) [] ({ frames := 1, cells := 0, slots := 0, locals := 13 } : Room) Z #[(.double x)] h0 (fun v h L => v = some (.int 1) ∧ Fr n0 L ∧ h = h0) := by
  refine Does.of (plainFor_of_name pn1) ?_
  intro p e s m below meth c s₁ hx hby hml hret hlk hZ hown hnm X0 e0
  have N0 := Fr.nil n0
  refine Goes.cast (g' := mkF m 0 #[.val (.double x), .second] []) (ef_rm_fin m x) ?_
  refine Goes.by (T' := s₁) (g' := (mkF m 1 #[.val (.double x), .second] [(.double x)])) (fun _ k => XS.dloadN X0.here hx rfl (hb hby d4_0) rfl k) ?_
  obtain ⟨T1, X1, e1, st1⟩ := natS X0 hx hZ hown (hw _ (List.mem_of_getElem? (i := 17) rfl)) (hw _ (List.mem_of_getElem? (i := 18) rfl)) (hw _ (List.mem_of_getElem? (i := 19) rfl)) (hw _ (List.mem_of_getElem? (i := 20) rfl)) (by decide) e0 (W := 0) (fun hc => Abs.absD_pays x hc (by decide) (by decide)) (g := (mkF m 1 #[.val (.double x), .second] [(.double x)])) rfl (by rw [hml]; rfl) (argsL := [(.double x)]) (rest := []) (lenOf pd0 rfl) rfl (by show 2 * 0 + _ ≤ _; exact Nat.le_of_eq rfl) (hb hby d4_1) (by decide) (by decide) ⟨rfl, FX.noNaN⟩ rfl
  refine Goes.by (T' := T1) (g' := (mkF m 4 #[.val (.double x), .second] [(.double (x &&& 9223372036854775807))])) st1 ?_
  refine Goes.by (T' := T1) (g' := (mkF m 7 #[.val (.double x), .second] [(.double (9218868437227405311 : UInt64)), (.double (x &&& 9223372036854775807))])) (X1.ldc2DoubleC hx hown (mvT hZ (hw _ (List.mem_of_getElem? (i := 21) rfl))) (g := (mkF m 4 #[.val (.double x), .second] [(.double (x &&& 9223372036854775807))])) rfl (hb hby d4_4)) ?_
  obtain ⟨cv, hv, hn⟩ := own_fin_le FX .g
  refine Goes.by (T' := T1) (g' := (mkF m 8 #[.val (.double x), .second] [(.int cv)])) (fun _ k => XS.dcmpS X1.here hx rfl (hb hby d4_7) rfl hv k) ?_
  refine Goes.by (T' := T1) (g' := (mkF m 11 #[.val (.double x), .second] [])) (fun _ k => XS.ifNo X1.here hx rfl (hb hby d4_8) rfl ((if0 _ _).trans (flt hn).2.2.1) k) ?_
  refine Goes.by (T' := T1) (g' := (mkF m 12 #[.val (.double x), .second] [(.int (1 : Int32))])) (fun _ k => XS.iconst X1.here hx rfl (hb hby d4_11)  k) ?_
  refine Goes.by (T' := T1) (g' := (mkF m 16 #[.val (.double x), .second] [(.int (1 : Int32))])) (fun _ k => XS.goto X1.here hx rfl (pc0 := 12) (pc' := 16) rfl (hb hby d4_12) (by decide) (by decide) k) ?_
  exact outZ X1 hx hlk hret (hb hby d4_16) (by rw [e1]; exact ⟨rfl, N0, rfl⟩) (by decide) (by decide)
theorem d2_0 : decode prog_9_method_1_code 0 = .ok (.aload_n 0, 1) := by decide +kernel
theorem d2_1 : decode prog_9_method_1_code 1 = .ok (.invokespecial 1, 3) := by decide +kernel
theorem d2_4 : decode prog_9_method_1_code 4 = .ok (.dload_n 1, 1) := by decide +kernel
theorem d2_5 : decode prog_9_method_1_code 5 = .ok (.invokestatic 7, 3) := by decide +kernel
theorem d2_8 : decode prog_9_method_1_code 8 = .ok (.ifCond .eq 10, 3) := by decide +kernel
theorem d2_11 : decode prog_9_method_1_code 11 = .ok (.dload_n 3, 1) := by decide +kernel
theorem d2_12 : decode prog_9_method_1_code 12 = .ok (.invokestatic 7, 3) := by decide +kernel
theorem d2_15 : decode prog_9_method_1_code 15 = .ok (.ifCond .ne 18, 3) := by decide +kernel
theorem d2_18 : decode prog_9_method_1_code 18 = .ok (.new 13, 3) := by decide +kernel
theorem d2_21 : decode prog_9_method_1_code 21 = .ok (.dup, 1) := by decide +kernel
theorem d2_22 : decode prog_9_method_1_code 22 = .ok (.dload_n 1, 1) := by decide +kernel
theorem d2_23 : decode prog_9_method_1_code 23 = .ok (.dload_n 3, 1) := by decide +kernel
theorem d2_29 : decode prog_9_method_1_code 29 = .ok (.invokespecial 19, 3) := by decide +kernel
theorem d2_32 : decode prog_9_method_1_code 32 = .ok (.athrow, 1) := by decide +kernel
theorem d2_33 : decode prog_9_method_1_code 33 = .ok (.dload_n 1, 1) := by decide +kernel
theorem d2_34 : decode prog_9_method_1_code 34 = .ok (.dload_n 3, 1) := by decide +kernel
theorem d2_35 : decode prog_9_method_1_code 35 = .ok (.dcmp .g, 1) := by decide +kernel
theorem d2_36 : decode prog_9_method_1_code 36 = .ok (.ifCond .lt 18, 3) := by decide +kernel
theorem d2_39 : decode prog_9_method_1_code 39 = .ok (.new 13, 3) := by decide +kernel
theorem d2_42 : decode prog_9_method_1_code 42 = .ok (.dup, 1) := by decide +kernel
theorem d2_43 : decode prog_9_method_1_code 43 = .ok (.dload_n 3, 1) := by decide +kernel
theorem d2_44 : decode prog_9_method_1_code 44 = .ok (.dload_n 1, 1) := by decide +kernel
theorem d2_50 : decode prog_9_method_1_code 50 = .ok (.invokespecial 19, 3) := by decide +kernel
theorem d2_53 : decode prog_9_method_1_code 53 = .ok (.athrow, 1) := by decide +kernel
theorem d2_54 : decode prog_9_method_1_code 54 = .ok (.aload_n 0, 1) := by decide +kernel
theorem d2_55 : decode prog_9_method_1_code 55 = .ok (.dload_n 1, 1) := by decide +kernel
theorem d2_56 : decode prog_9_method_1_code 56 = .ok (.putfield 23, 3) := by decide +kernel
theorem d2_59 : decode prog_9_method_1_code 59 = .ok (.aload_n 0, 1) := by decide +kernel
theorem d2_60 : decode prog_9_method_1_code 60 = .ok (.dload_n 3, 1) := by decide +kernel
theorem d2_61 : decode prog_9_method_1_code 61 = .ok (.putfield 29, 3) := by decide +kernel
theorem d2_64 : decode prog_9_method_1_code 64 = .ok (.return_, 1) := by decide +kernel
theorem pn2 : plainName "com/example/gaugefit/gaugefit/core/Interval" = true := by first | (simp [plainName, overriddenIn]; done) | decide +kernel
theorem pd3 : parseMethodDescriptor "(DD)V" = some ⟨[.double, .double], none⟩ := by decide +kernel
theorem ef_rm_init (m : MethodId) (x0 : Addr) (x1 : UInt64) (x2 : UInt64) : entryFrame m #[(.ref x0), (.double x1), (.double x2)] 5 = mkF m 0 #[.val (.ref x0), .val (.double x1), .second, .val (.double x2), .second] [] := by first | (simp [entryFrame, mkF, argsToLocals, Value.category, maxLocals]; done) | rfl
set_option maxRecDepth 65536 in
set_option maxHeartbeats 40000000 in
theorem rm_init (l : Launch) (Z : State) (a0 : Array Value) (hw : ∀ d ∈ tables_1, d.before a0 Z = true) (a : Addr) (u0 u1 : UInt64) (m0 m1 : Int) (h0 : Heap) (n0 : Nat) (Z0 : n0 ≤ h0.size) (EA : Exa Z h0 a "com/example/gaugefit/gaugefit/core/Interval") (F_begin_a : Fld Z h0 a "com/example/gaugefit/gaugefit/core/Interval" "begin" "D" (.double (0 : UInt64))) (F_end_a : Fld Z h0 a "com/example/gaugefit/gaugefit/core/Interval" "end" "D" (.double (0 : UInt64))) (ga : n0 ≤ a) (U0 : Core.DInt m0 u0) (U1 : Core.DInt m1 u1) (hlt : m0 < m1) :
    Does l (⟨"com/example/gaugefit/gaugefit/core/Interval", "<init>", "(DD)V"⟩ : MethodName) prog_9_method_1_code 5 none [] ({ frames := 2, cells := 0, slots := 0, locals := 26 } : Room) Z #[(.ref a), (.double u0), (.double u1)] h0 (fun v h L => v = none ∧ Fld Z h a "com/example/gaugefit/gaugefit/core/Interval" "begin" "D" (.double u0) ∧ Fld Z h a "com/example/gaugefit/gaugefit/core/Interval" "end" "D" (.double u1) ∧ Keep h0 h [a] ∧ Fr n0 L) := by
  refine Does.of (plainFor_of_name pn2) ?_
  intro p e s m below meth c s₁ hx hby hml hret hlk hZ hown hnm X0 e0
  have N0 := Fr.nil n0
  refine Goes.cast (g' := mkF m 0 #[.val (.ref a), .val (.double u0), .second, .val (.double u1), .second] []) (ef_rm_init m a u0 u1) ?_
  have K0 := Keep.refl h0 [a]
  refine Goes.by (T' := s₁) (g' := (mkF m 1 #[.val (.ref a), .val (.double u0), .second, .val (.double u1), .second] [(.ref a)])) (fun _ k => XS.aloadN X0.here hx rfl (hb hby d2_0) rfl rfl k) ?_
  obtain ⟨T2, X2, e2, st2⟩ := initO X0 hx hZ hown (hw _ (List.mem_of_getElem? (i := 10) rfl)) (hw _ (List.mem_of_getElem? (i := 11) rfl)) (hw _ (List.mem_of_getElem? (i := 12) rfl)) e0 (g := (mkF m 1 #[.val (.ref a), .val (.double u0), .second, .val (.double u1), .second] [(.ref a)])) rfl (by rw [hml]; rfl) rfl (hb hby d2_1) (by decide) (W := 0) (by show 2 * 0 + _ ≤ _; exact Nat.le_of_eq rfl) (by decide)
  refine Goes.by (T' := T2) (g' := (mkF m 4 #[.val (.ref a), .val (.double u0), .second, .val (.double u1), .second] [])) st2 ?_
  refine Goes.by (T' := T2) (g' := (mkF m 5 #[.val (.ref a), .val (.double u0), .second, .val (.double u1), .second] [(.double u0)])) (fun _ k => XS.dloadN X2.here hx rfl (hb hby d2_4) rfl k) ?_
  obtain ⟨v3, T3, L3, X3, hQ3, st3⟩ := callC X2 hx hZ (y := (⟨"java/lang/Double", "isFinite", "(D)Z"⟩ : MethodName)) hown (hw _ (List.mem_of_getElem? (i := 13) rfl)) (hw _ (List.mem_of_getElem? (i := 14) rfl)) (hw _ (List.mem_of_getElem? (i := 16) rfl)) (hw _ (List.mem_of_getElem? (i := 15) rfl)) (by decide) e2 (argsL := [(.double u0)]) (rest := []) (W := 0) (rm_fin l Z a0 hw u0 h0 n0 Z0 (DInt_fin U0)) rfl (by decide) (by decide) (by decide) (by decide) (g := (mkF m 5 #[.val (.ref a), .val (.double u0), .second, .val (.double u1), .second] [(.double u0)])) rfl (by rw [hml]; rfl) (lenOf pd2 rfl) rfl (by show 2 * 0 + _ ≤ _; exact Nat.le_of_eq rfl) (hb hby d2_5)
  obtain ⟨rfl, NL3, hk3⟩ := hQ3
  have N0 := Fr.app N0 NL3
  refine Goes.by (T' := T3) (g' := (mkF m 8 #[.val (.ref a), .val (.double u0), .second, .val (.double u1), .second] [(.int (1 : Int32))])) st3 ?_
  refine Goes.by (T' := T3) (g' := (mkF m 11 #[.val (.ref a), .val (.double u0), .second, .val (.double u1), .second] [])) (fun _ k => XS.ifNo X3.here hx rfl (hb hby d2_8) rfl (by decide) k) ?_
  refine Goes.by (T' := T3) (g' := (mkF m 12 #[.val (.ref a), .val (.double u0), .second, .val (.double u1), .second] [(.double u1)])) (fun _ k => XS.dloadN X3.here hx rfl (hb hby d2_11) rfl k) ?_
  obtain ⟨v4, T4, L4, X4, hQ4, st4⟩ := callC X3 hx hZ (y := (⟨"java/lang/Double", "isFinite", "(D)Z"⟩ : MethodName)) hown (hw _ (List.mem_of_getElem? (i := 13) rfl)) (hw _ (List.mem_of_getElem? (i := 14) rfl)) (hw _ (List.mem_of_getElem? (i := 16) rfl)) (hw _ (List.mem_of_getElem? (i := 15) rfl)) (by decide) hk3 (argsL := [(.double u1)]) (rest := []) (W := 0) (rm_fin l Z a0 hw u1 h0 n0 Z0 (DInt_fin U1)) rfl (by decide) (by decide) (by decide) (by decide) (g := (mkF m 12 #[.val (.ref a), .val (.double u0), .second, .val (.double u1), .second] [(.double u1)])) rfl (by rw [hml]; rfl) (lenOf pd2 rfl) rfl (by show 2 * 0 + _ ≤ _; exact Nat.le_of_eq rfl) (hb hby d2_12)
  obtain ⟨rfl, NL4, hk4⟩ := hQ4
  have N0 := Fr.app N0 NL4
  refine Goes.by (T' := T4) (g' := (mkF m 15 #[.val (.ref a), .val (.double u0), .second, .val (.double u1), .second] [(.int (1 : Int32))])) st4 ?_
  refine Goes.by (T' := T4) (g' := (mkF m 33 #[.val (.ref a), .val (.double u0), .second, .val (.double u1), .second] [])) (fun _ k => XS.ifYes X4.here hx rfl (pc0 := 15) (pc' := 33) rfl (hb hby d2_15) rfl (by decide) (by decide) (by decide) k) ?_
  refine Goes.by (T' := T4) (g' := (mkF m 34 #[.val (.ref a), .val (.double u0), .second, .val (.double u1), .second] [(.double u0)])) (fun _ k => XS.dloadN X4.here hx rfl (hb hby d2_33) rfl k) ?_
  refine Goes.by (T' := T4) (g' := (mkF m 35 #[.val (.ref a), .val (.double u0), .second, .val (.double u1), .second] [(.double u1), (.double u0)])) (fun _ k => XS.dloadN X4.here hx rfl (hb hby d2_34) rfl k) ?_
  refine Goes.by (T' := T4) (g' := (mkF m 36 #[.val (.ref a), .val (.double u0), .second, .val (.double u1), .second] [(.int (-1 : Int32))])) (fun _ k => XS.dcmpS X4.here hx rfl (hb hby d2_35) rfl (cmpD_lt U0 U1 hlt _) k) ?_
  refine Goes.by (T' := T4) (g' := (mkF m 54 #[.val (.ref a), .val (.double u0), .second, .val (.double u1), .second] [])) (fun _ k => XS.ifYes X4.here hx rfl (pc0 := 36) (pc' := 54) rfl (hb hby d2_36) rfl (by decide) (by decide) (by decide) k) ?_
  refine Goes.by (T' := T4) (g' := (mkF m 55 #[.val (.ref a), .val (.double u0), .second, .val (.double u1), .second] [(.ref a)])) (fun _ k => XS.aloadN X4.here hx rfl (hb hby d2_54) rfl rfl k) ?_
  refine Goes.by (T' := T4) (g' := (mkF m 56 #[.val (.ref a), .val (.double u0), .second, .val (.double u1), .second] [(.double u0), (.ref a)])) (fun _ k => XS.dloadN X4.here hx rfl (hb hby d2_55) rfl k) ?_
  obtain ⟨T5, h5, X5, e5, W5, st5⟩ := putF X4 hx hZ hown (host := "") (Or.inl (hw _ (List.mem_of_getElem? (i := 22) rfl))) Via.refl hk4 F_begin_a EA (Or.inr ⟨(hw _ (List.mem_of_getElem? (i := 23) rfl)), rfl, hnm⟩) (hw _ (List.mem_of_getElem? (i := 1) rfl)) (ty := .double) (by decide) rfl rfl (g := (mkF m 56 #[.val (.ref a), .val (.double u0), .second, .val (.double u1), .second] [(.double u0), (.ref a)])) rfl rfl (hb hby d2_56)
  have N0 := Fr.snoc X5 N0 ga
  have EA := EA.wr W5
  have F_begin_a := F_begin_a.same W5
  have F_end_a := F_end_a.other W5 (Or.inr (slot_ne (t := .double) (t' := .double) (Or.inr (hw _ (List.mem_of_getElem? (i := 25) rfl))) (Or.inr (hw _ (List.mem_of_getElem? (i := 23) rfl))) (by decide) (by decide) (by decide)))
  have Z0 := Nat.le_trans Z0 (Nat.le_of_eq W5.size.symm)
  have K0 := K0.wr W5 (Or.inl (List.mem_singleton.mpr rfl))
  refine Goes.by (T' := T5) (g' := (mkF m 59 #[.val (.ref a), .val (.double u0), .second, .val (.double u1), .second] [])) st5 ?_
  refine Goes.by (T' := T5) (g' := (mkF m 60 #[.val (.ref a), .val (.double u0), .second, .val (.double u1), .second] [(.ref a)])) (fun _ k => XS.aloadN X5.here hx rfl (hb hby d2_59) rfl rfl k) ?_
  refine Goes.by (T' := T5) (g' := (mkF m 61 #[.val (.ref a), .val (.double u0), .second, .val (.double u1), .second] [(.double u1), (.ref a)])) (fun _ k => XS.dloadN X5.here hx rfl (hb hby d2_60) rfl k) ?_
  obtain ⟨T6, h6, X6, e6, W6, st6⟩ := putF X5 hx hZ hown (host := "") (Or.inl (hw _ (List.mem_of_getElem? (i := 24) rfl))) Via.refl e5 F_end_a EA (Or.inr ⟨(hw _ (List.mem_of_getElem? (i := 25) rfl)), rfl, hnm⟩) (hw _ (List.mem_of_getElem? (i := 1) rfl)) (ty := .double) (by decide) rfl rfl (g := (mkF m 61 #[.val (.ref a), .val (.double u0), .second, .val (.double u1), .second] [(.double u1), (.ref a)])) rfl rfl (hb hby d2_61)
  have N0 := Fr.snoc X6 N0 ga
  have EA := EA.wr W6
  have F_begin_a := F_begin_a.other W6 (Or.inr (slot_ne (t := .double) (t' := .double) (Or.inr (hw _ (List.mem_of_getElem? (i := 23) rfl))) (Or.inr (hw _ (List.mem_of_getElem? (i := 25) rfl))) (by decide) (by decide) (by decide)))
  have F_end_a := F_end_a.same W6
  have Z0 := Nat.le_trans Z0 (Nat.le_of_eq W6.size.symm)
  have K0 := K0.wr W6 (Or.inl (List.mem_singleton.mpr rfl))
  refine Goes.by (T' := T6) (g' := (mkF m 64 #[.val (.ref a), .val (.double u0), .second, .val (.double u1), .second] [])) st6 ?_
  exact outV X6 hx hlk hret (hb hby d2_64) (by rw [e6]; exact ⟨rfl, F_begin_a, F_end_a, K0, N0⟩) (by decide) (by decide)
theorem d10_0 : decode jdk_117_method_6_code 0 = .ok (.dload_n 0, 1) := by decide +kernel
theorem d10_1 : decode jdk_117_method_6_code 1 = .ok (.dload_n 0, 1) := by decide +kernel
theorem d10_2 : decode jdk_117_method_6_code 2 = .ok (.dcmp .l, 1) := by decide +kernel
theorem d10_3 : decode jdk_117_method_6_code 3 = .ok (.ifCond .eq 7, 3) := by decide +kernel
theorem d10_6 : decode jdk_117_method_6_code 6 = .ok (.iconst 1, 1) := by decide +kernel
theorem d10_7 : decode jdk_117_method_6_code 7 = .ok (.goto 4, 3) := by decide +kernel
theorem d10_10 : decode jdk_117_method_6_code 10 = .ok (.iconst 0, 1) := by decide +kernel
theorem d10_11 : decode jdk_117_method_6_code 11 = .ok (.ireturn, 1) := by decide +kernel
theorem ef_rm_nan (m : MethodId) (x0 : UInt64) : entryFrame m #[(.double x0)] 2 = mkF m 0 #[.val (.double x0), .second] [] := by first | (simp [entryFrame, mkF, argsToLocals, Value.category, maxLocals]; done) | rfl
set_option maxRecDepth 65536 in
set_option maxHeartbeats 40000000 in
theorem rm_nan (l : Launch) (Z : State) (a0 : Array Value) (hw : ∀ d ∈ tables_1, d.before a0 Z = true) (x : UInt64) (h0 : Heap) (n0 : Nat) (Z0 : n0 ≤ h0.size) (NX : NoNaN64 x) :
    Does l (⟨"java/lang/Double", "isNaN", "(D)Z"⟩ : MethodName) jdk_117_method_6_code 2 (some .boolean) [] ({ frames := 0, cells := 0, slots := 0, locals := 0 } : Room) Z #[(.double x)] h0 (fun v h L => v = some (.int 0) ∧ Fr n0 L ∧ h = h0) := by
  refine Does.of (plainFor_of_name pn1) ?_
  intro p e s m below meth c s₁ hx hby hml hret hlk hZ hown hnm X0 e0
  have N0 := Fr.nil n0
  refine Goes.cast (g' := mkF m 0 #[.val (.double x), .second] []) (ef_rm_nan m x) ?_
  refine Goes.by (T' := s₁) (g' := (mkF m 1 #[.val (.double x), .second] [(.double x)])) (fun _ k => XS.dloadN X0.here hx rfl (hb hby d10_0) rfl k) ?_
  refine Goes.by (T' := s₁) (g' := (mkF m 2 #[.val (.double x), .second] [(.double x), (.double x)])) (fun _ k => XS.dloadN X0.here hx rfl (hb hby d10_1) rfl k) ?_
  refine Goes.by (T' := s₁) (g' := (mkF m 3 #[.val (.double x), .second] [(.int (0 : Int32))])) (fun _ k => XS.dcmpS X0.here hx rfl (hb hby d10_2) rfl (dcmpV_self NX _) k) ?_
  refine Goes.by (T' := s₁) (g' := (mkF m 10 #[.val (.double x), .second] [])) (fun _ k => XS.ifYes X0.here hx rfl (pc0 := 3) (pc' := 10) rfl (hb hby d10_3) rfl (by decide) (by decide) (by decide) k) ?_
  refine Goes.by (T' := s₁) (g' := (mkF m 11 #[.val (.double x), .second] [(.int (0 : Int32))])) (fun _ k => XS.iconst X0.here hx rfl (hb hby d10_10)  k) ?_
  exact outZ X0 hx hlk hret (hb hby d10_11) (by rw [e0]; exact ⟨rfl, N0, rfl⟩) (by decide) (by decide)
theorem d9_0 : decode jdk_117_method_23_code 0 = .ok (.dload_n 0, 1) := by decide +kernel
theorem d9_1 : decode jdk_117_method_23_code 1 = .ok (.invokestatic 122, 3) := by decide +kernel
theorem d9_4 : decode jdk_117_method_23_code 4 = .ok (.ifCond .ne 8, 3) := by decide +kernel
theorem d9_7 : decode jdk_117_method_23_code 7 = .ok (.dload_n 0, 1) := by decide +kernel
theorem d9_8 : decode jdk_117_method_23_code 8 = .ok (.invokestatic 134, 3) := by decide +kernel
theorem d9_11 : decode jdk_117_method_23_code 11 = .ok (.lreturn, 1) := by decide +kernel
theorem d9_12 : decode jdk_117_method_23_code 12 = .ok (.ldc2_w 137, 3) := by decide +kernel
theorem d9_15 : decode jdk_117_method_23_code 15 = .ok (.lreturn, 1) := by decide +kernel
theorem pd4 : parseMethodDescriptor "(D)J" = some ⟨[.double], some .long⟩ := by decide +kernel
theorem ef_rm_bits (m : MethodId) (x0 : UInt64) : entryFrame m #[(.double x0)] 2 = mkF m 0 #[.val (.double x0), .second] [] := by first | (simp [entryFrame, mkF, argsToLocals, Value.category, maxLocals]; done) | rfl
set_option maxRecDepth 65536 in
set_option maxHeartbeats 40000000 in
theorem rm_bits (l : Launch) (Z : State) (a0 : Array Value) (hw : ∀ d ∈ tables_1, d.before a0 Z = true) (x : UInt64) (h0 : Heap) (n0 : Nat) (Z0 : n0 ≤ h0.size) (NX : NoNaN64 x) :
    Does l (⟨"java/lang/Double", "doubleToLongBits", "(D)J"⟩ : MethodName) jdk_117_method_23_code 2 (some .long) [] ({ frames := 1, cells := 0, slots := 0, locals := 15 } : Room) Z #[(.double x)] h0 (fun v h L => v = some (.long x.toInt64) ∧ Fr n0 L ∧ h = h0) := by
  refine Does.of (plainFor_of_name pn1) ?_
  intro p e s m below meth c s₁ hx hby hml hret hlk hZ hown hnm X0 e0
  have N0 := Fr.nil n0
  refine Goes.cast (g' := mkF m 0 #[.val (.double x), .second] []) (ef_rm_bits m x) ?_
  refine Goes.by (T' := s₁) (g' := (mkF m 1 #[.val (.double x), .second] [(.double x)])) (fun _ k => XS.dloadN X0.here hx rfl (hb hby d9_0) rfl k) ?_
  obtain ⟨v7, T7, L7, X7, hQ7, st7⟩ := callC X0 hx hZ (y := (⟨"java/lang/Double", "isNaN", "(D)Z"⟩ : MethodName)) hown (hw _ (List.mem_of_getElem? (i := 46) rfl)) (hw _ (List.mem_of_getElem? (i := 47) rfl)) (hw _ (List.mem_of_getElem? (i := 48) rfl)) (hw _ (List.mem_of_getElem? (i := 15) rfl)) (by decide) e0 (argsL := [(.double x)]) (rest := []) (W := 0) (rm_nan l Z a0 hw x h0 n0 Z0 NX) rfl (by decide) (by decide) (by decide) (by decide) (g := (mkF m 1 #[.val (.double x), .second] [(.double x)])) rfl (by rw [hml]; rfl) (lenOf pd2 rfl) rfl (by show 2 * 0 + _ ≤ _; exact Nat.le_of_eq rfl) (hb hby d9_1)
  obtain ⟨rfl, NL7, hk7⟩ := hQ7
  have N0 := Fr.app N0 NL7
  refine Goes.by (T' := T7) (g' := (mkF m 4 #[.val (.double x), .second] [(.int (0 : Int32))])) st7 ?_
  refine Goes.by (T' := T7) (g' := (mkF m 7 #[.val (.double x), .second] [])) (fun _ k => XS.ifNo X7.here hx rfl (hb hby d9_4) rfl (by decide) k) ?_
  refine Goes.by (T' := T7) (g' := (mkF m 8 #[.val (.double x), .second] [(.double x)])) (fun _ k => XS.dloadN X7.here hx rfl (hb hby d9_7) rfl k) ?_
  obtain ⟨vm8, X8, st8⟩ := X7.doubleToRawLongBits hx hown (mvT hZ (hw _ (List.mem_of_getElem? (i := 49) rfl))) (mvT hZ (hw _ (List.mem_of_getElem? (i := 51) rfl))) (mvT hZ (hw _ (List.mem_of_getElem? (i := 50) rfl))) (mvT hZ (hw _ (List.mem_of_getElem? (i := 15) rfl))) (g := (mkF m 8 #[.val (.double x), .second] [(.double x)])) rfl (by rw [hml]; rfl) rfl (hb hby d9_8) (by decide) (by show 2 * 0 + 0 + (nativeFrameWords "java/lang/Double" "doubleToRawLongBits" 2 + 11) ≤ _; decide +kernel)
  have e8 : (T7.setVm vm8).heap = h0 := hk7
  refine Goes.by (T' := (T7.setVm vm8)) (g' := (mkF m 11 #[.val (.double x), .second] [(.long (x).toInt64)])) st8 ?_
  exact outJ X8 hx hlk hret (hb hby d9_11) (by rw [e8]; exact ⟨rfl, N0, rfl⟩) (by decide) (by decide)
theorem d8_0 : decode jdk_117_method_27_code 0 = .ok (.dload_n 0, 1) := by decide +kernel
theorem d8_1 : decode jdk_117_method_27_code 1 = .ok (.dload_n 2, 1) := by decide +kernel
theorem d8_2 : decode jdk_117_method_27_code 2 = .ok (.dcmp .g, 1) := by decide +kernel
theorem d8_3 : decode jdk_117_method_27_code 3 = .ok (.ifCond .ge 5, 3) := by decide +kernel
theorem d8_6 : decode jdk_117_method_27_code 6 = .ok (.iconst (-1), 1) := by decide +kernel
theorem d8_7 : decode jdk_117_method_27_code 7 = .ok (.ireturn, 1) := by decide +kernel
theorem d8_8 : decode jdk_117_method_27_code 8 = .ok (.dload_n 0, 1) := by decide +kernel
theorem d8_9 : decode jdk_117_method_27_code 9 = .ok (.dload_n 2, 1) := by decide +kernel
theorem d8_10 : decode jdk_117_method_27_code 10 = .ok (.dcmp .l, 1) := by decide +kernel
theorem d8_11 : decode jdk_117_method_27_code 11 = .ok (.ifCond .le 5, 3) := by decide +kernel
theorem d8_14 : decode jdk_117_method_27_code 14 = .ok (.iconst 1, 1) := by decide +kernel
theorem d8_15 : decode jdk_117_method_27_code 15 = .ok (.ireturn, 1) := by decide +kernel
theorem d8_16 : decode jdk_117_method_27_code 16 = .ok (.dload_n 0, 1) := by decide +kernel
theorem d8_17 : decode jdk_117_method_27_code 17 = .ok (.invokestatic 46, 3) := by decide +kernel
theorem d8_20 : decode jdk_117_method_27_code 20 = .ok (.lstore 4, 2) := by decide +kernel
theorem d8_22 : decode jdk_117_method_27_code 22 = .ok (.dload_n 2, 1) := by decide +kernel
theorem d8_23 : decode jdk_117_method_27_code 23 = .ok (.invokestatic 46, 3) := by decide +kernel
theorem d8_26 : decode jdk_117_method_27_code 26 = .ok (.lstore 6, 2) := by decide +kernel
theorem d8_28 : decode jdk_117_method_27_code 28 = .ok (.lload 4, 2) := by decide +kernel
theorem d8_30 : decode jdk_117_method_27_code 30 = .ok (.lload 6, 2) := by decide +kernel
theorem d8_32 : decode jdk_117_method_27_code 32 = .ok (.lcmp, 1) := by decide +kernel
theorem d8_33 : decode jdk_117_method_27_code 33 = .ok (.ifCond .ne 7, 3) := by decide +kernel
theorem d8_36 : decode jdk_117_method_27_code 36 = .ok (.iconst 0, 1) := by decide +kernel
theorem d8_37 : decode jdk_117_method_27_code 37 = .ok (.goto 16, 3) := by decide +kernel
theorem d8_40 : decode jdk_117_method_27_code 40 = .ok (.lload 4, 2) := by decide +kernel
theorem d8_42 : decode jdk_117_method_27_code 42 = .ok (.lload 6, 2) := by decide +kernel
theorem d8_44 : decode jdk_117_method_27_code 44 = .ok (.lcmp, 1) := by decide +kernel
theorem d8_45 : decode jdk_117_method_27_code 45 = .ok (.ifCond .ge 7, 3) := by decide +kernel
theorem d8_48 : decode jdk_117_method_27_code 48 = .ok (.iconst (-1), 1) := by decide +kernel
theorem d8_49 : decode jdk_117_method_27_code 49 = .ok (.goto 4, 3) := by decide +kernel
theorem d8_52 : decode jdk_117_method_27_code 52 = .ok (.iconst 1, 1) := by decide +kernel
theorem d8_53 : decode jdk_117_method_27_code 53 = .ok (.ireturn, 1) := by decide +kernel
theorem pd5 : parseMethodDescriptor "(DD)I" = some ⟨[.double, .double], some .int⟩ := by decide +kernel
theorem ef_rm_cmp1 (m : MethodId) (x0 : UInt64) (x1 : UInt64) : entryFrame m #[(.double x0), (.double x1)] 8 = mkF m 0 #[.val (.double x0), .second, .val (.double x1), .second, .unset, .unset, .unset, .unset] [] := by first | (simp [entryFrame, mkF, argsToLocals, Value.category, maxLocals]; done) | rfl
set_option maxRecDepth 65536 in
set_option maxHeartbeats 40000000 in
theorem rm_cmp1 (l : Launch) (Z : State) (a0 : Array Value) (hw : ∀ d ∈ tables_1, d.before a0 Z = true) (x y : UInt64) (i j : Int) (h0 : Heap) (n0 : Nat) (Z0 : n0 ≤ h0.size) (DX : Core.DInt i x) (DY : Core.DInt j y) (hxy : x = y) :
    Does l (⟨"java/lang/Double", "compare", "(DD)I"⟩ : MethodName) jdk_117_method_27_code 8 (some .int) [] ({ frames := 2, cells := 0, slots := 0, locals := 28 } : Room) Z #[(.double x), (.double y)] h0 (fun v h L => v = some (.int 0) ∧ Fr n0 L ∧ h = h0) := by
  refine Does.of (plainFor_of_name pn1) ?_
  intro p e s m below meth c s₁ hx hby hml hret hlk hZ hown hnm X0 e0
  have N0 := Fr.nil n0
  refine Goes.cast (g' := mkF m 0 #[.val (.double x), .second, .val (.double y), .second, .unset, .unset, .unset, .unset] []) (ef_rm_cmp1 m x y) ?_
  refine Goes.by (T' := s₁) (g' := (mkF m 1 #[.val (.double x), .second, .val (.double y), .second, .unset, .unset, .unset, .unset] [(.double x)])) (fun _ k => XS.dloadN X0.here hx rfl (hb hby d8_0) rfl k) ?_
  refine Goes.by (T' := s₁) (g' := (mkF m 2 #[.val (.double x), .second, .val (.double y), .second, .unset, .unset, .unset, .unset] [(.double y), (.double x)])) (fun _ k => XS.dloadN X0.here hx rfl (hb hby d8_1) rfl k) ?_
  subst hxy
  refine Goes.by (T' := s₁) (g' := (mkF m 3 #[.val (.double x), .second, .val (.double x), .second, .unset, .unset, .unset, .unset] [(.int (0 : Int32))])) (fun _ k => XS.dcmpS X0.here hx rfl (hb hby d8_2) rfl (dcmpV_self (DInt_nn DX) _) k) ?_
  refine Goes.by (T' := s₁) (g' := (mkF m 8 #[.val (.double x), .second, .val (.double x), .second, .unset, .unset, .unset, .unset] [])) (fun _ k => XS.ifYes X0.here hx rfl (pc0 := 3) (pc' := 8) rfl (hb hby d8_3) rfl (by decide) (by decide) (by decide) k) ?_
  refine Goes.by (T' := s₁) (g' := (mkF m 9 #[.val (.double x), .second, .val (.double x), .second, .unset, .unset, .unset, .unset] [(.double x)])) (fun _ k => XS.dloadN X0.here hx rfl (hb hby d8_8) rfl k) ?_
  refine Goes.by (T' := s₁) (g' := (mkF m 10 #[.val (.double x), .second, .val (.double x), .second, .unset, .unset, .unset, .unset] [(.double x), (.double x)])) (fun _ k => XS.dloadN X0.here hx rfl (hb hby d8_9) rfl k) ?_
  refine Goes.by (T' := s₁) (g' := (mkF m 11 #[.val (.double x), .second, .val (.double x), .second, .unset, .unset, .unset, .unset] [(.int (0 : Int32))])) (fun _ k => XS.dcmpS X0.here hx rfl (hb hby d8_10) rfl (dcmpV_self (DInt_nn DX) _) k) ?_
  refine Goes.by (T' := s₁) (g' := (mkF m 16 #[.val (.double x), .second, .val (.double x), .second, .unset, .unset, .unset, .unset] [])) (fun _ k => XS.ifYes X0.here hx rfl (pc0 := 11) (pc' := 16) rfl (hb hby d8_11) rfl (by decide) (by decide) (by decide) k) ?_
  refine Goes.by (T' := s₁) (g' := (mkF m 17 #[.val (.double x), .second, .val (.double x), .second, .unset, .unset, .unset, .unset] [(.double x)])) (fun _ k => XS.dloadN X0.here hx rfl (hb hby d8_16) rfl k) ?_
  obtain ⟨v9, T9, L9, X9, hQ9, st9⟩ := callC X0 hx hZ (y := (⟨"java/lang/Double", "doubleToLongBits", "(D)J"⟩ : MethodName)) hown (hw _ (List.mem_of_getElem? (i := 43) rfl)) (hw _ (List.mem_of_getElem? (i := 44) rfl)) (hw _ (List.mem_of_getElem? (i := 45) rfl)) (hw _ (List.mem_of_getElem? (i := 15) rfl)) (by decide) e0 (argsL := [(.double x)]) (rest := []) (W := 0) (rm_bits l Z a0 hw x h0 n0 Z0 (DInt_nn DX)) rfl (by decide) (by decide) (by decide) (by decide) (g := (mkF m 17 #[.val (.double x), .second, .val (.double x), .second, .unset, .unset, .unset, .unset] [(.double x)])) rfl (by rw [hml]; rfl) (lenOf pd4 rfl) rfl (by show 2 * 0 + _ ≤ _; exact Nat.le_of_eq rfl) (hb hby d8_17)
  obtain ⟨rfl, NL9, hk9⟩ := hQ9
  have N0 := Fr.app N0 NL9
  refine Goes.by (T' := T9) (g' := (mkF m 20 #[.val (.double x), .second, .val (.double x), .second, .unset, .unset, .unset, .unset] [(.long (x).toInt64)])) st9 ?_
  refine Goes.by (T' := T9) (g' := (mkF m 22 #[.val (.double x), .second, .val (.double x), .second, .val (.long (x).toInt64), .second, .unset, .unset] [])) (fun _ k => XS.lstore X9.here hx rfl (hb hby d8_20) rfl (l' := #[.val (.double x), .second, .val (.double x), .second, .val (.long (x).toInt64), .second, .unset, .unset]) rfl k) ?_
  refine Goes.by (T' := T9) (g' := (mkF m 23 #[.val (.double x), .second, .val (.double x), .second, .val (.long (x).toInt64), .second, .unset, .unset] [(.double x)])) (fun _ k => XS.dloadN X9.here hx rfl (hb hby d8_22) rfl k) ?_
  obtain ⟨v10, T10, L10, X10, hQ10, st10⟩ := callC X9 hx hZ (y := (⟨"java/lang/Double", "doubleToLongBits", "(D)J"⟩ : MethodName)) hown (hw _ (List.mem_of_getElem? (i := 43) rfl)) (hw _ (List.mem_of_getElem? (i := 44) rfl)) (hw _ (List.mem_of_getElem? (i := 45) rfl)) (hw _ (List.mem_of_getElem? (i := 15) rfl)) (by decide) hk9 (argsL := [(.double x)]) (rest := []) (W := 0) (rm_bits l Z a0 hw x h0 n0 Z0 (DInt_nn DY)) rfl (by decide) (by decide) (by decide) (by decide) (g := (mkF m 23 #[.val (.double x), .second, .val (.double x), .second, .val (.long (x).toInt64), .second, .unset, .unset] [(.double x)])) rfl (by rw [hml]; rfl) (lenOf pd4 rfl) rfl (by show 2 * 0 + _ ≤ _; exact Nat.le_of_eq rfl) (hb hby d8_23)
  obtain ⟨rfl, NL10, hk10⟩ := hQ10
  have N0 := Fr.app N0 NL10
  refine Goes.by (T' := T10) (g' := (mkF m 26 #[.val (.double x), .second, .val (.double x), .second, .val (.long (x).toInt64), .second, .unset, .unset] [(.long (x).toInt64)])) st10 ?_
  refine Goes.by (T' := T10) (g' := (mkF m 28 #[.val (.double x), .second, .val (.double x), .second, .val (.long (x).toInt64), .second, .val (.long (x).toInt64), .second] [])) (fun _ k => XS.lstore X10.here hx rfl (hb hby d8_26) rfl (l' := #[.val (.double x), .second, .val (.double x), .second, .val (.long (x).toInt64), .second, .val (.long (x).toInt64), .second]) rfl k) ?_
  refine Goes.by (T' := T10) (g' := (mkF m 30 #[.val (.double x), .second, .val (.double x), .second, .val (.long (x).toInt64), .second, .val (.long (x).toInt64), .second] [(.long (x).toInt64)])) (fun _ k => XS.lload X10.here hx rfl (hb hby d8_28) rfl k) ?_
  refine Goes.by (T' := T10) (g' := (mkF m 32 #[.val (.double x), .second, .val (.double x), .second, .val (.long (x).toInt64), .second, .val (.long (x).toInt64), .second] [(.long (x).toInt64), (.long (x).toInt64)])) (fun _ k => XS.lload X10.here hx rfl (hb hby d8_30) rfl k) ?_
  refine Goes.by (T' := T10) (g' := (mkF m 33 #[.val (.double x), .second, .val (.double x), .second, .val (.long (x).toInt64), .second, .val (.long (x).toInt64), .second] [(.int (0 : Int32))])) (fun _ k => XS.lcmpS X10.here hx rfl (hb hby d8_32) rfl (cmpL_eq rfl) k) ?_
  refine Goes.by (T' := T10) (g' := (mkF m 36 #[.val (.double x), .second, .val (.double x), .second, .val (.long (x).toInt64), .second, .val (.long (x).toInt64), .second] [])) (fun _ k => XS.ifNo X10.here hx rfl (hb hby d8_33) rfl (by decide) k) ?_
  refine Goes.by (T' := T10) (g' := (mkF m 37 #[.val (.double x), .second, .val (.double x), .second, .val (.long (x).toInt64), .second, .val (.long (x).toInt64), .second] [(.int (0 : Int32))])) (fun _ k => XS.iconst X10.here hx rfl (hb hby d8_36)  k) ?_
  refine Goes.by (T' := T10) (g' := (mkF m 53 #[.val (.double x), .second, .val (.double x), .second, .val (.long (x).toInt64), .second, .val (.long (x).toInt64), .second] [(.int (0 : Int32))])) (fun _ k => XS.goto X10.here hx rfl (pc0 := 37) (pc' := 53) rfl (hb hby d8_37) (by decide) (by decide) k) ?_
  exact outI X10 hx hlk hret (hb hby d8_53) (by rw [hk10]; exact ⟨rfl, N0, rfl⟩) (by decide) (by decide)
theorem ef_rm_cmp0 (m : MethodId) (x0 : UInt64) (x1 : UInt64) : entryFrame m #[(.double x0), (.double x1)] 8 = mkF m 0 #[.val (.double x0), .second, .val (.double x1), .second, .unset, .unset, .unset, .unset] [] := by first | (simp [entryFrame, mkF, argsToLocals, Value.category, maxLocals]; done) | rfl
set_option maxRecDepth 65536 in
set_option maxHeartbeats 40000000 in
theorem rm_cmp0 (l : Launch) (Z : State) (a0 : Array Value) (hw : ∀ d ∈ tables_1, d.before a0 Z = true) (x y : UInt64) (i j : Int) (h0 : Heap) (n0 : Nat) (Z0 : n0 ≤ h0.size) (DX : Core.DInt i x) (DY : Core.DInt j y) (hxy : x ≠ y) :
    Does l (⟨"java/lang/Double", "compare", "(DD)I"⟩ : MethodName) jdk_117_method_27_code 8 (some .int) [] ({ frames := 2, cells := 0, slots := 0, locals := 28 } : Room) Z #[(.double x), (.double y)] h0 (fun v h L => (∃ r : Int32, v = some (.int r) ∧ ¬ r = 0) ∧ Fr n0 L ∧ h = h0) := by
  refine Does.of (plainFor_of_name pn1) ?_
  intro p e s m below meth c s₁ hx hby hml hret hlk hZ hown hnm X0 e0
  have N0 := Fr.nil n0
  refine Goes.cast (g' := mkF m 0 #[.val (.double x), .second, .val (.double y), .second, .unset, .unset, .unset, .unset] []) (ef_rm_cmp0 m x y) ?_
  refine Goes.by (T' := s₁) (g' := (mkF m 1 #[.val (.double x), .second, .val (.double y), .second, .unset, .unset, .unset, .unset] [(.double x)])) (fun _ k => XS.dloadN X0.here hx rfl (hb hby d8_0) rfl k) ?_
  refine Goes.by (T' := s₁) (g' := (mkF m 2 #[.val (.double x), .second, .val (.double y), .second, .unset, .unset, .unset, .unset] [(.double y), (.double x)])) (fun _ k => XS.dloadN X0.here hx rfl (hb hby d8_1) rfl k) ?_
  rcases (by omega : i < j ∨ j < i ∨ i = j) with hij | hij | hij
  · refine Goes.by (T' := s₁) (g' := (mkF m 3 #[.val (.double x), .second, .val (.double y), .second, .unset, .unset, .unset, .unset] [(.int (-1 : Int32))])) (fun _ k => XS.dcmpS X0.here hx rfl (hb hby d8_2) rfl (cmpD_lt DX DY hij _) k) ?_
    refine Goes.by (T' := s₁) (g' := (mkF m 6 #[.val (.double x), .second, .val (.double y), .second, .unset, .unset, .unset, .unset] [])) (fun _ k => XS.ifNo X0.here hx rfl (hb hby d8_3) rfl (by decide) k) ?_
    refine Goes.by (T' := s₁) (g' := (mkF m 7 #[.val (.double x), .second, .val (.double y), .second, .unset, .unset, .unset, .unset] [(.int (-1 : Int32))])) (fun _ k => XS.iconst X0.here hx rfl (hb hby d8_6)  k) ?_
    exact outI X0 hx hlk hret (hb hby d8_7) (by rw [e0]; exact ⟨⟨_, rfl, by decide⟩, N0, rfl⟩) (by decide) (by decide)
  · refine Goes.by (T' := s₁) (g' := (mkF m 3 #[.val (.double x), .second, .val (.double y), .second, .unset, .unset, .unset, .unset] [(.int (1 : Int32))])) (fun _ k => XS.dcmpS X0.here hx rfl (hb hby d8_2) rfl (cmpD_gt DX DY hij _) k) ?_
    refine Goes.by (T' := s₁) (g' := (mkF m 8 #[.val (.double x), .second, .val (.double y), .second, .unset, .unset, .unset, .unset] [])) (fun _ k => XS.ifYes X0.here hx rfl (pc0 := 3) (pc' := 8) rfl (hb hby d8_3) rfl (by decide) (by decide) (by decide) k) ?_
    refine Goes.by (T' := s₁) (g' := (mkF m 9 #[.val (.double x), .second, .val (.double y), .second, .unset, .unset, .unset, .unset] [(.double x)])) (fun _ k => XS.dloadN X0.here hx rfl (hb hby d8_8) rfl k) ?_
    refine Goes.by (T' := s₁) (g' := (mkF m 10 #[.val (.double x), .second, .val (.double y), .second, .unset, .unset, .unset, .unset] [(.double y), (.double x)])) (fun _ k => XS.dloadN X0.here hx rfl (hb hby d8_9) rfl k) ?_
    refine Goes.by (T' := s₁) (g' := (mkF m 11 #[.val (.double x), .second, .val (.double y), .second, .unset, .unset, .unset, .unset] [(.int (1 : Int32))])) (fun _ k => XS.dcmpS X0.here hx rfl (hb hby d8_10) rfl (cmpD_gt DX DY hij _) k) ?_
    refine Goes.by (T' := s₁) (g' := (mkF m 14 #[.val (.double x), .second, .val (.double y), .second, .unset, .unset, .unset, .unset] [])) (fun _ k => XS.ifNo X0.here hx rfl (hb hby d8_11) rfl (by decide) k) ?_
    refine Goes.by (T' := s₁) (g' := (mkF m 15 #[.val (.double x), .second, .val (.double y), .second, .unset, .unset, .unset, .unset] [(.int (1 : Int32))])) (fun _ k => XS.iconst X0.here hx rfl (hb hby d8_14)  k) ?_
    exact outI X0 hx hlk hret (hb hby d8_15) (by rw [e0]; exact ⟨⟨_, rfl, by decide⟩, N0, rfl⟩) (by decide) (by decide)
  · refine Goes.by (T' := s₁) (g' := (mkF m 3 #[.val (.double x), .second, .val (.double y), .second, .unset, .unset, .unset, .unset] [(.int (0 : Int32))])) (fun _ k => XS.dcmpS X0.here hx rfl (hb hby d8_2) rfl (cmpD_eq DX DY hij _) k) ?_
    refine Goes.by (T' := s₁) (g' := (mkF m 8 #[.val (.double x), .second, .val (.double y), .second, .unset, .unset, .unset, .unset] [])) (fun _ k => XS.ifYes X0.here hx rfl (pc0 := 3) (pc' := 8) rfl (hb hby d8_3) rfl (by decide) (by decide) (by decide) k) ?_
    refine Goes.by (T' := s₁) (g' := (mkF m 9 #[.val (.double x), .second, .val (.double y), .second, .unset, .unset, .unset, .unset] [(.double x)])) (fun _ k => XS.dloadN X0.here hx rfl (hb hby d8_8) rfl k) ?_
    refine Goes.by (T' := s₁) (g' := (mkF m 10 #[.val (.double x), .second, .val (.double y), .second, .unset, .unset, .unset, .unset] [(.double y), (.double x)])) (fun _ k => XS.dloadN X0.here hx rfl (hb hby d8_9) rfl k) ?_
    refine Goes.by (T' := s₁) (g' := (mkF m 11 #[.val (.double x), .second, .val (.double y), .second, .unset, .unset, .unset, .unset] [(.int (0 : Int32))])) (fun _ k => XS.dcmpS X0.here hx rfl (hb hby d8_10) rfl (cmpD_eq DX DY hij _) k) ?_
    refine Goes.by (T' := s₁) (g' := (mkF m 16 #[.val (.double x), .second, .val (.double y), .second, .unset, .unset, .unset, .unset] [])) (fun _ k => XS.ifYes X0.here hx rfl (pc0 := 11) (pc' := 16) rfl (hb hby d8_11) rfl (by decide) (by decide) (by decide) k) ?_
    refine Goes.by (T' := s₁) (g' := (mkF m 17 #[.val (.double x), .second, .val (.double y), .second, .unset, .unset, .unset, .unset] [(.double x)])) (fun _ k => XS.dloadN X0.here hx rfl (hb hby d8_16) rfl k) ?_
    obtain ⟨v11, T11, L11, X11, hQ11, st11⟩ := callC X0 hx hZ (y := (⟨"java/lang/Double", "doubleToLongBits", "(D)J"⟩ : MethodName)) hown (hw _ (List.mem_of_getElem? (i := 43) rfl)) (hw _ (List.mem_of_getElem? (i := 44) rfl)) (hw _ (List.mem_of_getElem? (i := 45) rfl)) (hw _ (List.mem_of_getElem? (i := 15) rfl)) (by decide) e0 (argsL := [(.double x)]) (rest := []) (W := 0) (rm_bits l Z a0 hw x h0 n0 Z0 (DInt_nn DX)) rfl (by decide) (by decide) (by decide) (by decide) (g := (mkF m 17 #[.val (.double x), .second, .val (.double y), .second, .unset, .unset, .unset, .unset] [(.double x)])) rfl (by rw [hml]; rfl) (lenOf pd4 rfl) rfl (by show 2 * 0 + _ ≤ _; exact Nat.le_of_eq rfl) (hb hby d8_17)
    obtain ⟨rfl, NL11, hk11⟩ := hQ11
    have N0 := Fr.app N0 NL11
    refine Goes.by (T' := T11) (g' := (mkF m 20 #[.val (.double x), .second, .val (.double y), .second, .unset, .unset, .unset, .unset] [(.long (x).toInt64)])) st11 ?_
    refine Goes.by (T' := T11) (g' := (mkF m 22 #[.val (.double x), .second, .val (.double y), .second, .val (.long (x).toInt64), .second, .unset, .unset] [])) (fun _ k => XS.lstore X11.here hx rfl (hb hby d8_20) rfl (l' := #[.val (.double x), .second, .val (.double y), .second, .val (.long (x).toInt64), .second, .unset, .unset]) rfl k) ?_
    refine Goes.by (T' := T11) (g' := (mkF m 23 #[.val (.double x), .second, .val (.double y), .second, .val (.long (x).toInt64), .second, .unset, .unset] [(.double y)])) (fun _ k => XS.dloadN X11.here hx rfl (hb hby d8_22) rfl k) ?_
    obtain ⟨v12, T12, L12, X12, hQ12, st12⟩ := callC X11 hx hZ (y := (⟨"java/lang/Double", "doubleToLongBits", "(D)J"⟩ : MethodName)) hown (hw _ (List.mem_of_getElem? (i := 43) rfl)) (hw _ (List.mem_of_getElem? (i := 44) rfl)) (hw _ (List.mem_of_getElem? (i := 45) rfl)) (hw _ (List.mem_of_getElem? (i := 15) rfl)) (by decide) hk11 (argsL := [(.double y)]) (rest := []) (W := 0) (rm_bits l Z a0 hw y h0 n0 Z0 (DInt_nn DY)) rfl (by decide) (by decide) (by decide) (by decide) (g := (mkF m 23 #[.val (.double x), .second, .val (.double y), .second, .val (.long (x).toInt64), .second, .unset, .unset] [(.double y)])) rfl (by rw [hml]; rfl) (lenOf pd4 rfl) rfl (by show 2 * 0 + _ ≤ _; exact Nat.le_of_eq rfl) (hb hby d8_23)
    obtain ⟨rfl, NL12, hk12⟩ := hQ12
    have N0 := Fr.app N0 NL12
    refine Goes.by (T' := T12) (g' := (mkF m 26 #[.val (.double x), .second, .val (.double y), .second, .val (.long (x).toInt64), .second, .unset, .unset] [(.long (y).toInt64)])) st12 ?_
    refine Goes.by (T' := T12) (g' := (mkF m 28 #[.val (.double x), .second, .val (.double y), .second, .val (.long (x).toInt64), .second, .val (.long (y).toInt64), .second] [])) (fun _ k => XS.lstore X12.here hx rfl (hb hby d8_26) rfl (l' := #[.val (.double x), .second, .val (.double y), .second, .val (.long (x).toInt64), .second, .val (.long (y).toInt64), .second]) rfl k) ?_
    refine Goes.by (T' := T12) (g' := (mkF m 30 #[.val (.double x), .second, .val (.double y), .second, .val (.long (x).toInt64), .second, .val (.long (y).toInt64), .second] [(.long (x).toInt64)])) (fun _ k => XS.lload X12.here hx rfl (hb hby d8_28) rfl k) ?_
    refine Goes.by (T' := T12) (g' := (mkF m 32 #[.val (.double x), .second, .val (.double y), .second, .val (.long (x).toInt64), .second, .val (.long (y).toInt64), .second] [(.long (y).toInt64), (.long (x).toInt64)])) (fun _ k => XS.lload X12.here hx rfl (hb hby d8_30) rfl k) ?_
    obtain ⟨cv, hcv, hcn⟩ := own_cmpL_ne (own_bits_ne hxy)
    refine Goes.by (T' := T12) (g' := (mkF m 33 #[.val (.double x), .second, .val (.double y), .second, .val (.long (x).toInt64), .second, .val (.long (y).toInt64), .second] [(.int cv)])) (fun _ k => XS.lcmpS X12.here hx rfl (hb hby d8_32) rfl hcv k) ?_
    refine Goes.by (T' := T12) (g' := (mkF m 40 #[.val (.double x), .second, .val (.double y), .second, .val (.long (x).toInt64), .second, .val (.long (y).toInt64), .second] [])) (fun _ k => XS.ifYes X12.here hx rfl (pc0 := 33) (pc' := 40) rfl (hb hby d8_33) rfl ((if0 _ _).trans (feq hcn).2) (by decide) (by decide) k) ?_
    refine Goes.by (T' := T12) (g' := (mkF m 42 #[.val (.double x), .second, .val (.double y), .second, .val (.long (x).toInt64), .second, .val (.long (y).toInt64), .second] [(.long (x).toInt64)])) (fun _ k => XS.lload X12.here hx rfl (hb hby d8_40) rfl k) ?_
    refine Goes.by (T' := T12) (g' := (mkF m 44 #[.val (.double x), .second, .val (.double y), .second, .val (.long (x).toInt64), .second, .val (.long (y).toInt64), .second] [(.long (y).toInt64), (.long (x).toInt64)])) (fun _ k => XS.lload X12.here hx rfl (hb hby d8_42) rfl k) ?_
    refine Goes.by (T' := T12) (g' := (mkF m 45 #[.val (.double x), .second, .val (.double y), .second, .val (.long (x).toInt64), .second, .val (.long (y).toInt64), .second] [(.int cv)])) (fun _ k => XS.lcmpS X12.here hx rfl (hb hby d8_44) rfl hcv k) ?_
    by_cases hc2 : cv < 0
    · refine Goes.by (T' := T12) (g' := (mkF m 48 #[.val (.double x), .second, .val (.double y), .second, .val (.long (x).toInt64), .second, .val (.long (y).toInt64), .second] [])) (fun _ k => XS.ifNo X12.here hx rfl (hb hby d8_45) rfl ((if0 _ _).trans (tlt hc2).2.1) k) ?_
      refine Goes.by (T' := T12) (g' := (mkF m 49 #[.val (.double x), .second, .val (.double y), .second, .val (.long (x).toInt64), .second, .val (.long (y).toInt64), .second] [(.int (-1 : Int32))])) (fun _ k => XS.iconst X12.here hx rfl (hb hby d8_48)  k) ?_
      refine Goes.by (T' := T12) (g' := (mkF m 53 #[.val (.double x), .second, .val (.double y), .second, .val (.long (x).toInt64), .second, .val (.long (y).toInt64), .second] [(.int (-1 : Int32))])) (fun _ k => XS.goto X12.here hx rfl (pc0 := 49) (pc' := 53) rfl (hb hby d8_49) (by decide) (by decide) k) ?_
      exact outI X12 hx hlk hret (hb hby d8_53) (by rw [hk12]; exact ⟨⟨_, rfl, by decide⟩, N0, rfl⟩) (by decide) (by decide)
    · refine Goes.by (T' := T12) (g' := (mkF m 52 #[.val (.double x), .second, .val (.double y), .second, .val (.long (x).toInt64), .second, .val (.long (y).toInt64), .second] [])) (fun _ k => XS.ifYes X12.here hx rfl (pc0 := 45) (pc' := 52) rfl (hb hby d8_45) rfl ((if0 _ _).trans (flt hc2).2.1) (by decide) (by decide) k) ?_
      refine Goes.by (T' := T12) (g' := (mkF m 53 #[.val (.double x), .second, .val (.double y), .second, .val (.long (x).toInt64), .second, .val (.long (y).toInt64), .second] [(.int (1 : Int32))])) (fun _ k => XS.iconst X12.here hx rfl (hb hby d8_52)  k) ?_
      exact outI X12 hx hlk hret (hb hby d8_53) (by rw [hk12]; exact ⟨⟨_, rfl, by decide⟩, N0, rfl⟩) (by decide) (by decide)
theorem d7_0 : decode prog_9_method_5_code 0 = .ok (.aload_n 1, 1) := by decide +kernel
theorem d7_1 : decode prog_9_method_5_code 1 = .ok (.instanceof 24, 3) := by decide +kernel
theorem d7_4 : decode prog_9_method_5_code 4 = .ok (.ifCond .eq 11, 3) := by decide +kernel
theorem d7_7 : decode prog_9_method_5_code 7 = .ok (.aload_n 1, 1) := by decide +kernel
theorem d7_8 : decode prog_9_method_5_code 8 = .ok (.checkcast 24, 3) := by decide +kernel
theorem d7_11 : decode prog_9_method_5_code 11 = .ok (.astore_n 2, 1) := by decide +kernel
theorem d7_12 : decode prog_9_method_5_code 12 = .ok (.goto 5, 3) := by decide +kernel
theorem d7_15 : decode prog_9_method_5_code 15 = .ok (.iconst 0, 1) := by decide +kernel
theorem d7_16 : decode prog_9_method_5_code 16 = .ok (.ireturn, 1) := by decide +kernel
theorem d7_17 : decode prog_9_method_5_code 17 = .ok (.aload_n 0, 1) := by decide +kernel
theorem d7_18 : decode prog_9_method_5_code 18 = .ok (.getfield 23, 3) := by decide +kernel
theorem d7_21 : decode prog_9_method_5_code 21 = .ok (.aload_n 2, 1) := by decide +kernel
theorem d7_22 : decode prog_9_method_5_code 22 = .ok (.getfield 23, 3) := by decide +kernel
theorem d7_25 : decode prog_9_method_5_code 25 = .ok (.invokestatic 32, 3) := by decide +kernel
theorem d7_28 : decode prog_9_method_5_code 28 = .ok (.ifCond .ne 21, 3) := by decide +kernel
theorem d7_31 : decode prog_9_method_5_code 31 = .ok (.aload_n 0, 1) := by decide +kernel
theorem d7_32 : decode prog_9_method_5_code 32 = .ok (.getfield 29, 3) := by decide +kernel
theorem d7_35 : decode prog_9_method_5_code 35 = .ok (.aload_n 2, 1) := by decide +kernel
theorem d7_36 : decode prog_9_method_5_code 36 = .ok (.getfield 29, 3) := by decide +kernel
theorem d7_39 : decode prog_9_method_5_code 39 = .ok (.invokestatic 32, 3) := by decide +kernel
theorem d7_42 : decode prog_9_method_5_code 42 = .ok (.ifCond .ne 7, 3) := by decide +kernel
theorem d7_45 : decode prog_9_method_5_code 45 = .ok (.iconst 1, 1) := by decide +kernel
theorem d7_46 : decode prog_9_method_5_code 46 = .ok (.goto 4, 3) := by decide +kernel
theorem d7_49 : decode prog_9_method_5_code 49 = .ok (.iconst 0, 1) := by decide +kernel
theorem d7_50 : decode prog_9_method_5_code 50 = .ok (.ireturn, 1) := by decide +kernel
theorem pd6 : parseMethodDescriptor "(Ljava/lang/Object;)Z" = some ⟨[(.object "java/lang/Object")], some .boolean⟩ := by decide +kernel
theorem ef_rm_eqT (m : MethodId) (x0 : Addr) (x1 : Addr) : entryFrame m #[(.ref x0), (.ref x1)] 3 = mkF m 0 #[.val (.ref x0), .val (.ref x1), .unset] [] := by first | (simp [entryFrame, mkF, argsToLocals, Value.category, maxLocals]; done) | rfl
set_option maxRecDepth 65536 in
set_option maxHeartbeats 40000000 in
theorem rm_eqT (l : Launch) (Z : State) (a0 : Array Value) (hw : ∀ d ∈ tables_1, d.before a0 Z = true) (a b : Addr) (u0 u1 v0 v1 : UInt64) (i0 i1 j0 j1 : Int) (h0 : Heap) (n0 : Nat) (Z0 : n0 ≤ h0.size) (EB : Exa Z h0 b "com/example/gaugefit/gaugefit/core/Interval") (F_begin_a : Fld Z h0 a "com/example/gaugefit/gaugefit/core/Interval" "begin" "D" (.double u0)) (F_end_a : Fld Z h0 a "com/example/gaugefit/gaugefit/core/Interval" "end" "D" (.double u1)) (F_begin_b : Fld Z h0 b "com/example/gaugefit/gaugefit/core/Interval" "begin" "D" (.double v0)) (F_end_b : Fld Z h0 b "com/example/gaugefit/gaugefit/core/Interval" "end" "D" (.double v1)) (U0 : Core.DInt i0 u0) (V0 : Core.DInt j0 v0) (U1 : Core.DInt i1 u1) (V1 : Core.DInt j1 v1) (h0_ : u0 = v0) (h1_ : u1 = v1) :
    Does l (⟨"com/example/gaugefit/gaugefit/core/Interval", "equals", "(Ljava/lang/Object;)Z"⟩ : MethodName) prog_9_method_5_code 3 (some .boolean) [] ({ frames := 3, cells := 0, slots := 0, locals := 47 } : Room) Z #[(.ref a), (.ref b)] h0 (fun v h L => v = some (.int 1) ∧ Fr n0 L ∧ h = h0) := by
  refine Does.of (plainFor_of_name pn2) ?_
  intro p e s m below meth c s₁ hx hby hml hret hlk hZ hown hnm X0 e0
  have N0 := Fr.nil n0
  refine Goes.cast (g' := mkF m 0 #[.val (.ref a), .val (.ref b), .unset] []) (ef_rm_eqT m a b) ?_
  have h0q := h0_
  have h1q := h1_
  refine Goes.by (T' := s₁) (g' := (mkF m 1 #[.val (.ref a), .val (.ref b), .unset] [(.ref b)])) (fun _ k => XS.aloadN X0.here hx rfl (hb hby d7_0) rfl rfl k) ?_
  obtain ⟨T13, X13, e13, st13⟩ := instY X0 hx hZ hown (hw _ (List.mem_of_getElem? (i := 38) rfl)) e0 (Ins.self EB) (g := (mkF m 1 #[.val (.ref a), .val (.ref b), .unset] [(.ref b)])) rfl rfl (hb hby d7_1)
  refine Goes.by (T' := T13) (g' := (mkF m 4 #[.val (.ref a), .val (.ref b), .unset] [(.int (1 : Int32))])) st13 ?_
  refine Goes.by (T' := T13) (g' := (mkF m 7 #[.val (.ref a), .val (.ref b), .unset] [])) (fun _ k => XS.ifNo X13.here hx rfl (hb hby d7_4) rfl (by decide) k) ?_
  refine Goes.by (T' := T13) (g' := (mkF m 8 #[.val (.ref a), .val (.ref b), .unset] [(.ref b)])) (fun _ k => XS.aloadN X13.here hx rfl (hb hby d7_7) rfl rfl k) ?_
  obtain ⟨T14, X14, e14, st14⟩ := castY X13 hx hZ hown (hw _ (List.mem_of_getElem? (i := 38) rfl)) e13 (Ins.self EB) (g := (mkF m 8 #[.val (.ref a), .val (.ref b), .unset] [(.ref b)])) rfl rfl (hb hby d7_8)
  refine Goes.by (T' := T14) (g' := (mkF m 11 #[.val (.ref a), .val (.ref b), .unset] [(.ref b)])) st14 ?_
  refine Goes.by (T' := T14) (g' := (mkF m 12 #[.val (.ref a), .val (.ref b), .val (.ref b)] [])) (fun _ k => XS.astoreN X14.here hx rfl (hb hby d7_11) rfl rfl (l' := #[.val (.ref a), .val (.ref b), .val (.ref b)]) rfl k) ?_
  refine Goes.by (T' := T14) (g' := (mkF m 17 #[.val (.ref a), .val (.ref b), .val (.ref b)] [])) (fun _ k => XS.goto X14.here hx rfl (pc0 := 12) (pc' := 17) rfl (hb hby d7_12) (by decide) (by decide) k) ?_
  refine Goes.by (T' := T14) (g' := (mkF m 18 #[.val (.ref a), .val (.ref b), .val (.ref b)] [(.ref a)])) (fun _ k => XS.aloadN X14.here hx rfl (hb hby d7_17) rfl rfl k) ?_
  obtain ⟨T15, X15, e15, st15⟩ := getF X14 hx hZ hown (host := "") (Or.inl (hw _ (List.mem_of_getElem? (i := 22) rfl))) Via.refl e14 F_begin_a (g := (mkF m 18 #[.val (.ref a), .val (.ref b), .val (.ref b)] [(.ref a)])) rfl rfl (hb hby d7_18)
  refine Goes.by (T' := T15) (g' := (mkF m 21 #[.val (.ref a), .val (.ref b), .val (.ref b)] [(.double u0)])) st15 ?_
  refine Goes.by (T' := T15) (g' := (mkF m 22 #[.val (.ref a), .val (.ref b), .val (.ref b)] [(.ref b), (.double u0)])) (fun _ k => XS.aloadN X15.here hx rfl (hb hby d7_21) rfl rfl k) ?_
  obtain ⟨T16, X16, e16, st16⟩ := getF X15 hx hZ hown (host := "") (Or.inl (hw _ (List.mem_of_getElem? (i := 22) rfl))) Via.refl e15 F_begin_b (g := (mkF m 22 #[.val (.ref a), .val (.ref b), .val (.ref b)] [(.ref b), (.double u0)])) rfl rfl (hb hby d7_22)
  refine Goes.by (T' := T16) (g' := (mkF m 25 #[.val (.ref a), .val (.ref b), .val (.ref b)] [(.double v0), (.double u0)])) st16 ?_
  obtain ⟨v17, T17, L17, X17, hQ17, st17⟩ := callC X16 hx hZ (y := (⟨"java/lang/Double", "compare", "(DD)I"⟩ : MethodName)) hown (hw _ (List.mem_of_getElem? (i := 40) rfl)) (hw _ (List.mem_of_getElem? (i := 41) rfl)) (hw _ (List.mem_of_getElem? (i := 42) rfl)) (hw _ (List.mem_of_getElem? (i := 15) rfl)) (by decide) e16 (argsL := [(.double u0), (.double v0)]) (rest := []) (W := 0) (rm_cmp1 l Z a0 hw u0 v0 i0 j0 h0 n0 Z0 U0 V0 h0q) rfl (by decide) (by decide) (by decide) (by decide) (g := (mkF m 25 #[.val (.ref a), .val (.ref b), .val (.ref b)] [(.double v0), (.double u0)])) rfl (by rw [hml]; rfl) (lenOf pd5 rfl) rfl (by show 2 * 0 + _ ≤ _; exact Nat.le_of_eq rfl) (hb hby d7_25)
  obtain ⟨rfl, NL17, hk17⟩ := hQ17
  have N0 := Fr.app N0 NL17
  refine Goes.by (T' := T17) (g' := (mkF m 28 #[.val (.ref a), .val (.ref b), .val (.ref b)] [(.int (0 : Int32))])) st17 ?_
  refine Goes.by (T' := T17) (g' := (mkF m 31 #[.val (.ref a), .val (.ref b), .val (.ref b)] [])) (fun _ k => XS.ifNo X17.here hx rfl (hb hby d7_28) rfl (by decide) k) ?_
  refine Goes.by (T' := T17) (g' := (mkF m 32 #[.val (.ref a), .val (.ref b), .val (.ref b)] [(.ref a)])) (fun _ k => XS.aloadN X17.here hx rfl (hb hby d7_31) rfl rfl k) ?_
  obtain ⟨T18, X18, e18, st18⟩ := getF X17 hx hZ hown (host := "") (Or.inl (hw _ (List.mem_of_getElem? (i := 24) rfl))) Via.refl hk17 F_end_a (g := (mkF m 32 #[.val (.ref a), .val (.ref b), .val (.ref b)] [(.ref a)])) rfl rfl (hb hby d7_32)
  refine Goes.by (T' := T18) (g' := (mkF m 35 #[.val (.ref a), .val (.ref b), .val (.ref b)] [(.double u1)])) st18 ?_
  refine Goes.by (T' := T18) (g' := (mkF m 36 #[.val (.ref a), .val (.ref b), .val (.ref b)] [(.ref b), (.double u1)])) (fun _ k => XS.aloadN X18.here hx rfl (hb hby d7_35) rfl rfl k) ?_
  obtain ⟨T19, X19, e19, st19⟩ := getF X18 hx hZ hown (host := "") (Or.inl (hw _ (List.mem_of_getElem? (i := 24) rfl))) Via.refl e18 F_end_b (g := (mkF m 36 #[.val (.ref a), .val (.ref b), .val (.ref b)] [(.ref b), (.double u1)])) rfl rfl (hb hby d7_36)
  refine Goes.by (T' := T19) (g' := (mkF m 39 #[.val (.ref a), .val (.ref b), .val (.ref b)] [(.double v1), (.double u1)])) st19 ?_
  obtain ⟨v20, T20, L20, X20, hQ20, st20⟩ := callC X19 hx hZ (y := (⟨"java/lang/Double", "compare", "(DD)I"⟩ : MethodName)) hown (hw _ (List.mem_of_getElem? (i := 40) rfl)) (hw _ (List.mem_of_getElem? (i := 41) rfl)) (hw _ (List.mem_of_getElem? (i := 42) rfl)) (hw _ (List.mem_of_getElem? (i := 15) rfl)) (by decide) e19 (argsL := [(.double u1), (.double v1)]) (rest := []) (W := 0) (rm_cmp1 l Z a0 hw u1 v1 i1 j1 h0 n0 Z0 U1 V1 h1q) rfl (by decide) (by decide) (by decide) (by decide) (g := (mkF m 39 #[.val (.ref a), .val (.ref b), .val (.ref b)] [(.double v1), (.double u1)])) rfl (by rw [hml]; rfl) (lenOf pd5 rfl) rfl (by show 2 * 0 + _ ≤ _; exact Nat.le_of_eq rfl) (hb hby d7_39)
  obtain ⟨rfl, NL20, hk20⟩ := hQ20
  have N0 := Fr.app N0 NL20
  refine Goes.by (T' := T20) (g' := (mkF m 42 #[.val (.ref a), .val (.ref b), .val (.ref b)] [(.int (0 : Int32))])) st20 ?_
  refine Goes.by (T' := T20) (g' := (mkF m 45 #[.val (.ref a), .val (.ref b), .val (.ref b)] [])) (fun _ k => XS.ifNo X20.here hx rfl (hb hby d7_42) rfl (by decide) k) ?_
  refine Goes.by (T' := T20) (g' := (mkF m 46 #[.val (.ref a), .val (.ref b), .val (.ref b)] [(.int (1 : Int32))])) (fun _ k => XS.iconst X20.here hx rfl (hb hby d7_45)  k) ?_
  refine Goes.by (T' := T20) (g' := (mkF m 50 #[.val (.ref a), .val (.ref b), .val (.ref b)] [(.int (1 : Int32))])) (fun _ k => XS.goto X20.here hx rfl (pc0 := 46) (pc' := 50) rfl (hb hby d7_46) (by decide) (by decide) k) ?_
  exact outZ X20 hx hlk hret (hb hby d7_50) (by rw [hk20]; exact ⟨rfl, N0, rfl⟩) (by decide) (by decide)
theorem ef_rm_eqF1 (m : MethodId) (x0 : Addr) (x1 : Addr) : entryFrame m #[(.ref x0), (.ref x1)] 3 = mkF m 0 #[.val (.ref x0), .val (.ref x1), .unset] [] := by first | (simp [entryFrame, mkF, argsToLocals, Value.category, maxLocals]; done) | rfl
set_option maxRecDepth 65536 in
set_option maxHeartbeats 40000000 in
theorem rm_eqF1 (l : Launch) (Z : State) (a0 : Array Value) (hw : ∀ d ∈ tables_1, d.before a0 Z = true) (a b : Addr) (u0 u1 v0 v1 : UInt64) (i0 i1 j0 j1 : Int) (h0 : Heap) (n0 : Nat) (Z0 : n0 ≤ h0.size) (EB : Exa Z h0 b "com/example/gaugefit/gaugefit/core/Interval") (F_begin_a : Fld Z h0 a "com/example/gaugefit/gaugefit/core/Interval" "begin" "D" (.double u0)) (F_end_a : Fld Z h0 a "com/example/gaugefit/gaugefit/core/Interval" "end" "D" (.double u1)) (F_begin_b : Fld Z h0 b "com/example/gaugefit/gaugefit/core/Interval" "begin" "D" (.double v0)) (F_end_b : Fld Z h0 b "com/example/gaugefit/gaugefit/core/Interval" "end" "D" (.double v1)) (U0 : Core.DInt i0 u0) (V0 : Core.DInt j0 v0) (U1 : Core.DInt i1 u1) (V1 : Core.DInt j1 v1) (h0_ : u0 ≠ v0) :
    Does l (⟨"com/example/gaugefit/gaugefit/core/Interval", "equals", "(Ljava/lang/Object;)Z"⟩ : MethodName) prog_9_method_5_code 3 (some .boolean) [] ({ frames := 3, cells := 0, slots := 0, locals := 47 } : Room) Z #[(.ref a), (.ref b)] h0 (fun v h L => v = some (.int 0) ∧ Fr n0 L ∧ h = h0) := by
  refine Does.of (plainFor_of_name pn2) ?_
  intro p e s m below meth c s₁ hx hby hml hret hlk hZ hown hnm X0 e0
  have N0 := Fr.nil n0
  refine Goes.cast (g' := mkF m 0 #[.val (.ref a), .val (.ref b), .unset] []) (ef_rm_eqF1 m a b) ?_
  have h0q := h0_
  refine Goes.by (T' := s₁) (g' := (mkF m 1 #[.val (.ref a), .val (.ref b), .unset] [(.ref b)])) (fun _ k => XS.aloadN X0.here hx rfl (hb hby d7_0) rfl rfl k) ?_
  obtain ⟨T21, X21, e21, st21⟩ := instY X0 hx hZ hown (hw _ (List.mem_of_getElem? (i := 38) rfl)) e0 (Ins.self EB) (g := (mkF m 1 #[.val (.ref a), .val (.ref b), .unset] [(.ref b)])) rfl rfl (hb hby d7_1)
  refine Goes.by (T' := T21) (g' := (mkF m 4 #[.val (.ref a), .val (.ref b), .unset] [(.int (1 : Int32))])) st21 ?_
  refine Goes.by (T' := T21) (g' := (mkF m 7 #[.val (.ref a), .val (.ref b), .unset] [])) (fun _ k => XS.ifNo X21.here hx rfl (hb hby d7_4) rfl (by decide) k) ?_
  refine Goes.by (T' := T21) (g' := (mkF m 8 #[.val (.ref a), .val (.ref b), .unset] [(.ref b)])) (fun _ k => XS.aloadN X21.here hx rfl (hb hby d7_7) rfl rfl k) ?_
  obtain ⟨T22, X22, e22, st22⟩ := castY X21 hx hZ hown (hw _ (List.mem_of_getElem? (i := 38) rfl)) e21 (Ins.self EB) (g := (mkF m 8 #[.val (.ref a), .val (.ref b), .unset] [(.ref b)])) rfl rfl (hb hby d7_8)
  refine Goes.by (T' := T22) (g' := (mkF m 11 #[.val (.ref a), .val (.ref b), .unset] [(.ref b)])) st22 ?_
  refine Goes.by (T' := T22) (g' := (mkF m 12 #[.val (.ref a), .val (.ref b), .val (.ref b)] [])) (fun _ k => XS.astoreN X22.here hx rfl (hb hby d7_11) rfl rfl (l' := #[.val (.ref a), .val (.ref b), .val (.ref b)]) rfl k) ?_
  refine Goes.by (T' := T22) (g' := (mkF m 17 #[.val (.ref a), .val (.ref b), .val (.ref b)] [])) (fun _ k => XS.goto X22.here hx rfl (pc0 := 12) (pc' := 17) rfl (hb hby d7_12) (by decide) (by decide) k) ?_
  refine Goes.by (T' := T22) (g' := (mkF m 18 #[.val (.ref a), .val (.ref b), .val (.ref b)] [(.ref a)])) (fun _ k => XS.aloadN X22.here hx rfl (hb hby d7_17) rfl rfl k) ?_
  obtain ⟨T23, X23, e23, st23⟩ := getF X22 hx hZ hown (host := "") (Or.inl (hw _ (List.mem_of_getElem? (i := 22) rfl))) Via.refl e22 F_begin_a (g := (mkF m 18 #[.val (.ref a), .val (.ref b), .val (.ref b)] [(.ref a)])) rfl rfl (hb hby d7_18)
  refine Goes.by (T' := T23) (g' := (mkF m 21 #[.val (.ref a), .val (.ref b), .val (.ref b)] [(.double u0)])) st23 ?_
  refine Goes.by (T' := T23) (g' := (mkF m 22 #[.val (.ref a), .val (.ref b), .val (.ref b)] [(.ref b), (.double u0)])) (fun _ k => XS.aloadN X23.here hx rfl (hb hby d7_21) rfl rfl k) ?_
  obtain ⟨T24, X24, e24, st24⟩ := getF X23 hx hZ hown (host := "") (Or.inl (hw _ (List.mem_of_getElem? (i := 22) rfl))) Via.refl e23 F_begin_b (g := (mkF m 22 #[.val (.ref a), .val (.ref b), .val (.ref b)] [(.ref b), (.double u0)])) rfl rfl (hb hby d7_22)
  refine Goes.by (T' := T24) (g' := (mkF m 25 #[.val (.ref a), .val (.ref b), .val (.ref b)] [(.double v0), (.double u0)])) st24 ?_
  obtain ⟨v25, T25, L25, X25, hQ25, st25⟩ := callC X24 hx hZ (y := (⟨"java/lang/Double", "compare", "(DD)I"⟩ : MethodName)) hown (hw _ (List.mem_of_getElem? (i := 40) rfl)) (hw _ (List.mem_of_getElem? (i := 41) rfl)) (hw _ (List.mem_of_getElem? (i := 42) rfl)) (hw _ (List.mem_of_getElem? (i := 15) rfl)) (by decide) e24 (argsL := [(.double u0), (.double v0)]) (rest := []) (W := 0) (rm_cmp0 l Z a0 hw u0 v0 i0 j0 h0 n0 Z0 U0 V0 h0q) rfl (by decide) (by decide) (by decide) (by decide) (g := (mkF m 25 #[.val (.ref a), .val (.ref b), .val (.ref b)] [(.double v0), (.double u0)])) rfl (by rw [hml]; rfl) (lenOf pd5 rfl) rfl (by show 2 * 0 + _ ≤ _; exact Nat.le_of_eq rfl) (hb hby d7_25)
  obtain ⟨⟨r0, rfl, hr0⟩, NL25, hk25⟩ := hQ25
  have N0 := Fr.app N0 NL25
  refine Goes.by (T' := T25) (g' := (mkF m 28 #[.val (.ref a), .val (.ref b), .val (.ref b)] [(.int r0)])) st25 ?_
  refine Goes.by (T' := T25) (g' := (mkF m 49 #[.val (.ref a), .val (.ref b), .val (.ref b)] [])) (fun _ k => XS.ifYes X25.here hx rfl (pc0 := 28) (pc' := 49) rfl (hb hby d7_28) rfl ((if0 _ _).trans (feq hr0).2) (by decide) (by decide) k) ?_
  refine Goes.by (T' := T25) (g' := (mkF m 50 #[.val (.ref a), .val (.ref b), .val (.ref b)] [(.int (0 : Int32))])) (fun _ k => XS.iconst X25.here hx rfl (hb hby d7_49)  k) ?_
  exact outZ X25 hx hlk hret (hb hby d7_50) (by rw [hk25]; exact ⟨rfl, N0, rfl⟩) (by decide) (by decide)
theorem ef_rm_eqF2 (m : MethodId) (x0 : Addr) (x1 : Addr) : entryFrame m #[(.ref x0), (.ref x1)] 3 = mkF m 0 #[.val (.ref x0), .val (.ref x1), .unset] [] := by first | (simp [entryFrame, mkF, argsToLocals, Value.category, maxLocals]; done) | rfl
set_option maxRecDepth 65536 in
set_option maxHeartbeats 40000000 in
theorem rm_eqF2 (l : Launch) (Z : State) (a0 : Array Value) (hw : ∀ d ∈ tables_1, d.before a0 Z = true) (a b : Addr) (u0 u1 v0 v1 : UInt64) (i0 i1 j0 j1 : Int) (h0 : Heap) (n0 : Nat) (Z0 : n0 ≤ h0.size) (EB : Exa Z h0 b "com/example/gaugefit/gaugefit/core/Interval") (F_begin_a : Fld Z h0 a "com/example/gaugefit/gaugefit/core/Interval" "begin" "D" (.double u0)) (F_end_a : Fld Z h0 a "com/example/gaugefit/gaugefit/core/Interval" "end" "D" (.double u1)) (F_begin_b : Fld Z h0 b "com/example/gaugefit/gaugefit/core/Interval" "begin" "D" (.double v0)) (F_end_b : Fld Z h0 b "com/example/gaugefit/gaugefit/core/Interval" "end" "D" (.double v1)) (U0 : Core.DInt i0 u0) (V0 : Core.DInt j0 v0) (U1 : Core.DInt i1 u1) (V1 : Core.DInt j1 v1) (h0_ : u0 = v0) (h1_ : u1 ≠ v1) :
    Does l (⟨"com/example/gaugefit/gaugefit/core/Interval", "equals", "(Ljava/lang/Object;)Z"⟩ : MethodName) prog_9_method_5_code 3 (some .boolean) [] ({ frames := 3, cells := 0, slots := 0, locals := 47 } : Room) Z #[(.ref a), (.ref b)] h0 (fun v h L => v = some (.int 0) ∧ Fr n0 L ∧ h = h0) := by
  refine Does.of (plainFor_of_name pn2) ?_
  intro p e s m below meth c s₁ hx hby hml hret hlk hZ hown hnm X0 e0
  have N0 := Fr.nil n0
  refine Goes.cast (g' := mkF m 0 #[.val (.ref a), .val (.ref b), .unset] []) (ef_rm_eqF2 m a b) ?_
  have h0q := h0_
  have h1q := h1_
  refine Goes.by (T' := s₁) (g' := (mkF m 1 #[.val (.ref a), .val (.ref b), .unset] [(.ref b)])) (fun _ k => XS.aloadN X0.here hx rfl (hb hby d7_0) rfl rfl k) ?_
  obtain ⟨T26, X26, e26, st26⟩ := instY X0 hx hZ hown (hw _ (List.mem_of_getElem? (i := 38) rfl)) e0 (Ins.self EB) (g := (mkF m 1 #[.val (.ref a), .val (.ref b), .unset] [(.ref b)])) rfl rfl (hb hby d7_1)
  refine Goes.by (T' := T26) (g' := (mkF m 4 #[.val (.ref a), .val (.ref b), .unset] [(.int (1 : Int32))])) st26 ?_
  refine Goes.by (T' := T26) (g' := (mkF m 7 #[.val (.ref a), .val (.ref b), .unset] [])) (fun _ k => XS.ifNo X26.here hx rfl (hb hby d7_4) rfl (by decide) k) ?_
  refine Goes.by (T' := T26) (g' := (mkF m 8 #[.val (.ref a), .val (.ref b), .unset] [(.ref b)])) (fun _ k => XS.aloadN X26.here hx rfl (hb hby d7_7) rfl rfl k) ?_
  obtain ⟨T27, X27, e27, st27⟩ := castY X26 hx hZ hown (hw _ (List.mem_of_getElem? (i := 38) rfl)) e26 (Ins.self EB) (g := (mkF m 8 #[.val (.ref a), .val (.ref b), .unset] [(.ref b)])) rfl rfl (hb hby d7_8)
  refine Goes.by (T' := T27) (g' := (mkF m 11 #[.val (.ref a), .val (.ref b), .unset] [(.ref b)])) st27 ?_
  refine Goes.by (T' := T27) (g' := (mkF m 12 #[.val (.ref a), .val (.ref b), .val (.ref b)] [])) (fun _ k => XS.astoreN X27.here hx rfl (hb hby d7_11) rfl rfl (l' := #[.val (.ref a), .val (.ref b), .val (.ref b)]) rfl k) ?_
  refine Goes.by (T' := T27) (g' := (mkF m 17 #[.val (.ref a), .val (.ref b), .val (.ref b)] [])) (fun _ k => XS.goto X27.here hx rfl (pc0 := 12) (pc' := 17) rfl (hb hby d7_12) (by decide) (by decide) k) ?_
  refine Goes.by (T' := T27) (g' := (mkF m 18 #[.val (.ref a), .val (.ref b), .val (.ref b)] [(.ref a)])) (fun _ k => XS.aloadN X27.here hx rfl (hb hby d7_17) rfl rfl k) ?_
  obtain ⟨T28, X28, e28, st28⟩ := getF X27 hx hZ hown (host := "") (Or.inl (hw _ (List.mem_of_getElem? (i := 22) rfl))) Via.refl e27 F_begin_a (g := (mkF m 18 #[.val (.ref a), .val (.ref b), .val (.ref b)] [(.ref a)])) rfl rfl (hb hby d7_18)
  refine Goes.by (T' := T28) (g' := (mkF m 21 #[.val (.ref a), .val (.ref b), .val (.ref b)] [(.double u0)])) st28 ?_
  refine Goes.by (T' := T28) (g' := (mkF m 22 #[.val (.ref a), .val (.ref b), .val (.ref b)] [(.ref b), (.double u0)])) (fun _ k => XS.aloadN X28.here hx rfl (hb hby d7_21) rfl rfl k) ?_
  obtain ⟨T29, X29, e29, st29⟩ := getF X28 hx hZ hown (host := "") (Or.inl (hw _ (List.mem_of_getElem? (i := 22) rfl))) Via.refl e28 F_begin_b (g := (mkF m 22 #[.val (.ref a), .val (.ref b), .val (.ref b)] [(.ref b), (.double u0)])) rfl rfl (hb hby d7_22)
  refine Goes.by (T' := T29) (g' := (mkF m 25 #[.val (.ref a), .val (.ref b), .val (.ref b)] [(.double v0), (.double u0)])) st29 ?_
  obtain ⟨v30, T30, L30, X30, hQ30, st30⟩ := callC X29 hx hZ (y := (⟨"java/lang/Double", "compare", "(DD)I"⟩ : MethodName)) hown (hw _ (List.mem_of_getElem? (i := 40) rfl)) (hw _ (List.mem_of_getElem? (i := 41) rfl)) (hw _ (List.mem_of_getElem? (i := 42) rfl)) (hw _ (List.mem_of_getElem? (i := 15) rfl)) (by decide) e29 (argsL := [(.double u0), (.double v0)]) (rest := []) (W := 0) (rm_cmp1 l Z a0 hw u0 v0 i0 j0 h0 n0 Z0 U0 V0 h0q) rfl (by decide) (by decide) (by decide) (by decide) (g := (mkF m 25 #[.val (.ref a), .val (.ref b), .val (.ref b)] [(.double v0), (.double u0)])) rfl (by rw [hml]; rfl) (lenOf pd5 rfl) rfl (by show 2 * 0 + _ ≤ _; exact Nat.le_of_eq rfl) (hb hby d7_25)
  obtain ⟨rfl, NL30, hk30⟩ := hQ30
  have N0 := Fr.app N0 NL30
  refine Goes.by (T' := T30) (g' := (mkF m 28 #[.val (.ref a), .val (.ref b), .val (.ref b)] [(.int (0 : Int32))])) st30 ?_
  refine Goes.by (T' := T30) (g' := (mkF m 31 #[.val (.ref a), .val (.ref b), .val (.ref b)] [])) (fun _ k => XS.ifNo X30.here hx rfl (hb hby d7_28) rfl (by decide) k) ?_
  refine Goes.by (T' := T30) (g' := (mkF m 32 #[.val (.ref a), .val (.ref b), .val (.ref b)] [(.ref a)])) (fun _ k => XS.aloadN X30.here hx rfl (hb hby d7_31) rfl rfl k) ?_
  obtain ⟨T31, X31, e31, st31⟩ := getF X30 hx hZ hown (host := "") (Or.inl (hw _ (List.mem_of_getElem? (i := 24) rfl))) Via.refl hk30 F_end_a (g := (mkF m 32 #[.val (.ref a), .val (.ref b), .val (.ref b)] [(.ref a)])) rfl rfl (hb hby d7_32)
  refine Goes.by (T' := T31) (g' := (mkF m 35 #[.val (.ref a), .val (.ref b), .val (.ref b)] [(.double u1)])) st31 ?_
  refine Goes.by (T' := T31) (g' := (mkF m 36 #[.val (.ref a), .val (.ref b), .val (.ref b)] [(.ref b), (.double u1)])) (fun _ k => XS.aloadN X31.here hx rfl (hb hby d7_35) rfl rfl k) ?_
  obtain ⟨T32, X32, e32, st32⟩ := getF X31 hx hZ hown (host := "") (Or.inl (hw _ (List.mem_of_getElem? (i := 24) rfl))) Via.refl e31 F_end_b (g := (mkF m 36 #[.val (.ref a), .val (.ref b), .val (.ref b)] [(.ref b), (.double u1)])) rfl rfl (hb hby d7_36)
  refine Goes.by (T' := T32) (g' := (mkF m 39 #[.val (.ref a), .val (.ref b), .val (.ref b)] [(.double v1), (.double u1)])) st32 ?_
  obtain ⟨v33, T33, L33, X33, hQ33, st33⟩ := callC X32 hx hZ (y := (⟨"java/lang/Double", "compare", "(DD)I"⟩ : MethodName)) hown (hw _ (List.mem_of_getElem? (i := 40) rfl)) (hw _ (List.mem_of_getElem? (i := 41) rfl)) (hw _ (List.mem_of_getElem? (i := 42) rfl)) (hw _ (List.mem_of_getElem? (i := 15) rfl)) (by decide) e32 (argsL := [(.double u1), (.double v1)]) (rest := []) (W := 0) (rm_cmp0 l Z a0 hw u1 v1 i1 j1 h0 n0 Z0 U1 V1 h1q) rfl (by decide) (by decide) (by decide) (by decide) (g := (mkF m 39 #[.val (.ref a), .val (.ref b), .val (.ref b)] [(.double v1), (.double u1)])) rfl (by rw [hml]; rfl) (lenOf pd5 rfl) rfl (by show 2 * 0 + _ ≤ _; exact Nat.le_of_eq rfl) (hb hby d7_39)
  obtain ⟨⟨r1, rfl, hr1⟩, NL33, hk33⟩ := hQ33
  have N0 := Fr.app N0 NL33
  refine Goes.by (T' := T33) (g' := (mkF m 42 #[.val (.ref a), .val (.ref b), .val (.ref b)] [(.int r1)])) st33 ?_
  refine Goes.by (T' := T33) (g' := (mkF m 49 #[.val (.ref a), .val (.ref b), .val (.ref b)] [])) (fun _ k => XS.ifYes X33.here hx rfl (pc0 := 42) (pc' := 49) rfl (hb hby d7_42) rfl ((if0 _ _).trans (feq hr1).2) (by decide) (by decide) k) ?_
  refine Goes.by (T' := T33) (g' := (mkF m 50 #[.val (.ref a), .val (.ref b), .val (.ref b)] [(.int (0 : Int32))])) (fun _ k => XS.iconst X33.here hx rfl (hb hby d7_49)  k) ?_
  exact outZ X33 hx hlk hret (hb hby d7_50) (by rw [hk33]; exact ⟨rfl, N0, rfl⟩) (by decide) (by decide)
theorem ef_rm_eqnull (m : MethodId) (x0 : Addr) : entryFrame m #[(.ref x0), .null] 3 = mkF m 0 #[.val (.ref x0), .val .null, .unset] [] := by first | (simp [entryFrame, mkF, argsToLocals, Value.category, maxLocals]; done) | rfl
set_option maxRecDepth 65536 in
set_option maxHeartbeats 40000000 in
theorem rm_eqnull (l : Launch) (Z : State) (a0 : Array Value) (hw : ∀ d ∈ tables_1, d.before a0 Z = true) (a : Addr) (h0 : Heap) (n0 : Nat) (Z0 : n0 ≤ h0.size)  :
    Does l (⟨"com/example/gaugefit/gaugefit/core/Interval", "equals", "(Ljava/lang/Object;)Z"⟩ : MethodName) prog_9_method_5_code 3 (some .boolean) [] ({ frames := 0, cells := 0, slots := 0, locals := 0 } : Room) Z #[(.ref a), .null] h0 (fun v h L => v = some (.int 0) ∧ Fr n0 L ∧ h = h0) := by
  refine Does.of (plainFor_of_name pn2) ?_
  intro p e s m below meth c s₁ hx hby hml hret hlk hZ hown hnm X0 e0
  have N0 := Fr.nil n0
  refine Goes.cast (g' := mkF m 0 #[.val (.ref a), .val .null, .unset] []) (ef_rm_eqnull m a) ?_
  refine Goes.by (T' := s₁) (g' := (mkF m 1 #[.val (.ref a), .val .null, .unset] [.null])) (fun _ k => XS.aloadN X0.here hx rfl (hb hby d7_0) rfl rfl k) ?_
  refine Goes.by (T' := s₁) (g' := (mkF m 4 #[.val (.ref a), .val .null, .unset] [(.int (0 : Int32))])) (X0.instanceofNull hx (g := (mkF m 1 #[.val (.ref a), .val .null, .unset] [.null])) rfl rfl (hb hby d7_1)) ?_
  refine Goes.by (T' := s₁) (g' := (mkF m 15 #[.val (.ref a), .val .null, .unset] [])) (fun _ k => XS.ifYes X0.here hx rfl (pc0 := 4) (pc' := 15) rfl (hb hby d7_4) rfl (by decide) (by decide) (by decide) k) ?_
  refine Goes.by (T' := s₁) (g' := (mkF m 16 #[.val (.ref a), .val .null, .unset] [(.int (0 : Int32))])) (fun _ k => XS.iconst X0.here hx rfl (hb hby d7_15)  k) ?_
  exact outZ X0 hx hlk hret (hb hby d7_16) (by rw [e0]; exact ⟨rfl, N0, rfl⟩) (by decide) (by decide)
theorem ef_rm_eqfor (m : MethodId) (x0 : Addr) (x1 : Addr) : entryFrame m #[(.ref x0), (.ref x1)] 3 = mkF m 0 #[.val (.ref x0), .val (.ref x1), .unset] [] := by first | (simp [entryFrame, mkF, argsToLocals, Value.category, maxLocals]; done) | rfl
set_option maxRecDepth 65536 in
set_option maxHeartbeats 40000000 in
theorem rm_eqfor (l : Launch) (Z : State) (a0 : Array Value) (hw : ∀ d ∈ tables_1, d.before a0 Z = true) (a b : Addr) (h0 : Heap) (n0 : Nat) (Z0 : n0 ≤ h0.size) (EB : Exa Z h0 b "java/lang/Integer") (hno : ∃ c t, Z.vm.findClass "java/lang/Integer" = some c ∧ Z.vm.findClass "com/example/gaugefit/gaugefit/core/Interval" = some t ∧ Z.vm.assignable c t = false) :
    Does l (⟨"com/example/gaugefit/gaugefit/core/Interval", "equals", "(Ljava/lang/Object;)Z"⟩ : MethodName) prog_9_method_5_code 3 (some .boolean) [] ({ frames := 0, cells := 0, slots := 0, locals := 0 } : Room) Z #[(.ref a), (.ref b)] h0 (fun v h L => v = some (.int 0) ∧ Fr n0 L ∧ h = h0) := by
  refine Does.of (plainFor_of_name pn2) ?_
  intro p e s m below meth c s₁ hx hby hml hret hlk hZ hown hnm X0 e0
  have N0 := Fr.nil n0
  refine Goes.cast (g' := mkF m 0 #[.val (.ref a), .val (.ref b), .unset] []) (ef_rm_eqfor m a b) ?_
  refine Goes.by (T' := s₁) (g' := (mkF m 1 #[.val (.ref a), .val (.ref b), .unset] [(.ref b)])) (fun _ k => XS.aloadN X0.here hx rfl (hb hby d7_0) rfl rfl k) ?_
  obtain ⟨T35, X35, e35, st35⟩ := instNo X0 hx hZ hown (hw _ (List.mem_of_getElem? (i := 38) rfl)) e0 EB hno (g := (mkF m 1 #[.val (.ref a), .val (.ref b), .unset] [(.ref b)])) rfl rfl (hb hby d7_1)
  refine Goes.by (T' := T35) (g' := (mkF m 4 #[.val (.ref a), .val (.ref b), .unset] [(.int (0 : Int32))])) st35 ?_
  refine Goes.by (T' := T35) (g' := (mkF m 15 #[.val (.ref a), .val (.ref b), .unset] [])) (fun _ k => XS.ifYes X35.here hx rfl (pc0 := 4) (pc' := 15) rfl (hb hby d7_4) rfl (by decide) (by decide) (by decide) k) ?_
  refine Goes.by (T' := T35) (g' := (mkF m 16 #[.val (.ref a), .val (.ref b), .unset] [(.int (0 : Int32))])) (fun _ k => XS.iconst X35.here hx rfl (hb hby d7_15)  k) ?_
  exact outZ X35 hx hlk hret (hb hby d7_16) (by rw [e35]; exact ⟨rfl, N0, rfl⟩) (by decide) (by decide)
theorem d12_0 : decode jdk_18_method_1_code 0 = .ok (.aload_n 0, 1) := by decide +kernel
theorem d12_1 : decode jdk_18_method_1_code 1 = .ok (.invokespecial 1, 3) := by decide +kernel
theorem d12_4 : decode jdk_18_method_1_code 4 = .ok (.return_, 1) := by decide +kernel
theorem pn3 : plainName "java/lang/Number" = true := by first | (simp [plainName, overriddenIn]; done) | decide +kernel
theorem pd7 : parseMethodDescriptor "()V" = some ⟨[], none⟩ := by decide +kernel
theorem ef_rm_num (m : MethodId) (x0 : Addr) : entryFrame m #[(.ref x0)] 1 = mkF m 0 #[.val (.ref x0)] [] := by first | (simp [entryFrame, mkF, argsToLocals, Value.category, maxLocals]; done) | rfl
set_option maxRecDepth 65536 in
set_option maxHeartbeats 40000000 in
theorem rm_num (l : Launch) (Z : State) (a0 : Array Value) (hw : ∀ d ∈ tables_1, d.before a0 Z = true) (a : Addr) (h0 : Heap) (n0 : Nat) (Z0 : n0 ≤ h0.size)  :
    Does l (⟨"java/lang/Number", "<init>", "()V"⟩ : MethodName) jdk_18_method_1_code 1 none [] ({ frames := 1, cells := 0, slots := 0, locals := 12 } : Room) Z #[(.ref a)] h0 (fun v h L => v = none ∧ Fr n0 L ∧ h = h0) := by
  refine Does.of (plainFor_of_name pn3) ?_
  intro p e s m below meth c s₁ hx hby hml hret hlk hZ hown hnm X0 e0
  have N0 := Fr.nil n0
  refine Goes.cast (g' := mkF m 0 #[.val (.ref a)] []) (ef_rm_num m a) ?_
  refine Goes.by (T' := s₁) (g' := (mkF m 1 #[.val (.ref a)] [(.ref a)])) (fun _ k => XS.aloadN X0.here hx rfl (hb hby d12_0) rfl rfl k) ?_
  obtain ⟨T36, X36, e36, st36⟩ := initO X0 hx hZ hown (hw _ (List.mem_of_getElem? (i := 67) rfl)) (hw _ (List.mem_of_getElem? (i := 11) rfl)) (hw _ (List.mem_of_getElem? (i := 12) rfl)) e0 (g := (mkF m 1 #[.val (.ref a)] [(.ref a)])) rfl (by rw [hml]; rfl) rfl (hb hby d12_1) (by decide) (W := 0) (by show 2 * 0 + _ ≤ _; exact Nat.le_of_eq rfl) (by decide)
  refine Goes.by (T' := T36) (g' := (mkF m 4 #[.val (.ref a)] [])) st36 ?_
  exact outV X36 hx hlk hret (hb hby d12_4) (by rw [e36]; exact ⟨rfl, N0, rfl⟩) (by decide) (by decide)
theorem d11_0 : decode jdk_33_method_23_code 0 = .ok (.aload_n 0, 1) := by decide +kernel
theorem d11_1 : decode jdk_33_method_23_code 1 = .ok (.invokespecial 202, 3) := by decide +kernel
theorem d11_4 : decode jdk_33_method_23_code 4 = .ok (.aload_n 0, 1) := by decide +kernel
theorem d11_5 : decode jdk_33_method_23_code 5 = .ok (.iload_n 1, 1) := by decide +kernel
theorem d11_6 : decode jdk_33_method_23_code 6 = .ok (.putfield 205, 3) := by decide +kernel
theorem d11_9 : decode jdk_33_method_23_code 9 = .ok (.return_, 1) := by decide +kernel
theorem pn4 : plainName "java/lang/Integer" = true := by first | (simp [plainName, overriddenIn]; done) | decide +kernel
theorem pd8 : parseMethodDescriptor "(I)V" = some ⟨[.int], none⟩ := by decide +kernel
theorem ef_rm_int (m : MethodId) (x0 : Addr) (x1 : Int32) : entryFrame m #[(.ref x0), (.int x1)] 2 = mkF m 0 #[.val (.ref x0), .val (.int x1)] [] := by first | (simp [entryFrame, mkF, argsToLocals, Value.category, maxLocals]; done) | rfl
set_option maxRecDepth 65536 in
set_option maxHeartbeats 40000000 in
theorem rm_int (l : Launch) (Z : State) (a0 : Array Value) (hw : ∀ d ∈ tables_1, d.before a0 Z = true) (a : Addr) (x : Int32) (h0 : Heap) (n0 : Nat) (Z0 : n0 ≤ h0.size) (EA : Exa Z h0 a "java/lang/Integer") (FV : Fld Z h0 a "java/lang/Integer" "value" "I" (.int (0 : Int32))) (ga : n0 ≤ a) :
    Does l (⟨"java/lang/Integer", "<init>", "(I)V"⟩ : MethodName) jdk_33_method_23_code 2 none [] ({ frames := 2, cells := 0, slots := 0, locals := 24 } : Room) Z #[(.ref a), (.int x)] h0 (fun v h L => v = none ∧ Exa Z h a "java/lang/Integer" ∧ Keep h0 h [a] ∧ Fr n0 L) := by
  refine Does.of (plainFor_of_name pn4) ?_
  intro p e s m below meth c s₁ hx hby hml hret hlk hZ hown hnm X0 e0
  have N0 := Fr.nil n0
  refine Goes.cast (g' := mkF m 0 #[.val (.ref a), .val (.int x)] []) (ef_rm_int m a x) ?_
  have K0 := Keep.refl h0 [a]
  refine Goes.by (T' := s₁) (g' := (mkF m 1 #[.val (.ref a), .val (.int x)] [(.ref a)])) (fun _ k => XS.aloadN X0.here hx rfl (hb hby d11_0) rfl rfl k) ?_
  obtain ⟨v37, T37, L37, X37, hQ37, st37⟩ := callI X0 hx hZ (y := (⟨"java/lang/Number", "<init>", "()V"⟩ : MethodName)) rfl hown (hw _ (List.mem_of_getElem? (i := 61) rfl)) (hw _ (List.mem_of_getElem? (i := 62) rfl)) (hw _ (List.mem_of_getElem? (i := 66) rfl)) (hw _ (List.mem_of_getElem? (i := 65) rfl)) (by decide) e0 (a := a) (argsL := []) (rest := []) (W := 0) (rm_num l Z a0 hw a h0 n0 Z0) rfl (by decide) (by decide) (by decide) (by decide) (g := (mkF m 1 #[.val (.ref a), .val (.int x)] [(.ref a)])) rfl (by rw [hml]; rfl) (lenOf pd7 rfl) rfl (by show 2 * 0 + _ ≤ _; exact Nat.le_of_eq rfl) (hb hby d11_1)
  obtain ⟨rfl, NL37, hk37⟩ := hQ37
  have N0 := Fr.app N0 NL37
  refine Goes.by (T' := T37) (g' := (mkF m 4 #[.val (.ref a), .val (.int x)] [])) st37 ?_
  refine Goes.by (T' := T37) (g' := (mkF m 5 #[.val (.ref a), .val (.int x)] [(.ref a)])) (fun _ k => XS.aloadN X37.here hx rfl (hb hby d11_4) rfl rfl k) ?_
  refine Goes.by (T' := T37) (g' := (mkF m 6 #[.val (.ref a), .val (.int x)] [(.int x), (.ref a)])) (fun _ k => XS.iloadN X37.here hx rfl (hb hby d11_5) rfl k) ?_
  obtain ⟨T38, h38, X38, e38, W38, st38⟩ := putF X37 hx hZ hown (host := "") (Or.inl (hw _ (List.mem_of_getElem? (i := 68) rfl))) Via.refl hk37 FV EA (Or.inr ⟨(hw _ (List.mem_of_getElem? (i := 69) rfl)), rfl, hnm⟩) (hw _ (List.mem_of_getElem? (i := 56) rfl)) (ty := .int) (by decide) rfl rfl (g := (mkF m 6 #[.val (.ref a), .val (.int x)] [(.int x), (.ref a)])) rfl rfl (hb hby d11_6)
  have N0 := Fr.snoc X38 N0 ga
  have EA := EA.wr W38
  have FV := FV.same W38
  have Z0 := Nat.le_trans Z0 (Nat.le_of_eq W38.size.symm)
  have K0 := K0.wr W38 (Or.inl (List.mem_singleton.mpr rfl))
  refine Goes.by (T' := T38) (g' := (mkF m 9 #[.val (.ref a), .val (.int x)] [])) st38 ?_
  exact outV X38 hx hlk hret (hb hby d11_9) (by rw [e38]; exact ⟨rfl, EA, K0, N0⟩) (by decide) (by decide)
theorem d6_0 : decode jdk_33_method_22_code 0 = .ok (.iload_n 0, 1) := by decide +kernel
theorem d6_1 : decode jdk_33_method_22_code 1 = .ok (.bipush (-128), 2) := by decide +kernel
theorem d6_3 : decode jdk_33_method_22_code 3 = .ok (.if_icmp .lt 20, 3) := by decide +kernel
theorem d6_6 : decode jdk_33_method_22_code 6 = .ok (.iload_n 0, 1) := by decide +kernel
theorem d6_7 : decode jdk_33_method_22_code 7 = .ok (.getstatic 191, 3) := by decide +kernel
theorem d6_10 : decode jdk_33_method_22_code 10 = .ok (.if_icmp .gt 13, 3) := by decide +kernel
theorem d6_13 : decode jdk_33_method_22_code 13 = .ok (.getstatic 195, 3) := by decide +kernel
theorem d6_16 : decode jdk_33_method_22_code 16 = .ok (.iload_n 0, 1) := by decide +kernel
theorem d6_17 : decode jdk_33_method_22_code 17 = .ok (.sipush 128, 3) := by decide +kernel
theorem d6_20 : decode jdk_33_method_22_code 20 = .ok (.iadd, 1) := by decide +kernel
theorem d6_21 : decode jdk_33_method_22_code 21 = .ok (.aaload, 1) := by decide +kernel
theorem d6_22 : decode jdk_33_method_22_code 22 = .ok (.areturn, 1) := by decide +kernel
theorem d6_23 : decode jdk_33_method_22_code 23 = .ok (.new 1, 3) := by decide +kernel
theorem d6_26 : decode jdk_33_method_22_code 26 = .ok (.dup, 1) := by decide +kernel
theorem d6_27 : decode jdk_33_method_22_code 27 = .ok (.iload_n 0, 1) := by decide +kernel
theorem d6_28 : decode jdk_33_method_22_code 28 = .ok (.invokespecial 199, 3) := by decide +kernel
theorem d6_31 : decode jdk_33_method_22_code 31 = .ok (.areturn, 1) := by decide +kernel
theorem pd9 : parseMethodDescriptor "(I)Ljava/lang/Integer;" = some ⟨[.int], some (.object "java/lang/Integer")⟩ := by decide +kernel
theorem ef_rm_vof (m : MethodId) (x0 : Int32) : entryFrame m #[(.int x0)] 1 = mkF m 0 #[.val (.int x0)] [] := by first | (simp [entryFrame, mkF, argsToLocals, Value.category, maxLocals]; done) | rfl
set_option maxRecDepth 65536 in
set_option maxHeartbeats 40000000 in
theorem rm_vof (l : Launch) (Z : State) (a0 : Array Value) (hw : ∀ d ∈ tables_1, d.before a0 Z = true) (x : Int32) (h0 : Heap) (n0 : Nat) (Z0 : n0 ≤ h0.size) (hC : OwnCache Z h0) :
    Does l (⟨"java/lang/Integer", "valueOf", "(I)Ljava/lang/Integer;"⟩ : MethodName) jdk_33_method_22_code 1 (some (.object "java/lang/Integer")) [] ({ frames := 3, cells := 1, slots := 1, locals := 38 } : Room) Z #[(.int x)] h0 (fun v h L => ∃ r, v = some (.ref r) ∧ Exa Z h r "java/lang/Integer" ∧ Keep h0 h [] ∧ Fr n0 L) := by
  refine Does.of (plainFor_of_name pn4) ?_
  intro p e s m below meth c s₁ hx hby hml hret hlk hZ hown hnm X0 e0
  have N0 := Fr.nil n0
  refine Goes.cast (g' := mkF m 0 #[.val (.int x)] []) (ef_rm_vof m x) ?_
  have K0 := Keep.refl h0 []
  obtain ⟨SH, ca, cl, SC, AC, hsz, hel⟩ := hC
  refine Goes.by (T' := s₁) (g' := (mkF m 1 #[.val (.int x)] [(.int x)])) (fun _ k => XS.iloadN X0.here hx rfl (hb hby d6_0) rfl k) ?_
  refine Goes.by (T' := s₁) (g' := (mkF m 3 #[.val (.int x)] [(.int (-128 : Int32)), (.int x)])) (fun _ k => XS.bipush X0.here hx rfl (hb hby d6_1)  k) ?_
  by_cases hlo : x < (-128 : Int32)
  · refine Goes.by (T' := s₁) (g' := (mkF m 23 #[.val (.int x)] [])) (fun _ k => XS.icmpYes X0.here hx rfl (pc0 := 3) (pc' := 23) rfl (hb hby d6_3) rfl (tlt hlo).1 (by decide) (by decide) k) ?_
    obtain ⟨T39, h39, X39, e39, E39, A39, D39, -, st39⟩ := newO X0 hx hZ hown (hw _ (List.mem_of_getElem? (i := 55) rfl)) (hw _ (List.mem_of_getElem? (i := 56) rfl)) (hw _ (List.mem_of_getElem? (i := 28) rfl)) e0 (g := (mkF m 23 #[.val (.int x)] [])) rfl (hb hby d6_23) (by decide) (by decide)
    obtain ⟨r, g39⟩ : ∃ z, z = h0.size := ⟨_, rfl⟩
    rw [← g39] at A39 D39 st39
    have ge_r : n0 ≤ r := Nat.le_trans Z0 (Nat.le_of_eq g39.symm)
    have sz_r : h0.size ≤ r := Nat.le_trans K0.1 (Nat.le_of_eq g39.symm)
    have Z0 := Nat.le_trans Z0 E39.1
    have K0 := K0.ext E39
    have E_r := A39
    have F_value_r : Fld Z h39 r "java/lang/Integer" "value" "I" (.int (0 : Int32)) := D39 (Or.inr (hw _ (List.mem_of_getElem? (i := 69) rfl))) (ty := .int) (by decide)
    refine Goes.by (T' := T39) (g' := (mkF m 26 #[.val (.int x)] [(.ref r)])) st39 ?_
    refine Goes.by (T' := T39) (g' := (mkF m 27 #[.val (.int x)] [(.ref r), (.ref r)])) (fun _ k => XS.dup X39.here hx rfl (hb hby d6_26) rfl rfl k) ?_
    refine Goes.by (T' := T39) (g' := (mkF m 28 #[.val (.int x)] [(.int x), (.ref r), (.ref r)])) (fun _ k => XS.iloadN X39.here hx rfl (hb hby d6_27) rfl k) ?_
    obtain ⟨v40, T40, L40, X40, hQ40, st40⟩ := callI X39 hx hZ (y := (⟨"java/lang/Integer", "<init>", "(I)V"⟩ : MethodName)) rfl hown (hw _ (List.mem_of_getElem? (i := 57) rfl)) (hw _ (List.mem_of_getElem? (i := 58) rfl)) (hw _ (List.mem_of_getElem? (i := 60) rfl)) (hw _ (List.mem_of_getElem? (i := 28) rfl)) (by decide) e39 (a := r) (argsL := [(.int x)]) (rest := [(.ref r)]) (W := 1) (rm_int l Z a0 hw r x h39 n0 Z0 E_r F_value_r ge_r) rfl (by decide) (by decide) (by decide) (by decide) (g := (mkF m 28 #[.val (.int x)] [(.int x), (.ref r), (.ref r)])) rfl (by rw [hml]; rfl) (lenOf pd8 rfl) rfl (by show 2 * 0 + _ ≤ _; exact Nat.le_of_eq rfl) (hb hby d6_28)
    obtain ⟨rfl, ER, K40, NL40⟩ := hQ40
    have N0 := Fr.app N0 NL40
    have e40 : T40.heap = T40.heap := rfl
    have E_r := E_r.keep K40
    have Z0 := Nat.le_trans Z0 K40.1
    have K0 := K0.trans K40 (allS (Or.inr sz_r) all0)
    refine Goes.by (T' := T40) (g' := (mkF m 31 #[.val (.int x)] [(.ref r)])) st40 ?_
    exact outA X40 hx hlk hret rfl rfl rfl (hb hby d6_31) (by rw [e40]; exact ⟨r, rfl, E_r, K0, N0⟩) (by decide) (by decide)
  · refine Goes.by (T' := s₁) (g' := (mkF m 6 #[.val (.int x)] [])) (fun _ k => XS.icmpNo X0.here hx rfl (hb hby d6_3) rfl (flt hlo).1 k) ?_
    refine Goes.by (T' := s₁) (g' := (mkF m 7 #[.val (.int x)] [(.int x)])) (fun _ k => XS.iloadN X0.here hx rfl (hb hby d6_6) rfl k) ?_
    obtain ⟨T41, X41, e41, st41⟩ := getS X0 hx hZ (host := "") hown (hw _ (List.mem_of_getElem? (i := 30) rfl)) Via.refl e0 SH (g := (mkF m 7 #[.val (.int x)] [(.int x)])) rfl (hb hby d6_7)
    refine Goes.by (T' := T41) (g' := (mkF m 10 #[.val (.int x)] [(.int (127 : Int32)), (.int x)])) st41 ?_
    by_cases hhi : (127 : Int32) < x
    · refine Goes.by (T' := T41) (g' := (mkF m 23 #[.val (.int x)] [])) (fun _ k => XS.icmpYes X41.here hx rfl (pc0 := 10) (pc' := 23) rfl (hb hby d6_10) rfl (tlt hhi).2.2.1 (by decide) (by decide) k) ?_
      obtain ⟨T42, h42, X42, e42, E42, A42, D42, -, st42⟩ := newO X41 hx hZ hown (hw _ (List.mem_of_getElem? (i := 55) rfl)) (hw _ (List.mem_of_getElem? (i := 56) rfl)) (hw _ (List.mem_of_getElem? (i := 28) rfl)) e41 (g := (mkF m 23 #[.val (.int x)] [])) rfl (hb hby d6_23) (by decide) (by decide)
      obtain ⟨r, g42⟩ : ∃ z, z = h0.size := ⟨_, rfl⟩
      rw [← g42] at A42 D42 st42
      have ge_r : n0 ≤ r := Nat.le_trans Z0 (Nat.le_of_eq g42.symm)
      have sz_r : h0.size ≤ r := Nat.le_trans K0.1 (Nat.le_of_eq g42.symm)
      have Z0 := Nat.le_trans Z0 E42.1
      have K0 := K0.ext E42
      have E_r := A42
      have F_value_r : Fld Z h42 r "java/lang/Integer" "value" "I" (.int (0 : Int32)) := D42 (Or.inr (hw _ (List.mem_of_getElem? (i := 69) rfl))) (ty := .int) (by decide)
      refine Goes.by (T' := T42) (g' := (mkF m 26 #[.val (.int x)] [(.ref r)])) st42 ?_
      refine Goes.by (T' := T42) (g' := (mkF m 27 #[.val (.int x)] [(.ref r), (.ref r)])) (fun _ k => XS.dup X42.here hx rfl (hb hby d6_26) rfl rfl k) ?_
      refine Goes.by (T' := T42) (g' := (mkF m 28 #[.val (.int x)] [(.int x), (.ref r), (.ref r)])) (fun _ k => XS.iloadN X42.here hx rfl (hb hby d6_27) rfl k) ?_
      obtain ⟨v43, T43, L43, X43, hQ43, st43⟩ := callI X42 hx hZ (y := (⟨"java/lang/Integer", "<init>", "(I)V"⟩ : MethodName)) rfl hown (hw _ (List.mem_of_getElem? (i := 57) rfl)) (hw _ (List.mem_of_getElem? (i := 58) rfl)) (hw _ (List.mem_of_getElem? (i := 60) rfl)) (hw _ (List.mem_of_getElem? (i := 28) rfl)) (by decide) e42 (a := r) (argsL := [(.int x)]) (rest := [(.ref r)]) (W := 1) (rm_int l Z a0 hw r x h42 n0 Z0 E_r F_value_r ge_r) rfl (by decide) (by decide) (by decide) (by decide) (g := (mkF m 28 #[.val (.int x)] [(.int x), (.ref r), (.ref r)])) rfl (by rw [hml]; rfl) (lenOf pd8 rfl) rfl (by show 2 * 0 + _ ≤ _; exact Nat.le_of_eq rfl) (hb hby d6_28)
      obtain ⟨rfl, ER, K43, NL43⟩ := hQ43
      have N0 := Fr.app N0 NL43
      have e43 : T43.heap = T43.heap := rfl
      have E_r := E_r.keep K43
      have Z0 := Nat.le_trans Z0 K43.1
      have K0 := K0.trans K43 (allS (Or.inr sz_r) all0)
      refine Goes.by (T' := T43) (g' := (mkF m 31 #[.val (.int x)] [(.ref r)])) st43 ?_
      exact outA X43 hx hlk hret rfl rfl rfl (hb hby d6_31) (by rw [e43]; exact ⟨r, rfl, E_r, K0, N0⟩) (by decide) (by decide)
    · refine Goes.by (T' := T41) (g' := (mkF m 13 #[.val (.int x)] [])) (fun _ k => XS.icmpNo X41.here hx rfl (hb hby d6_10) rfl (flt hhi).2.2.1 k) ?_
      obtain ⟨T44, X44, e44, st44⟩ := getS X41 hx hZ (host := "") hown (hw _ (List.mem_of_getElem? (i := 32) rfl)) Via.refl e41 SC (g := (mkF m 13 #[.val (.int x)] [])) rfl (hb hby d6_13)
      refine Goes.by (T' := T44) (g' := (mkF m 16 #[.val (.int x)] [(.ref ca)])) st44 ?_
      refine Goes.by (T' := T44) (g' := (mkF m 17 #[.val (.int x)] [(.int x), (.ref ca)])) (fun _ k => XS.iloadN X44.here hx rfl (hb hby d6_16) rfl k) ?_
      refine Goes.by (T' := T44) (g' := (mkF m 20 #[.val (.int x)] [(.int (128 : Int32)), (.int x), (.ref ca)])) (fun _ k => XS.sipush X44.here hx rfl (hb hby d6_17)  k) ?_
      refine Goes.by (T' := T44) (g' := (mkF m 21 #[.val (.int x)] [(.int (x + (128 : Int32))), (.ref ca)])) (fun _ k => XS.iadd X44.here hx rfl (hb hby d6_20) rfl k) ?_
      obtain ⟨ix, hix, hix2⟩ : ∃ k : Nat, (x + (128 : Int32)).toInt = k ∧ k < 256 := by
        have t := c_iadd x (128 : Int32)
        have t2 := rng32 (x + (128 : Int32))
        have t3 : (128 : Int32).toInt = 128 := by decide
        have t4 : ¬ x.toInt < -128 := fun q => hlo (Int32.lt_iff_toInt_lt.mpr (by rw [show (-128 : Int32).toInt = -128 from by decide]; exact q))
        have t5 : ¬ 127 < x.toInt := fun q => hhi (Int32.lt_iff_toInt_lt.mpr (by rw [show (127 : Int32).toInt = 127 from by decide]; exact q))
        exact ⟨(x + (128 : Int32)).toInt.toNat, by omega, by omega⟩
      have hnat : (x + (128 : Int32)).toNatClampNeg = ix := Sar.nat hix
      have hin : ¬ ((x + (128 : Int32)) < 0 ∨ cl.slots.size ≤ (x + (128 : Int32)).toNatClampNeg) := by
        rw [hnat, hsz]
        intro q
        rcases q with q | q
        · have := Int32.lt_iff_toInt_lt.mp q
          rw [hix, show (0 : Int32).toInt = 0 from by decide] at this
          omega
        · omega
      obtain ⟨r, hr1, hr2⟩ := hel _ hin
      refine Goes.by (T' := T44) (g' := (mkF m 22 #[.val (.int x)] [(.ref r)])) (X44.aaload hx (j := (x + (128 : Int32))) (v := (.ref r)) (by rw [e44]; exact AC.1) (State.isArrayOf_alike hZ.alike AC.2.1) rfl AC.2.2 hin hr1 (g := (mkF m 21 #[.val (.int x)] [(.int (x + (128 : Int32))), (.ref ca)])) rfl rfl (hb hby d6_21)) ?_
      exact outA X44 hx hlk hret rfl rfl rfl (hb hby d6_22) (by rw [e44]; exact ⟨r, rfl, hr2, K0, N0⟩) (by decide) (by decide)
theorem ef_rm_law (m : MethodId) (x0 : Int32) (x1 : Int32) (x2 : Int32) (x3 : Int32) (x4 : Int32) : entryFrame m #[(.int x0), (.int x1), (.int x2), (.int x3), (.int x4)] maxLocals = mkF m 0 #[.val (.int x0), .val (.int x1), .val (.int x2), .val (.int x3), .val (.int x4), .unset, .unset, .unset, .unset, .unset, .unset, .unset, .unset, .unset, .unset, .unset, .unset, .unset, .unset, .unset, .unset, .unset, .unset, .unset, .unset, .unset] [] := by first | (simp [entryFrame, mkF, argsToLocals, Value.category, maxLocals]; done) | rfl
set_option maxRecDepth 65536 in
set_option maxHeartbeats 40000000 in
theorem rm_law (l : Launch) (Z : State) (a0 : Array Value) (hw : ∀ d ∈ tables_1, d.before a0 Z = true) (x0 x1 x2 x3 x4 : Int32) (h0 : Heap) (n0 : Nat) (Z0 : n0 ≤ h0.size) (hC : OwnCache Z h0) (hno : ∃ c t, Z.vm.findClass "java/lang/Integer" = some c ∧ Z.vm.findClass "com/example/gaugefit/gaugefit/core/Interval" = some t ∧ Z.vm.assignable c t = false) :
    Does l x code maxLocals ret tables_1 room_1 Z #[(.int x0), (.int x1), (.int x2), (.int x3), (.int x4)] h0 (fun v h L => v = some (.int 1) ∧ Fr n0 L) := by
  refine Does.of (plainFor_of_name pn0) ?_
  intro p e s m below meth c s₁ hx hby hml hret hlk hZ hown hnm X0 e0
  have N0 := Fr.nil n0
  refine Goes.cast (g' := mkF m 0 #[.val (.int x0), .val (.int x1), .val (.int x2), .val (.int x3), .val (.int x4), .unset, .unset, .unset, .unset, .unset, .unset, .unset, .unset, .unset, .unset, .unset, .unset, .unset, .unset, .unset, .unset, .unset, .unset, .unset, .unset, .unset] []) (ef_rm_law m x0 x1 x2 x3 x4) ?_
  refine Goes.by (T' := s₁) (g' := (mkF m 1 #[.val (.int x0), .val (.int x1), .val (.int x2), .val (.int x3), .val (.int x4), .unset, .unset, .unset, .unset, .unset, .unset, .unset, .unset, .unset, .unset, .unset, .unset, .unset, .unset, .unset, .unset, .unset, .unset, .unset, .unset, .unset] [(.int x0)])) (fun _ k => XS.iloadN X0.here hx rfl (hb hby at_0) rfl k) ?_
  refine Goes.by (T' := s₁) (g' := (mkF m 2 #[.val (.int x0), .val (.int x1), .val (.int x2), .val (.int x3), .val (.int x4), .unset, .unset, .unset, .unset, .unset, .unset, .unset, .unset, .unset, .unset, .unset, .unset, .unset, .unset, .unset, .unset, .unset, .unset, .unset, .unset, .unset] [(.long ((x0).toInt64))])) (fun _ k => XS.i2l X0.here hx rfl (hb hby at_1) rfl k) ?_
  obtain ⟨b1, q_b1⟩ : ∃ zz : Int64, zz = ((x0).toInt64) := ⟨_, rfl⟩
  rw [← q_b1]
  refine Goes.by (T' := s₁) (g' := (mkF m 4 #[.val (.int x0), .val (.int x1), .val (.int x2), .val (.int x3), .val (.int x4), .val (.long b1), .second, .unset, .unset, .unset, .unset, .unset, .unset, .unset, .unset, .unset, .unset, .unset, .unset, .unset, .unset, .unset, .unset, .unset, .unset, .unset] [])) (fun _ k => XS.lstore X0.here hx rfl (hb hby at_2) rfl (l' := #[.val (.int x0), .val (.int x1), .val (.int x2), .val (.int x3), .val (.int x4), .val (.long b1), .second, .unset, .unset, .unset, .unset, .unset, .unset, .unset, .unset, .unset, .unset, .unset, .unset, .unset, .unset, .unset, .unset, .unset, .unset, .unset]) rfl k) ?_
  refine Goes.by (T' := s₁) (g' := (mkF m 6 #[.val (.int x0), .val (.int x1), .val (.int x2), .val (.int x3), .val (.int x4), .val (.long b1), .second, .unset, .unset, .unset, .unset, .unset, .unset, .unset, .unset, .unset, .unset, .unset, .unset, .unset, .unset, .unset, .unset, .unset, .unset, .unset] [(.long b1)])) (fun _ k => XS.lload X0.here hx rfl (hb hby at_4) rfl k) ?_
  refine Goes.by (T' := s₁) (g' := (mkF m 7 #[.val (.int x0), .val (.int x1), .val (.int x2), .val (.int x3), .val (.int x4), .val (.long b1), .second, .unset, .unset, .unset, .unset, .unset, .unset, .unset, .unset, .unset, .unset, .unset, .unset, .unset, .unset, .unset, .unset, .unset, .unset, .unset] [(.long (1 : Int64)), (.long b1)])) (fun _ k => XS.lconst X0.here hx rfl (hb hby at_6)  k) ?_
  refine Goes.by (T' := s₁) (g' := (mkF m 8 #[.val (.int x0), .val (.int x1), .val (.int x2), .val (.int x3), .val (.int x4), .val (.long b1), .second, .unset, .unset, .unset, .unset, .unset, .unset, .unset, .unset, .unset, .unset, .unset, .unset, .unset, .unset, .unset, .unset, .unset, .unset, .unset] [(.long (b1 + (1 : Int64)))])) (fun _ k => XS.ladd X0.here hx rfl (hb hby at_7) rfl k) ?_
  refine Goes.by (T' := s₁) (g' := (mkF m 9 #[.val (.int x0), .val (.int x1), .val (.int x2), .val (.int x3), .val (.int x4), .val (.long b1), .second, .unset, .unset, .unset, .unset, .unset, .unset, .unset, .unset, .unset, .unset, .unset, .unset, .unset, .unset, .unset, .unset, .unset, .unset, .unset] [(.int x1), (.long (b1 + (1 : Int64)))])) (fun _ k => XS.iloadN X0.here hx rfl (hb hby at_8) rfl k) ?_
  refine Goes.by (T' := s₁) (g' := (mkF m 10 #[.val (.int x0), .val (.int x1), .val (.int x2), .val (.int x3), .val (.int x4), .val (.long b1), .second, .unset, .unset, .unset, .unset, .unset, .unset, .unset, .unset, .unset, .unset, .unset, .unset, .unset, .unset, .unset, .unset, .unset, .unset, .unset] [(.int (3 : Int32)), (.int x1), (.long (b1 + (1 : Int64)))])) (fun _ k => XS.iconst X0.here hx rfl (hb hby at_9)  k) ?_
  refine Goes.by (T' := s₁) (g' := (mkF m 11 #[.val (.int x0), .val (.int x1), .val (.int x2), .val (.int x3), .val (.int x4), .val (.long b1), .second, .unset, .unset, .unset, .unset, .unset, .unset, .unset, .unset, .unset, .unset, .unset, .unset, .unset, .unset, .unset, .unset, .unset, .unset, .unset] [(.int (x1 &&& (3 : Int32))), (.long (b1 + (1 : Int64)))])) (fun _ k => XS.iand X0.here hx rfl (hb hby at_10) rfl k) ?_
  refine Goes.by (T' := s₁) (g' := (mkF m 12 #[.val (.int x0), .val (.int x1), .val (.int x2), .val (.int x3), .val (.int x4), .val (.long b1), .second, .unset, .unset, .unset, .unset, .unset, .unset, .unset, .unset, .unset, .unset, .unset, .unset, .unset, .unset, .unset, .unset, .unset, .unset, .unset] [(.long (((x1 &&& (3 : Int32))).toInt64)), (.long (b1 + (1 : Int64)))])) (fun _ k => XS.i2l X0.here hx rfl (hb hby at_11) rfl k) ?_
  refine Goes.by (T' := s₁) (g' := (mkF m 13 #[.val (.int x0), .val (.int x1), .val (.int x2), .val (.int x3), .val (.int x4), .val (.long b1), .second, .unset, .unset, .unset, .unset, .unset, .unset, .unset, .unset, .unset, .unset, .unset, .unset, .unset, .unset, .unset, .unset, .unset, .unset, .unset] [(.long ((b1 + (1 : Int64)) + (((x1 &&& (3 : Int32))).toInt64)))])) (fun _ k => XS.ladd X0.here hx rfl (hb hby at_12) rfl k) ?_
  obtain ⟨e1, q_e1⟩ : ∃ zz : Int64, zz = ((b1 + (1 : Int64)) + (((x1 &&& (3 : Int32))).toInt64)) := ⟨_, rfl⟩
  rw [← q_e1]
  refine Goes.by (T' := s₁) (g' := (mkF m 15 #[.val (.int x0), .val (.int x1), .val (.int x2), .val (.int x3), .val (.int x4), .val (.long b1), .second, .val (.long e1), .second, .unset, .unset, .unset, .unset, .unset, .unset, .unset, .unset, .unset, .unset, .unset, .unset, .unset, .unset, .unset, .unset, .unset] [])) (fun _ k => XS.lstore X0.here hx rfl (hb hby at_13) rfl (l' := #[.val (.int x0), .val (.int x1), .val (.int x2), .val (.int x3), .val (.int x4), .val (.long b1), .second, .val (.long e1), .second, .unset, .unset, .unset, .unset, .unset, .unset, .unset, .unset, .unset, .unset, .unset, .unset, .unset, .unset, .unset, .unset, .unset]) rfl k) ?_
  refine Goes.by (T' := s₁) (g' := (mkF m 17 #[.val (.int x0), .val (.int x1), .val (.int x2), .val (.int x3), .val (.int x4), .val (.long b1), .second, .val (.long e1), .second, .unset, .unset, .unset, .unset, .unset, .unset, .unset, .unset, .unset, .unset, .unset, .unset, .unset, .unset, .unset, .unset, .unset] [(.long b1)])) (fun _ k => XS.lload X0.here hx rfl (hb hby at_15) rfl k) ?_
  refine Goes.by (T' := s₁) (g' := (mkF m 18 #[.val (.int x0), .val (.int x1), .val (.int x2), .val (.int x3), .val (.int x4), .val (.long b1), .second, .val (.long e1), .second, .unset, .unset, .unset, .unset, .unset, .unset, .unset, .unset, .unset, .unset, .unset, .unset, .unset, .unset, .unset, .unset, .unset] [(.int x2), (.long b1)])) (fun _ k => XS.iloadN X0.here hx rfl (hb hby at_17) rfl k) ?_
  refine Goes.by (T' := s₁) (g' := (mkF m 19 #[.val (.int x0), .val (.int x1), .val (.int x2), .val (.int x3), .val (.int x4), .val (.long b1), .second, .val (.long e1), .second, .unset, .unset, .unset, .unset, .unset, .unset, .unset, .unset, .unset, .unset, .unset, .unset, .unset, .unset, .unset, .unset, .unset] [(.int (3 : Int32)), (.int x2), (.long b1)])) (fun _ k => XS.iconst X0.here hx rfl (hb hby at_18)  k) ?_
  refine Goes.by (T' := s₁) (g' := (mkF m 20 #[.val (.int x0), .val (.int x1), .val (.int x2), .val (.int x3), .val (.int x4), .val (.long b1), .second, .val (.long e1), .second, .unset, .unset, .unset, .unset, .unset, .unset, .unset, .unset, .unset, .unset, .unset, .unset, .unset, .unset, .unset, .unset, .unset] [(.int (x2 &&& (3 : Int32))), (.long b1)])) (fun _ k => XS.iand X0.here hx rfl (hb hby at_19) rfl k) ?_
  refine Goes.by (T' := s₁) (g' := (mkF m 21 #[.val (.int x0), .val (.int x1), .val (.int x2), .val (.int x3), .val (.int x4), .val (.long b1), .second, .val (.long e1), .second, .unset, .unset, .unset, .unset, .unset, .unset, .unset, .unset, .unset, .unset, .unset, .unset, .unset, .unset, .unset, .unset, .unset] [(.int (1 : Int32)), (.int (x2 &&& (3 : Int32))), (.long b1)])) (fun _ k => XS.iconst X0.here hx rfl (hb hby at_20)  k) ?_
  refine Goes.by (T' := s₁) (g' := (mkF m 22 #[.val (.int x0), .val (.int x1), .val (.int x2), .val (.int x3), .val (.int x4), .val (.long b1), .second, .val (.long e1), .second, .unset, .unset, .unset, .unset, .unset, .unset, .unset, .unset, .unset, .unset, .unset, .unset, .unset, .unset, .unset, .unset, .unset] [(.int ((x2 &&& (3 : Int32)) - (1 : Int32))), (.long b1)])) (fun _ k => XS.isub X0.here hx rfl (hb hby at_21) rfl k) ?_
  refine Goes.by (T' := s₁) (g' := (mkF m 23 #[.val (.int x0), .val (.int x1), .val (.int x2), .val (.int x3), .val (.int x4), .val (.long b1), .second, .val (.long e1), .second, .unset, .unset, .unset, .unset, .unset, .unset, .unset, .unset, .unset, .unset, .unset, .unset, .unset, .unset, .unset, .unset, .unset] [(.long ((((x2 &&& (3 : Int32)) - (1 : Int32))).toInt64)), (.long b1)])) (fun _ k => XS.i2l X0.here hx rfl (hb hby at_22) rfl k) ?_
  refine Goes.by (T' := s₁) (g' := (mkF m 24 #[.val (.int x0), .val (.int x1), .val (.int x2), .val (.int x3), .val (.int x4), .val (.long b1), .second, .val (.long e1), .second, .unset, .unset, .unset, .unset, .unset, .unset, .unset, .unset, .unset, .unset, .unset, .unset, .unset, .unset, .unset, .unset, .unset] [(.long (b1 + ((((x2 &&& (3 : Int32)) - (1 : Int32))).toInt64)))])) (fun _ k => XS.ladd X0.here hx rfl (hb hby at_23) rfl k) ?_
  obtain ⟨b2, q_b2⟩ : ∃ zz : Int64, zz = (b1 + ((((x2 &&& (3 : Int32)) - (1 : Int32))).toInt64)) := ⟨_, rfl⟩
  rw [← q_b2]
  refine Goes.by (T' := s₁) (g' := (mkF m 26 #[.val (.int x0), .val (.int x1), .val (.int x2), .val (.int x3), .val (.int x4), .val (.long b1), .second, .val (.long e1), .second, .val (.long b2), .second, .unset, .unset, .unset, .unset, .unset, .unset, .unset, .unset, .unset, .unset, .unset, .unset, .unset, .unset, .unset] [])) (fun _ k => XS.lstore X0.here hx rfl (hb hby at_24) rfl (l' := #[.val (.int x0), .val (.int x1), .val (.int x2), .val (.int x3), .val (.int x4), .val (.long b1), .second, .val (.long e1), .second, .val (.long b2), .second, .unset, .unset, .unset, .unset, .unset, .unset, .unset, .unset, .unset, .unset, .unset, .unset, .unset, .unset, .unset]) rfl k) ?_
  refine Goes.by (T' := s₁) (g' := (mkF m 28 #[.val (.int x0), .val (.int x1), .val (.int x2), .val (.int x3), .val (.int x4), .val (.long b1), .second, .val (.long e1), .second, .val (.long b2), .second, .unset, .unset, .unset, .unset, .unset, .unset, .unset, .unset, .unset, .unset, .unset, .unset, .unset, .unset, .unset] [(.long b2)])) (fun _ k => XS.lload X0.here hx rfl (hb hby at_26) rfl k) ?_
  refine Goes.by (T' := s₁) (g' := (mkF m 29 #[.val (.int x0), .val (.int x1), .val (.int x2), .val (.int x3), .val (.int x4), .val (.long b1), .second, .val (.long e1), .second, .val (.long b2), .second, .unset, .unset, .unset, .unset, .unset, .unset, .unset, .unset, .unset, .unset, .unset, .unset, .unset, .unset, .unset] [(.long (1 : Int64)), (.long b2)])) (fun _ k => XS.lconst X0.here hx rfl (hb hby at_28)  k) ?_
  refine Goes.by (T' := s₁) (g' := (mkF m 30 #[.val (.int x0), .val (.int x1), .val (.int x2), .val (.int x3), .val (.int x4), .val (.long b1), .second, .val (.long e1), .second, .val (.long b2), .second, .unset, .unset, .unset, .unset, .unset, .unset, .unset, .unset, .unset, .unset, .unset, .unset, .unset, .unset, .unset] [(.long (b2 + (1 : Int64)))])) (fun _ k => XS.ladd X0.here hx rfl (hb hby at_29) rfl k) ?_
  refine Goes.by (T' := s₁) (g' := (mkF m 31 #[.val (.int x0), .val (.int x1), .val (.int x2), .val (.int x3), .val (.int x4), .val (.long b1), .second, .val (.long e1), .second, .val (.long b2), .second, .unset, .unset, .unset, .unset, .unset, .unset, .unset, .unset, .unset, .unset, .unset, .unset, .unset, .unset, .unset] [(.int x3), (.long (b2 + (1 : Int64)))])) (fun _ k => XS.iloadN X0.here hx rfl (hb hby at_30) rfl k) ?_
  refine Goes.by (T' := s₁) (g' := (mkF m 32 #[.val (.int x0), .val (.int x1), .val (.int x2), .val (.int x3), .val (.int x4), .val (.long b1), .second, .val (.long e1), .second, .val (.long b2), .second, .unset, .unset, .unset, .unset, .unset, .unset, .unset, .unset, .unset, .unset, .unset, .unset, .unset, .unset, .unset] [(.int (3 : Int32)), (.int x3), (.long (b2 + (1 : Int64)))])) (fun _ k => XS.iconst X0.here hx rfl (hb hby at_31)  k) ?_
  refine Goes.by (T' := s₁) (g' := (mkF m 33 #[.val (.int x0), .val (.int x1), .val (.int x2), .val (.int x3), .val (.int x4), .val (.long b1), .second, .val (.long e1), .second, .val (.long b2), .second, .unset, .unset, .unset, .unset, .unset, .unset, .unset, .unset, .unset, .unset, .unset, .unset, .unset, .unset, .unset] [(.int (x3 &&& (3 : Int32))), (.long (b2 + (1 : Int64)))])) (fun _ k => XS.iand X0.here hx rfl (hb hby at_32) rfl k) ?_
  refine Goes.by (T' := s₁) (g' := (mkF m 34 #[.val (.int x0), .val (.int x1), .val (.int x2), .val (.int x3), .val (.int x4), .val (.long b1), .second, .val (.long e1), .second, .val (.long b2), .second, .unset, .unset, .unset, .unset, .unset, .unset, .unset, .unset, .unset, .unset, .unset, .unset, .unset, .unset, .unset] [(.long (((x3 &&& (3 : Int32))).toInt64)), (.long (b2 + (1 : Int64)))])) (fun _ k => XS.i2l X0.here hx rfl (hb hby at_33) rfl k) ?_
  refine Goes.by (T' := s₁) (g' := (mkF m 35 #[.val (.int x0), .val (.int x1), .val (.int x2), .val (.int x3), .val (.int x4), .val (.long b1), .second, .val (.long e1), .second, .val (.long b2), .second, .unset, .unset, .unset, .unset, .unset, .unset, .unset, .unset, .unset, .unset, .unset, .unset, .unset, .unset, .unset] [(.long ((b2 + (1 : Int64)) + (((x3 &&& (3 : Int32))).toInt64)))])) (fun _ k => XS.ladd X0.here hx rfl (hb hby at_34) rfl k) ?_
  obtain ⟨e2, q_e2⟩ : ∃ zz : Int64, zz = ((b2 + (1 : Int64)) + (((x3 &&& (3 : Int32))).toInt64)) := ⟨_, rfl⟩
  rw [← q_e2]
  have rx := rng32 x0
  have hb1 : b1.toInt = x0.toInt := by rw [q_b1, c_i2l]
  have l1 : (1 : Int64).toInt = 1 := by decide
  have step3 : ∀ (u : Int64) (y : Int32), u.toInt.natAbs ≤ 4294967296 → u.toInt + 1 ≤ (u + (1 : Int64) + (y &&& (3 : Int32)).toInt64).toInt ∧ (u + (1 : Int64) + (y &&& (3 : Int32)).toInt64).toInt ≤ u.toInt + 4 := fun u y hu => by
    have t := c_and y (3 : Int32) (by decide)
    have t2 : (3 : Int32).toInt = 3 := by decide
    have t3 := c_i2l (y &&& (3 : Int32))
    have t4 : (u + (1 : Int64)).toInt = u.toInt + 1 := by rw [own_ladd (by omega) (by omega), l1]
    rw [own_ladd (by omega) (by omega), t4]
    omega
  have he1 : b1.toInt + 1 ≤ e1.toInt ∧ e1.toInt ≤ b1.toInt + 4 := by rw [q_e1]; exact step3 b1 x1 (by omega)
  have hb2 : b1.toInt - 1 ≤ b2.toInt ∧ b2.toInt ≤ b1.toInt + 2 := by
    have t := c_and x2 (3 : Int32) (by decide)
    have t2 : (3 : Int32).toInt = 3 := by decide
    have t3 := c_isub (x2 &&& (3 : Int32)) (1 : Int32)
    have t4 := rng32 ((x2 &&& (3 : Int32)) - (1 : Int32))
    have t5 : (1 : Int32).toInt = 1 := by decide
    have t6 := c_i2l ((x2 &&& (3 : Int32)) - (1 : Int32))
    rw [q_b2, own_ladd (by omega) (by omega)]
    omega
  have he2 : b2.toInt + 1 ≤ e2.toInt ∧ e2.toInt ≤ b2.toInt + 4 := by rw [q_e2]; exact step3 b2 x3 (by omega)
  refine Goes.by (T' := s₁) (g' := (mkF m 37 #[.val (.int x0), .val (.int x1), .val (.int x2), .val (.int x3), .val (.int x4), .val (.long b1), .second, .val (.long e1), .second, .val (.long b2), .second, .val (.long e2), .second, .unset, .unset, .unset, .unset, .unset, .unset, .unset, .unset, .unset, .unset, .unset, .unset, .unset] [])) (fun _ k => XS.lstore X0.here hx rfl (hb hby at_35) rfl (l' := #[.val (.int x0), .val (.int x1), .val (.int x2), .val (.int x3), .val (.int x4), .val (.long b1), .second, .val (.long e1), .second, .val (.long b2), .second, .val (.long e2), .second, .unset, .unset, .unset, .unset, .unset, .unset, .unset, .unset, .unset, .unset, .unset, .unset, .unset]) rfl k) ?_
  refine Goes.by (T' := s₁) (g' := (mkF m 39 #[.val (.int x0), .val (.int x1), .val (.int x2), .val (.int x3), .val (.int x4), .val (.long b1), .second, .val (.long e1), .second, .val (.long b2), .second, .val (.long e2), .second, .unset, .unset, .unset, .unset, .unset, .unset, .unset, .unset, .unset, .unset, .unset, .unset, .unset] [(.int x4)])) (fun _ k => XS.iload X0.here hx rfl (hb hby at_37) rfl k) ?_
  refine Goes.by (T' := s₁) (g' := (mkF m 40 #[.val (.int x0), .val (.int x1), .val (.int x2), .val (.int x3), .val (.int x4), .val (.long b1), .second, .val (.long e1), .second, .val (.long b2), .second, .val (.long e2), .second, .unset, .unset, .unset, .unset, .unset, .unset, .unset, .unset, .unset, .unset, .unset, .unset, .unset] [(.int (1 : Int32)), (.int x4)])) (fun _ k => XS.iconst X0.here hx rfl (hb hby at_39)  k) ?_
  refine Goes.by (T' := s₁) (g' := (mkF m 41 #[.val (.int x0), .val (.int x1), .val (.int x2), .val (.int x3), .val (.int x4), .val (.long b1), .second, .val (.long e1), .second, .val (.long b2), .second, .val (.long e2), .second, .unset, .unset, .unset, .unset, .unset, .unset, .unset, .unset, .unset, .unset, .unset, .unset, .unset] [(.int (x4 &&& (1 : Int32)))])) (fun _ k => XS.iand X0.here hx rfl (hb hby at_40) rfl k) ?_
  have bf0 : ∀ P : State → Prop, Goes p e below P s₁ (mkF m 51 #[.val (.int x0), .val (.int x1), .val (.int x2), .val (.int x3), .val (.int x4), .val (.long b1), .second, .val (.long e1), .second, .val (.long b2), .second, .val (.long e2), .second, .val (.int (own_fl (x4 &&& (1 : Int32)))), .unset, .unset, .unset, .unset, .unset, .unset, .unset, .unset, .unset, .unset, .unset, .unset] []) → Goes p e below P s₁ (mkF m 41 #[.val (.int x0), .val (.int x1), .val (.int x2), .val (.int x3), .val (.int x4), .val (.long b1), .second, .val (.long e1), .second, .val (.long b2), .second, .val (.long e2), .second, .unset, .unset, .unset, .unset, .unset, .unset, .unset, .unset, .unset, .unset, .unset, .unset, .unset] [(.int (x4 &&& (1 : Int32)))]) := by
    intro P kk
    by_cases hc : (x4 &&& (1 : Int32)) = (0 : Int32)
    · refine Goes.by (T' := s₁) (g' := (mkF m 48 #[.val (.int x0), .val (.int x1), .val (.int x2), .val (.int x3), .val (.int x4), .val (.long b1), .second, .val (.long e1), .second, .val (.long b2), .second, .val (.long e2), .second, .unset, .unset, .unset, .unset, .unset, .unset, .unset, .unset, .unset, .unset, .unset, .unset, .unset] [])) (fun _ k => XS.ifYes X0.here hx rfl (pc0 := 41) (pc' := 48) rfl (hb hby at_41) rfl ((if0 _ _).trans (teq hc).1) (by decide) (by decide) k) ?_
      refine Goes.by (T' := s₁) (g' := (mkF m 49 #[.val (.int x0), .val (.int x1), .val (.int x2), .val (.int x3), .val (.int x4), .val (.long b1), .second, .val (.long e1), .second, .val (.long b2), .second, .val (.long e2), .second, .unset, .unset, .unset, .unset, .unset, .unset, .unset, .unset, .unset, .unset, .unset, .unset, .unset] [(.int (0 : Int32))])) (fun _ k => XS.iconst X0.here hx rfl (hb hby at_48)  k) ?_
      refine Goes.by (T' := s₁) (g' := (mkF m 51 #[.val (.int x0), .val (.int x1), .val (.int x2), .val (.int x3), .val (.int x4), .val (.long b1), .second, .val (.long e1), .second, .val (.long b2), .second, .val (.long e2), .second, .val (.int (0 : Int32)), .unset, .unset, .unset, .unset, .unset, .unset, .unset, .unset, .unset, .unset, .unset, .unset] [])) (fun _ k => XS.istore X0.here hx rfl (hb hby at_49) rfl (l' := #[.val (.int x0), .val (.int x1), .val (.int x2), .val (.int x3), .val (.int x4), .val (.long b1), .second, .val (.long e1), .second, .val (.long b2), .second, .val (.long e2), .second, .val (.int (0 : Int32)), .unset, .unset, .unset, .unset, .unset, .unset, .unset, .unset, .unset, .unset, .unset, .unset]) rfl k) ?_
      rw [own_fl_0 hc] at kk
      exact kk
    · refine Goes.by (T' := s₁) (g' := (mkF m 44 #[.val (.int x0), .val (.int x1), .val (.int x2), .val (.int x3), .val (.int x4), .val (.long b1), .second, .val (.long e1), .second, .val (.long b2), .second, .val (.long e2), .second, .unset, .unset, .unset, .unset, .unset, .unset, .unset, .unset, .unset, .unset, .unset, .unset, .unset] [])) (fun _ k => XS.ifNo X0.here hx rfl (hb hby at_41) rfl ((if0 _ _).trans (feq hc).1) k) ?_
      refine Goes.by (T' := s₁) (g' := (mkF m 45 #[.val (.int x0), .val (.int x1), .val (.int x2), .val (.int x3), .val (.int x4), .val (.long b1), .second, .val (.long e1), .second, .val (.long b2), .second, .val (.long e2), .second, .unset, .unset, .unset, .unset, .unset, .unset, .unset, .unset, .unset, .unset, .unset, .unset, .unset] [(.int (1 : Int32))])) (fun _ k => XS.iconst X0.here hx rfl (hb hby at_44)  k) ?_
      refine Goes.by (T' := s₁) (g' := (mkF m 49 #[.val (.int x0), .val (.int x1), .val (.int x2), .val (.int x3), .val (.int x4), .val (.long b1), .second, .val (.long e1), .second, .val (.long b2), .second, .val (.long e2), .second, .unset, .unset, .unset, .unset, .unset, .unset, .unset, .unset, .unset, .unset, .unset, .unset, .unset] [(.int (1 : Int32))])) (fun _ k => XS.goto X0.here hx rfl (pc0 := 45) (pc' := 49) rfl (hb hby at_45) (by decide) (by decide) k) ?_
      refine Goes.by (T' := s₁) (g' := (mkF m 51 #[.val (.int x0), .val (.int x1), .val (.int x2), .val (.int x3), .val (.int x4), .val (.long b1), .second, .val (.long e1), .second, .val (.long b2), .second, .val (.long e2), .second, .val (.int (1 : Int32)), .unset, .unset, .unset, .unset, .unset, .unset, .unset, .unset, .unset, .unset, .unset, .unset] [])) (fun _ k => XS.istore X0.here hx rfl (hb hby at_49) rfl (l' := #[.val (.int x0), .val (.int x1), .val (.int x2), .val (.int x3), .val (.int x4), .val (.long b1), .second, .val (.long e1), .second, .val (.long b2), .second, .val (.long e2), .second, .val (.int (1 : Int32)), .unset, .unset, .unset, .unset, .unset, .unset, .unset, .unset, .unset, .unset, .unset, .unset]) rfl k) ?_
      rw [own_fl_1 hc] at kk
      exact kk
  refine bf0 _ ?_
  obtain ⟨f0, hf0⟩ : ∃ z, z = own_fl (x4 &&& (1 : Int32)) := ⟨_, rfl⟩
  rw [← hf0]
  refine Goes.by (T' := s₁) (g' := (mkF m 53 #[.val (.int x0), .val (.int x1), .val (.int x2), .val (.int x3), .val (.int x4), .val (.long b1), .second, .val (.long e1), .second, .val (.long b2), .second, .val (.long e2), .second, .val (.int f0), .unset, .unset, .unset, .unset, .unset, .unset, .unset, .unset, .unset, .unset, .unset, .unset] [(.int x4)])) (fun _ k => XS.iload X0.here hx rfl (hb hby at_51) rfl k) ?_
  refine Goes.by (T' := s₁) (g' := (mkF m 54 #[.val (.int x0), .val (.int x1), .val (.int x2), .val (.int x3), .val (.int x4), .val (.long b1), .second, .val (.long e1), .second, .val (.long b2), .second, .val (.long e2), .second, .val (.int f0), .unset, .unset, .unset, .unset, .unset, .unset, .unset, .unset, .unset, .unset, .unset, .unset] [(.int (2 : Int32)), (.int x4)])) (fun _ k => XS.iconst X0.here hx rfl (hb hby at_53)  k) ?_
  refine Goes.by (T' := s₁) (g' := (mkF m 55 #[.val (.int x0), .val (.int x1), .val (.int x2), .val (.int x3), .val (.int x4), .val (.long b1), .second, .val (.long e1), .second, .val (.long b2), .second, .val (.long e2), .second, .val (.int f0), .unset, .unset, .unset, .unset, .unset, .unset, .unset, .unset, .unset, .unset, .unset, .unset] [(.int (x4 &&& (2 : Int32)))])) (fun _ k => XS.iand X0.here hx rfl (hb hby at_54) rfl k) ?_
  have bf1 : ∀ P : State → Prop, Goes p e below P s₁ (mkF m 65 #[.val (.int x0), .val (.int x1), .val (.int x2), .val (.int x3), .val (.int x4), .val (.long b1), .second, .val (.long e1), .second, .val (.long b2), .second, .val (.long e2), .second, .val (.int f0), .val (.int (own_fl (x4 &&& (2 : Int32)))), .unset, .unset, .unset, .unset, .unset, .unset, .unset, .unset, .unset, .unset, .unset] []) → Goes p e below P s₁ (mkF m 55 #[.val (.int x0), .val (.int x1), .val (.int x2), .val (.int x3), .val (.int x4), .val (.long b1), .second, .val (.long e1), .second, .val (.long b2), .second, .val (.long e2), .second, .val (.int f0), .unset, .unset, .unset, .unset, .unset, .unset, .unset, .unset, .unset, .unset, .unset, .unset] [(.int (x4 &&& (2 : Int32)))]) := by
    intro P kk
    by_cases hc : (x4 &&& (2 : Int32)) = (0 : Int32)
    · refine Goes.by (T' := s₁) (g' := (mkF m 62 #[.val (.int x0), .val (.int x1), .val (.int x2), .val (.int x3), .val (.int x4), .val (.long b1), .second, .val (.long e1), .second, .val (.long b2), .second, .val (.long e2), .second, .val (.int f0), .unset, .unset, .unset, .unset, .unset, .unset, .unset, .unset, .unset, .unset, .unset, .unset] [])) (fun _ k => XS.ifYes X0.here hx rfl (pc0 := 55) (pc' := 62) rfl (hb hby at_55) rfl ((if0 _ _).trans (teq hc).1) (by decide) (by decide) k) ?_
      refine Goes.by (T' := s₁) (g' := (mkF m 63 #[.val (.int x0), .val (.int x1), .val (.int x2), .val (.int x3), .val (.int x4), .val (.long b1), .second, .val (.long e1), .second, .val (.long b2), .second, .val (.long e2), .second, .val (.int f0), .unset, .unset, .unset, .unset, .unset, .unset, .unset, .unset, .unset, .unset, .unset, .unset] [(.int (0 : Int32))])) (fun _ k => XS.iconst X0.here hx rfl (hb hby at_62)  k) ?_
      refine Goes.by (T' := s₁) (g' := (mkF m 65 #[.val (.int x0), .val (.int x1), .val (.int x2), .val (.int x3), .val (.int x4), .val (.long b1), .second, .val (.long e1), .second, .val (.long b2), .second, .val (.long e2), .second, .val (.int f0), .val (.int (0 : Int32)), .unset, .unset, .unset, .unset, .unset, .unset, .unset, .unset, .unset, .unset, .unset] [])) (fun _ k => XS.istore X0.here hx rfl (hb hby at_63) rfl (l' := #[.val (.int x0), .val (.int x1), .val (.int x2), .val (.int x3), .val (.int x4), .val (.long b1), .second, .val (.long e1), .second, .val (.long b2), .second, .val (.long e2), .second, .val (.int f0), .val (.int (0 : Int32)), .unset, .unset, .unset, .unset, .unset, .unset, .unset, .unset, .unset, .unset, .unset]) rfl k) ?_
      rw [own_fl_0 hc] at kk
      exact kk
    · refine Goes.by (T' := s₁) (g' := (mkF m 58 #[.val (.int x0), .val (.int x1), .val (.int x2), .val (.int x3), .val (.int x4), .val (.long b1), .second, .val (.long e1), .second, .val (.long b2), .second, .val (.long e2), .second, .val (.int f0), .unset, .unset, .unset, .unset, .unset, .unset, .unset, .unset, .unset, .unset, .unset, .unset] [])) (fun _ k => XS.ifNo X0.here hx rfl (hb hby at_55) rfl ((if0 _ _).trans (feq hc).1) k) ?_
      refine Goes.by (T' := s₁) (g' := (mkF m 59 #[.val (.int x0), .val (.int x1), .val (.int x2), .val (.int x3), .val (.int x4), .val (.long b1), .second, .val (.long e1), .second, .val (.long b2), .second, .val (.long e2), .second, .val (.int f0), .unset, .unset, .unset, .unset, .unset, .unset, .unset, .unset, .unset, .unset, .unset, .unset] [(.int (1 : Int32))])) (fun _ k => XS.iconst X0.here hx rfl (hb hby at_58)  k) ?_
      refine Goes.by (T' := s₁) (g' := (mkF m 63 #[.val (.int x0), .val (.int x1), .val (.int x2), .val (.int x3), .val (.int x4), .val (.long b1), .second, .val (.long e1), .second, .val (.long b2), .second, .val (.long e2), .second, .val (.int f0), .unset, .unset, .unset, .unset, .unset, .unset, .unset, .unset, .unset, .unset, .unset, .unset] [(.int (1 : Int32))])) (fun _ k => XS.goto X0.here hx rfl (pc0 := 59) (pc' := 63) rfl (hb hby at_59) (by decide) (by decide) k) ?_
      refine Goes.by (T' := s₁) (g' := (mkF m 65 #[.val (.int x0), .val (.int x1), .val (.int x2), .val (.int x3), .val (.int x4), .val (.long b1), .second, .val (.long e1), .second, .val (.long b2), .second, .val (.long e2), .second, .val (.int f0), .val (.int (1 : Int32)), .unset, .unset, .unset, .unset, .unset, .unset, .unset, .unset, .unset, .unset, .unset] [])) (fun _ k => XS.istore X0.here hx rfl (hb hby at_63) rfl (l' := #[.val (.int x0), .val (.int x1), .val (.int x2), .val (.int x3), .val (.int x4), .val (.long b1), .second, .val (.long e1), .second, .val (.long b2), .second, .val (.long e2), .second, .val (.int f0), .val (.int (1 : Int32)), .unset, .unset, .unset, .unset, .unset, .unset, .unset, .unset, .unset, .unset, .unset]) rfl k) ?_
      rw [own_fl_1 hc] at kk
      exact kk
  refine bf1 _ ?_
  obtain ⟨f1, hf1⟩ : ∃ z, z = own_fl (x4 &&& (2 : Int32)) := ⟨_, rfl⟩
  rw [← hf1]
  refine Goes.by (T' := s₁) (g' := (mkF m 67 #[.val (.int x0), .val (.int x1), .val (.int x2), .val (.int x3), .val (.int x4), .val (.long b1), .second, .val (.long e1), .second, .val (.long b2), .second, .val (.long e2), .second, .val (.int f0), .val (.int f1), .unset, .unset, .unset, .unset, .unset, .unset, .unset, .unset, .unset, .unset, .unset] [(.int x4)])) (fun _ k => XS.iload X0.here hx rfl (hb hby at_65) rfl k) ?_
  refine Goes.by (T' := s₁) (g' := (mkF m 68 #[.val (.int x0), .val (.int x1), .val (.int x2), .val (.int x3), .val (.int x4), .val (.long b1), .second, .val (.long e1), .second, .val (.long b2), .second, .val (.long e2), .second, .val (.int f0), .val (.int f1), .unset, .unset, .unset, .unset, .unset, .unset, .unset, .unset, .unset, .unset, .unset] [(.int (4 : Int32)), (.int x4)])) (fun _ k => XS.iconst X0.here hx rfl (hb hby at_67)  k) ?_
  refine Goes.by (T' := s₁) (g' := (mkF m 69 #[.val (.int x0), .val (.int x1), .val (.int x2), .val (.int x3), .val (.int x4), .val (.long b1), .second, .val (.long e1), .second, .val (.long b2), .second, .val (.long e2), .second, .val (.int f0), .val (.int f1), .unset, .unset, .unset, .unset, .unset, .unset, .unset, .unset, .unset, .unset, .unset] [(.int (x4 &&& (4 : Int32)))])) (fun _ k => XS.iand X0.here hx rfl (hb hby at_68) rfl k) ?_
  have bf2 : ∀ P : State → Prop, Goes p e below P s₁ (mkF m 79 #[.val (.int x0), .val (.int x1), .val (.int x2), .val (.int x3), .val (.int x4), .val (.long b1), .second, .val (.long e1), .second, .val (.long b2), .second, .val (.long e2), .second, .val (.int f0), .val (.int f1), .val (.int (own_fl (x4 &&& (4 : Int32)))), .unset, .unset, .unset, .unset, .unset, .unset, .unset, .unset, .unset, .unset] []) → Goes p e below P s₁ (mkF m 69 #[.val (.int x0), .val (.int x1), .val (.int x2), .val (.int x3), .val (.int x4), .val (.long b1), .second, .val (.long e1), .second, .val (.long b2), .second, .val (.long e2), .second, .val (.int f0), .val (.int f1), .unset, .unset, .unset, .unset, .unset, .unset, .unset, .unset, .unset, .unset, .unset] [(.int (x4 &&& (4 : Int32)))]) := by
    intro P kk
    by_cases hc : (x4 &&& (4 : Int32)) = (0 : Int32)
    · refine Goes.by (T' := s₁) (g' := (mkF m 76 #[.val (.int x0), .val (.int x1), .val (.int x2), .val (.int x3), .val (.int x4), .val (.long b1), .second, .val (.long e1), .second, .val (.long b2), .second, .val (.long e2), .second, .val (.int f0), .val (.int f1), .unset, .unset, .unset, .unset, .unset, .unset, .unset, .unset, .unset, .unset, .unset] [])) (fun _ k => XS.ifYes X0.here hx rfl (pc0 := 69) (pc' := 76) rfl (hb hby at_69) rfl ((if0 _ _).trans (teq hc).1) (by decide) (by decide) k) ?_
      refine Goes.by (T' := s₁) (g' := (mkF m 77 #[.val (.int x0), .val (.int x1), .val (.int x2), .val (.int x3), .val (.int x4), .val (.long b1), .second, .val (.long e1), .second, .val (.long b2), .second, .val (.long e2), .second, .val (.int f0), .val (.int f1), .unset, .unset, .unset, .unset, .unset, .unset, .unset, .unset, .unset, .unset, .unset] [(.int (0 : Int32))])) (fun _ k => XS.iconst X0.here hx rfl (hb hby at_76)  k) ?_
      refine Goes.by (T' := s₁) (g' := (mkF m 79 #[.val (.int x0), .val (.int x1), .val (.int x2), .val (.int x3), .val (.int x4), .val (.long b1), .second, .val (.long e1), .second, .val (.long b2), .second, .val (.long e2), .second, .val (.int f0), .val (.int f1), .val (.int (0 : Int32)), .unset, .unset, .unset, .unset, .unset, .unset, .unset, .unset, .unset, .unset] [])) (fun _ k => XS.istore X0.here hx rfl (hb hby at_77) rfl (l' := #[.val (.int x0), .val (.int x1), .val (.int x2), .val (.int x3), .val (.int x4), .val (.long b1), .second, .val (.long e1), .second, .val (.long b2), .second, .val (.long e2), .second, .val (.int f0), .val (.int f1), .val (.int (0 : Int32)), .unset, .unset, .unset, .unset, .unset, .unset, .unset, .unset, .unset, .unset]) rfl k) ?_
      rw [own_fl_0 hc] at kk
      exact kk
    · refine Goes.by (T' := s₁) (g' := (mkF m 72 #[.val (.int x0), .val (.int x1), .val (.int x2), .val (.int x3), .val (.int x4), .val (.long b1), .second, .val (.long e1), .second, .val (.long b2), .second, .val (.long e2), .second, .val (.int f0), .val (.int f1), .unset, .unset, .unset, .unset, .unset, .unset, .unset, .unset, .unset, .unset, .unset] [])) (fun _ k => XS.ifNo X0.here hx rfl (hb hby at_69) rfl ((if0 _ _).trans (feq hc).1) k) ?_
      refine Goes.by (T' := s₁) (g' := (mkF m 73 #[.val (.int x0), .val (.int x1), .val (.int x2), .val (.int x3), .val (.int x4), .val (.long b1), .second, .val (.long e1), .second, .val (.long b2), .second, .val (.long e2), .second, .val (.int f0), .val (.int f1), .unset, .unset, .unset, .unset, .unset, .unset, .unset, .unset, .unset, .unset, .unset] [(.int (1 : Int32))])) (fun _ k => XS.iconst X0.here hx rfl (hb hby at_72)  k) ?_
      refine Goes.by (T' := s₁) (g' := (mkF m 77 #[.val (.int x0), .val (.int x1), .val (.int x2), .val (.int x3), .val (.int x4), .val (.long b1), .second, .val (.long e1), .second, .val (.long b2), .second, .val (.long e2), .second, .val (.int f0), .val (.int f1), .unset, .unset, .unset, .unset, .unset, .unset, .unset, .unset, .unset, .unset, .unset] [(.int (1 : Int32))])) (fun _ k => XS.goto X0.here hx rfl (pc0 := 73) (pc' := 77) rfl (hb hby at_73) (by decide) (by decide) k) ?_
      refine Goes.by (T' := s₁) (g' := (mkF m 79 #[.val (.int x0), .val (.int x1), .val (.int x2), .val (.int x3), .val (.int x4), .val (.long b1), .second, .val (.long e1), .second, .val (.long b2), .second, .val (.long e2), .second, .val (.int f0), .val (.int f1), .val (.int (1 : Int32)), .unset, .unset, .unset, .unset, .unset, .unset, .unset, .unset, .unset, .unset] [])) (fun _ k => XS.istore X0.here hx rfl (hb hby at_77) rfl (l' := #[.val (.int x0), .val (.int x1), .val (.int x2), .val (.int x3), .val (.int x4), .val (.long b1), .second, .val (.long e1), .second, .val (.long b2), .second, .val (.long e2), .second, .val (.int f0), .val (.int f1), .val (.int (1 : Int32)), .unset, .unset, .unset, .unset, .unset, .unset, .unset, .unset, .unset, .unset]) rfl k) ?_
      rw [own_fl_1 hc] at kk
      exact kk
  refine bf2 _ ?_
  obtain ⟨f2, hf2⟩ : ∃ z, z = own_fl (x4 &&& (4 : Int32)) := ⟨_, rfl⟩
  rw [← hf2]
  refine Goes.by (T' := s₁) (g' := (mkF m 81 #[.val (.int x0), .val (.int x1), .val (.int x2), .val (.int x3), .val (.int x4), .val (.long b1), .second, .val (.long e1), .second, .val (.long b2), .second, .val (.long e2), .second, .val (.int f0), .val (.int f1), .val (.int f2), .unset, .unset, .unset, .unset, .unset, .unset, .unset, .unset, .unset, .unset] [(.int x4)])) (fun _ k => XS.iload X0.here hx rfl (hb hby at_79) rfl k) ?_
  refine Goes.by (T' := s₁) (g' := (mkF m 83 #[.val (.int x0), .val (.int x1), .val (.int x2), .val (.int x3), .val (.int x4), .val (.long b1), .second, .val (.long e1), .second, .val (.long b2), .second, .val (.long e2), .second, .val (.int f0), .val (.int f1), .val (.int f2), .unset, .unset, .unset, .unset, .unset, .unset, .unset, .unset, .unset, .unset] [(.int (8 : Int32)), (.int x4)])) (fun _ k => XS.bipush X0.here hx rfl (hb hby at_81)  k) ?_
  refine Goes.by (T' := s₁) (g' := (mkF m 84 #[.val (.int x0), .val (.int x1), .val (.int x2), .val (.int x3), .val (.int x4), .val (.long b1), .second, .val (.long e1), .second, .val (.long b2), .second, .val (.long e2), .second, .val (.int f0), .val (.int f1), .val (.int f2), .unset, .unset, .unset, .unset, .unset, .unset, .unset, .unset, .unset, .unset] [(.int (x4 &&& (8 : Int32)))])) (fun _ k => XS.iand X0.here hx rfl (hb hby at_83) rfl k) ?_
  have bf3 : ∀ P : State → Prop, Goes p e below P s₁ (mkF m 94 #[.val (.int x0), .val (.int x1), .val (.int x2), .val (.int x3), .val (.int x4), .val (.long b1), .second, .val (.long e1), .second, .val (.long b2), .second, .val (.long e2), .second, .val (.int f0), .val (.int f1), .val (.int f2), .val (.int (own_fl (x4 &&& (8 : Int32)))), .unset, .unset, .unset, .unset, .unset, .unset, .unset, .unset, .unset] []) → Goes p e below P s₁ (mkF m 84 #[.val (.int x0), .val (.int x1), .val (.int x2), .val (.int x3), .val (.int x4), .val (.long b1), .second, .val (.long e1), .second, .val (.long b2), .second, .val (.long e2), .second, .val (.int f0), .val (.int f1), .val (.int f2), .unset, .unset, .unset, .unset, .unset, .unset, .unset, .unset, .unset, .unset] [(.int (x4 &&& (8 : Int32)))]) := by
    intro P kk
    by_cases hc : (x4 &&& (8 : Int32)) = (0 : Int32)
    · refine Goes.by (T' := s₁) (g' := (mkF m 91 #[.val (.int x0), .val (.int x1), .val (.int x2), .val (.int x3), .val (.int x4), .val (.long b1), .second, .val (.long e1), .second, .val (.long b2), .second, .val (.long e2), .second, .val (.int f0), .val (.int f1), .val (.int f2), .unset, .unset, .unset, .unset, .unset, .unset, .unset, .unset, .unset, .unset] [])) (fun _ k => XS.ifYes X0.here hx rfl (pc0 := 84) (pc' := 91) rfl (hb hby at_84) rfl ((if0 _ _).trans (teq hc).1) (by decide) (by decide) k) ?_
      refine Goes.by (T' := s₁) (g' := (mkF m 92 #[.val (.int x0), .val (.int x1), .val (.int x2), .val (.int x3), .val (.int x4), .val (.long b1), .second, .val (.long e1), .second, .val (.long b2), .second, .val (.long e2), .second, .val (.int f0), .val (.int f1), .val (.int f2), .unset, .unset, .unset, .unset, .unset, .unset, .unset, .unset, .unset, .unset] [(.int (0 : Int32))])) (fun _ k => XS.iconst X0.here hx rfl (hb hby at_91)  k) ?_
      refine Goes.by (T' := s₁) (g' := (mkF m 94 #[.val (.int x0), .val (.int x1), .val (.int x2), .val (.int x3), .val (.int x4), .val (.long b1), .second, .val (.long e1), .second, .val (.long b2), .second, .val (.long e2), .second, .val (.int f0), .val (.int f1), .val (.int f2), .val (.int (0 : Int32)), .unset, .unset, .unset, .unset, .unset, .unset, .unset, .unset, .unset] [])) (fun _ k => XS.istore X0.here hx rfl (hb hby at_92) rfl (l' := #[.val (.int x0), .val (.int x1), .val (.int x2), .val (.int x3), .val (.int x4), .val (.long b1), .second, .val (.long e1), .second, .val (.long b2), .second, .val (.long e2), .second, .val (.int f0), .val (.int f1), .val (.int f2), .val (.int (0 : Int32)), .unset, .unset, .unset, .unset, .unset, .unset, .unset, .unset, .unset]) rfl k) ?_
      rw [own_fl_0 hc] at kk
      exact kk
    · refine Goes.by (T' := s₁) (g' := (mkF m 87 #[.val (.int x0), .val (.int x1), .val (.int x2), .val (.int x3), .val (.int x4), .val (.long b1), .second, .val (.long e1), .second, .val (.long b2), .second, .val (.long e2), .second, .val (.int f0), .val (.int f1), .val (.int f2), .unset, .unset, .unset, .unset, .unset, .unset, .unset, .unset, .unset, .unset] [])) (fun _ k => XS.ifNo X0.here hx rfl (hb hby at_84) rfl ((if0 _ _).trans (feq hc).1) k) ?_
      refine Goes.by (T' := s₁) (g' := (mkF m 88 #[.val (.int x0), .val (.int x1), .val (.int x2), .val (.int x3), .val (.int x4), .val (.long b1), .second, .val (.long e1), .second, .val (.long b2), .second, .val (.long e2), .second, .val (.int f0), .val (.int f1), .val (.int f2), .unset, .unset, .unset, .unset, .unset, .unset, .unset, .unset, .unset, .unset] [(.int (1 : Int32))])) (fun _ k => XS.iconst X0.here hx rfl (hb hby at_87)  k) ?_
      refine Goes.by (T' := s₁) (g' := (mkF m 92 #[.val (.int x0), .val (.int x1), .val (.int x2), .val (.int x3), .val (.int x4), .val (.long b1), .second, .val (.long e1), .second, .val (.long b2), .second, .val (.long e2), .second, .val (.int f0), .val (.int f1), .val (.int f2), .unset, .unset, .unset, .unset, .unset, .unset, .unset, .unset, .unset, .unset] [(.int (1 : Int32))])) (fun _ k => XS.goto X0.here hx rfl (pc0 := 88) (pc' := 92) rfl (hb hby at_88) (by decide) (by decide) k) ?_
      refine Goes.by (T' := s₁) (g' := (mkF m 94 #[.val (.int x0), .val (.int x1), .val (.int x2), .val (.int x3), .val (.int x4), .val (.long b1), .second, .val (.long e1), .second, .val (.long b2), .second, .val (.long e2), .second, .val (.int f0), .val (.int f1), .val (.int f2), .val (.int (1 : Int32)), .unset, .unset, .unset, .unset, .unset, .unset, .unset, .unset, .unset] [])) (fun _ k => XS.istore X0.here hx rfl (hb hby at_92) rfl (l' := #[.val (.int x0), .val (.int x1), .val (.int x2), .val (.int x3), .val (.int x4), .val (.long b1), .second, .val (.long e1), .second, .val (.long b2), .second, .val (.long e2), .second, .val (.int f0), .val (.int f1), .val (.int f2), .val (.int (1 : Int32)), .unset, .unset, .unset, .unset, .unset, .unset, .unset, .unset, .unset]) rfl k) ?_
      rw [own_fl_1 hc] at kk
      exact kk
  refine bf3 _ ?_
  obtain ⟨f3, hf3⟩ : ∃ z, z = own_fl (x4 &&& (8 : Int32)) := ⟨_, rfl⟩
  rw [← hf3]
  refine Goes.by (T' := s₁) (g' := (mkF m 96 #[.val (.int x0), .val (.int x1), .val (.int x2), .val (.int x3), .val (.int x4), .val (.long b1), .second, .val (.long e1), .second, .val (.long b2), .second, .val (.long e2), .second, .val (.int f0), .val (.int f1), .val (.int f2), .val (.int f3), .unset, .unset, .unset, .unset, .unset, .unset, .unset, .unset, .unset] [(.int f0)])) (fun _ k => XS.iload X0.here hx rfl (hb hby at_94) rfl k) ?_
  have bn0 : ∀ P : State → Prop, Goes p e below P s₁ (mkF m 113 #[.val (.int x0), .val (.int x1), .val (.int x2), .val (.int x3), .val (.int x4), .val (.long b1), .second, .val (.long e1), .second, .val (.long b2), .second, .val (.long e2), .second, .val (.int f0), .val (.int f1), .val (.int f2), .val (.int f3), .val (.int (own_nz f0 b1)), .unset, .unset, .unset, .unset, .unset, .unset, .unset, .unset] []) → Goes p e below P s₁ (mkF m 96 #[.val (.int x0), .val (.int x1), .val (.int x2), .val (.int x3), .val (.int x4), .val (.long b1), .second, .val (.long e1), .second, .val (.long b2), .second, .val (.long e2), .second, .val (.int f0), .val (.int f1), .val (.int f2), .val (.int f3), .unset, .unset, .unset, .unset, .unset, .unset, .unset, .unset, .unset] [(.int f0)]) := by
    intro P kk
    by_cases hc : f0 = (0 : Int32)
    · refine Goes.by (T' := s₁) (g' := (mkF m 110 #[.val (.int x0), .val (.int x1), .val (.int x2), .val (.int x3), .val (.int x4), .val (.long b1), .second, .val (.long e1), .second, .val (.long b2), .second, .val (.long e2), .second, .val (.int f0), .val (.int f1), .val (.int f2), .val (.int f3), .unset, .unset, .unset, .unset, .unset, .unset, .unset, .unset, .unset] [])) (fun _ k => XS.ifYes X0.here hx rfl (pc0 := 96) (pc' := 110) rfl (hb hby at_96) rfl ((if0 _ _).trans (teq hc).1) (by decide) (by decide) k) ?_
      refine Goes.by (T' := s₁) (g' := (mkF m 111 #[.val (.int x0), .val (.int x1), .val (.int x2), .val (.int x3), .val (.int x4), .val (.long b1), .second, .val (.long e1), .second, .val (.long b2), .second, .val (.long e2), .second, .val (.int f0), .val (.int f1), .val (.int f2), .val (.int f3), .unset, .unset, .unset, .unset, .unset, .unset, .unset, .unset, .unset] [(.int (0 : Int32))])) (fun _ k => XS.iconst X0.here hx rfl (hb hby at_110)  k) ?_
      refine Goes.by (T' := s₁) (g' := (mkF m 113 #[.val (.int x0), .val (.int x1), .val (.int x2), .val (.int x3), .val (.int x4), .val (.long b1), .second, .val (.long e1), .second, .val (.long b2), .second, .val (.long e2), .second, .val (.int f0), .val (.int f1), .val (.int f2), .val (.int f3), .val (.int (0 : Int32)), .unset, .unset, .unset, .unset, .unset, .unset, .unset, .unset] [])) (fun _ k => XS.istore X0.here hx rfl (hb hby at_111) rfl (l' := #[.val (.int x0), .val (.int x1), .val (.int x2), .val (.int x3), .val (.int x4), .val (.long b1), .second, .val (.long e1), .second, .val (.long b2), .second, .val (.long e2), .second, .val (.int f0), .val (.int f1), .val (.int f2), .val (.int f3), .val (.int (0 : Int32)), .unset, .unset, .unset, .unset, .unset, .unset, .unset, .unset]) rfl k) ?_
      rw [own_nz_f hc] at kk
      exact kk
    · refine Goes.by (T' := s₁) (g' := (mkF m 99 #[.val (.int x0), .val (.int x1), .val (.int x2), .val (.int x3), .val (.int x4), .val (.long b1), .second, .val (.long e1), .second, .val (.long b2), .second, .val (.long e2), .second, .val (.int f0), .val (.int f1), .val (.int f2), .val (.int f3), .unset, .unset, .unset, .unset, .unset, .unset, .unset, .unset, .unset] [])) (fun _ k => XS.ifNo X0.here hx rfl (hb hby at_96) rfl ((if0 _ _).trans (feq hc).1) k) ?_
      refine Goes.by (T' := s₁) (g' := (mkF m 101 #[.val (.int x0), .val (.int x1), .val (.int x2), .val (.int x3), .val (.int x4), .val (.long b1), .second, .val (.long e1), .second, .val (.long b2), .second, .val (.long e2), .second, .val (.int f0), .val (.int f1), .val (.int f2), .val (.int f3), .unset, .unset, .unset, .unset, .unset, .unset, .unset, .unset, .unset] [(.long b1)])) (fun _ k => XS.lload X0.here hx rfl (hb hby at_99) rfl k) ?_
      refine Goes.by (T' := s₁) (g' := (mkF m 102 #[.val (.int x0), .val (.int x1), .val (.int x2), .val (.int x3), .val (.int x4), .val (.long b1), .second, .val (.long e1), .second, .val (.long b2), .second, .val (.long e2), .second, .val (.int f0), .val (.int f1), .val (.int f2), .val (.int f3), .unset, .unset, .unset, .unset, .unset, .unset, .unset, .unset, .unset] [(.long (0 : Int64)), (.long b1)])) (fun _ k => XS.lconst X0.here hx rfl (hb hby at_101)  k) ?_
      by_cases hv : b1 = 0
      · refine Goes.by (T' := s₁) (g' := (mkF m 103 #[.val (.int x0), .val (.int x1), .val (.int x2), .val (.int x3), .val (.int x4), .val (.long b1), .second, .val (.long e1), .second, .val (.long b2), .second, .val (.long e2), .second, .val (.int f0), .val (.int f1), .val (.int f2), .val (.int f3), .unset, .unset, .unset, .unset, .unset, .unset, .unset, .unset, .unset] [(.int (0 : Int32))])) (fun _ k => XS.lcmpS X0.here hx rfl (hb hby at_102) rfl (cmpL_eq hv) k) ?_
        refine Goes.by (T' := s₁) (g' := (mkF m 106 #[.val (.int x0), .val (.int x1), .val (.int x2), .val (.int x3), .val (.int x4), .val (.long b1), .second, .val (.long e1), .second, .val (.long b2), .second, .val (.long e2), .second, .val (.int f0), .val (.int f1), .val (.int f2), .val (.int f3), .unset, .unset, .unset, .unset, .unset, .unset, .unset, .unset, .unset] [])) (fun _ k => XS.ifNo X0.here hx rfl (hb hby at_103) rfl (by decide) k) ?_
        refine Goes.by (T' := s₁) (g' := (mkF m 107 #[.val (.int x0), .val (.int x1), .val (.int x2), .val (.int x3), .val (.int x4), .val (.long b1), .second, .val (.long e1), .second, .val (.long b2), .second, .val (.long e2), .second, .val (.int f0), .val (.int f1), .val (.int f2), .val (.int f3), .unset, .unset, .unset, .unset, .unset, .unset, .unset, .unset, .unset] [(.int (1 : Int32))])) (fun _ k => XS.iconst X0.here hx rfl (hb hby at_106)  k) ?_
        refine Goes.by (T' := s₁) (g' := (mkF m 111 #[.val (.int x0), .val (.int x1), .val (.int x2), .val (.int x3), .val (.int x4), .val (.long b1), .second, .val (.long e1), .second, .val (.long b2), .second, .val (.long e2), .second, .val (.int f0), .val (.int f1), .val (.int f2), .val (.int f3), .unset, .unset, .unset, .unset, .unset, .unset, .unset, .unset, .unset] [(.int (1 : Int32))])) (fun _ k => XS.goto X0.here hx rfl (pc0 := 107) (pc' := 111) rfl (hb hby at_107) (by decide) (by decide) k) ?_
        refine Goes.by (T' := s₁) (g' := (mkF m 113 #[.val (.int x0), .val (.int x1), .val (.int x2), .val (.int x3), .val (.int x4), .val (.long b1), .second, .val (.long e1), .second, .val (.long b2), .second, .val (.long e2), .second, .val (.int f0), .val (.int f1), .val (.int f2), .val (.int f3), .val (.int (1 : Int32)), .unset, .unset, .unset, .unset, .unset, .unset, .unset, .unset] [])) (fun _ k => XS.istore X0.here hx rfl (hb hby at_111) rfl (l' := #[.val (.int x0), .val (.int x1), .val (.int x2), .val (.int x3), .val (.int x4), .val (.long b1), .second, .val (.long e1), .second, .val (.long b2), .second, .val (.long e2), .second, .val (.int f0), .val (.int f1), .val (.int f2), .val (.int f3), .val (.int (1 : Int32)), .unset, .unset, .unset, .unset, .unset, .unset, .unset, .unset]) rfl k) ?_
        rw [own_nz_y hc hv] at kk
        exact kk
      · obtain ⟨cv, hcv, hcn⟩ := own_cmpL_ne hv
        refine Goes.by (T' := s₁) (g' := (mkF m 103 #[.val (.int x0), .val (.int x1), .val (.int x2), .val (.int x3), .val (.int x4), .val (.long b1), .second, .val (.long e1), .second, .val (.long b2), .second, .val (.long e2), .second, .val (.int f0), .val (.int f1), .val (.int f2), .val (.int f3), .unset, .unset, .unset, .unset, .unset, .unset, .unset, .unset, .unset] [(.int cv)])) (fun _ k => XS.lcmpS X0.here hx rfl (hb hby at_102) rfl hcv k) ?_
        refine Goes.by (T' := s₁) (g' := (mkF m 110 #[.val (.int x0), .val (.int x1), .val (.int x2), .val (.int x3), .val (.int x4), .val (.long b1), .second, .val (.long e1), .second, .val (.long b2), .second, .val (.long e2), .second, .val (.int f0), .val (.int f1), .val (.int f2), .val (.int f3), .unset, .unset, .unset, .unset, .unset, .unset, .unset, .unset, .unset] [])) (fun _ k => XS.ifYes X0.here hx rfl (pc0 := 103) (pc' := 110) rfl (hb hby at_103) rfl ((if0 _ _).trans (feq hcn).2) (by decide) (by decide) k) ?_
        refine Goes.by (T' := s₁) (g' := (mkF m 111 #[.val (.int x0), .val (.int x1), .val (.int x2), .val (.int x3), .val (.int x4), .val (.long b1), .second, .val (.long e1), .second, .val (.long b2), .second, .val (.long e2), .second, .val (.int f0), .val (.int f1), .val (.int f2), .val (.int f3), .unset, .unset, .unset, .unset, .unset, .unset, .unset, .unset, .unset] [(.int (0 : Int32))])) (fun _ k => XS.iconst X0.here hx rfl (hb hby at_110)  k) ?_
        refine Goes.by (T' := s₁) (g' := (mkF m 113 #[.val (.int x0), .val (.int x1), .val (.int x2), .val (.int x3), .val (.int x4), .val (.long b1), .second, .val (.long e1), .second, .val (.long b2), .second, .val (.long e2), .second, .val (.int f0), .val (.int f1), .val (.int f2), .val (.int f3), .val (.int (0 : Int32)), .unset, .unset, .unset, .unset, .unset, .unset, .unset, .unset] [])) (fun _ k => XS.istore X0.here hx rfl (hb hby at_111) rfl (l' := #[.val (.int x0), .val (.int x1), .val (.int x2), .val (.int x3), .val (.int x4), .val (.long b1), .second, .val (.long e1), .second, .val (.long b2), .second, .val (.long e2), .second, .val (.int f0), .val (.int f1), .val (.int f2), .val (.int f3), .val (.int (0 : Int32)), .unset, .unset, .unset, .unset, .unset, .unset, .unset, .unset]) rfl k) ?_
        rw [own_nz_n hv] at kk
        exact kk
  refine bn0 _ ?_
  refine Goes.by (T' := s₁) (g' := (mkF m 115 #[.val (.int x0), .val (.int x1), .val (.int x2), .val (.int x3), .val (.int x4), .val (.long b1), .second, .val (.long e1), .second, .val (.long b2), .second, .val (.long e2), .second, .val (.int f0), .val (.int f1), .val (.int f2), .val (.int f3), .val (.int (own_nz f0 b1)), .unset, .unset, .unset, .unset, .unset, .unset, .unset, .unset] [(.int f1)])) (fun _ k => XS.iload X0.here hx rfl (hb hby at_113) rfl k) ?_
  have bn1 : ∀ P : State → Prop, Goes p e below P s₁ (mkF m 132 #[.val (.int x0), .val (.int x1), .val (.int x2), .val (.int x3), .val (.int x4), .val (.long b1), .second, .val (.long e1), .second, .val (.long b2), .second, .val (.long e2), .second, .val (.int f0), .val (.int f1), .val (.int f2), .val (.int f3), .val (.int (own_nz f0 b1)), .val (.int (own_nz f1 e1)), .unset, .unset, .unset, .unset, .unset, .unset, .unset] []) → Goes p e below P s₁ (mkF m 115 #[.val (.int x0), .val (.int x1), .val (.int x2), .val (.int x3), .val (.int x4), .val (.long b1), .second, .val (.long e1), .second, .val (.long b2), .second, .val (.long e2), .second, .val (.int f0), .val (.int f1), .val (.int f2), .val (.int f3), .val (.int (own_nz f0 b1)), .unset, .unset, .unset, .unset, .unset, .unset, .unset, .unset] [(.int f1)]) := by
    intro P kk
    by_cases hc : f1 = (0 : Int32)
    · refine Goes.by (T' := s₁) (g' := (mkF m 129 #[.val (.int x0), .val (.int x1), .val (.int x2), .val (.int x3), .val (.int x4), .val (.long b1), .second, .val (.long e1), .second, .val (.long b2), .second, .val (.long e2), .second, .val (.int f0), .val (.int f1), .val (.int f2), .val (.int f3), .val (.int (own_nz f0 b1)), .unset, .unset, .unset, .unset, .unset, .unset, .unset, .unset] [])) (fun _ k => XS.ifYes X0.here hx rfl (pc0 := 115) (pc' := 129) rfl (hb hby at_115) rfl ((if0 _ _).trans (teq hc).1) (by decide) (by decide) k) ?_
      refine Goes.by (T' := s₁) (g' := (mkF m 130 #[.val (.int x0), .val (.int x1), .val (.int x2), .val (.int x3), .val (.int x4), .val (.long b1), .second, .val (.long e1), .second, .val (.long b2), .second, .val (.long e2), .second, .val (.int f0), .val (.int f1), .val (.int f2), .val (.int f3), .val (.int (own_nz f0 b1)), .unset, .unset, .unset, .unset, .unset, .unset, .unset, .unset] [(.int (0 : Int32))])) (fun _ k => XS.iconst X0.here hx rfl (hb hby at_129)  k) ?_
      refine Goes.by (T' := s₁) (g' := (mkF m 132 #[.val (.int x0), .val (.int x1), .val (.int x2), .val (.int x3), .val (.int x4), .val (.long b1), .second, .val (.long e1), .second, .val (.long b2), .second, .val (.long e2), .second, .val (.int f0), .val (.int f1), .val (.int f2), .val (.int f3), .val (.int (own_nz f0 b1)), .val (.int (0 : Int32)), .unset, .unset, .unset, .unset, .unset, .unset, .unset] [])) (fun _ k => XS.istore X0.here hx rfl (hb hby at_130) rfl (l' := #[.val (.int x0), .val (.int x1), .val (.int x2), .val (.int x3), .val (.int x4), .val (.long b1), .second, .val (.long e1), .second, .val (.long b2), .second, .val (.long e2), .second, .val (.int f0), .val (.int f1), .val (.int f2), .val (.int f3), .val (.int (own_nz f0 b1)), .val (.int (0 : Int32)), .unset, .unset, .unset, .unset, .unset, .unset, .unset]) rfl k) ?_
      rw [own_nz_f hc] at kk
      exact kk
    · refine Goes.by (T' := s₁) (g' := (mkF m 118 #[.val (.int x0), .val (.int x1), .val (.int x2), .val (.int x3), .val (.int x4), .val (.long b1), .second, .val (.long e1), .second, .val (.long b2), .second, .val (.long e2), .second, .val (.int f0), .val (.int f1), .val (.int f2), .val (.int f3), .val (.int (own_nz f0 b1)), .unset, .unset, .unset, .unset, .unset, .unset, .unset, .unset] [])) (fun _ k => XS.ifNo X0.here hx rfl (hb hby at_115) rfl ((if0 _ _).trans (feq hc).1) k) ?_
      refine Goes.by (T' := s₁) (g' := (mkF m 120 #[.val (.int x0), .val (.int x1), .val (.int x2), .val (.int x3), .val (.int x4), .val (.long b1), .second, .val (.long e1), .second, .val (.long b2), .second, .val (.long e2), .second, .val (.int f0), .val (.int f1), .val (.int f2), .val (.int f3), .val (.int (own_nz f0 b1)), .unset, .unset, .unset, .unset, .unset, .unset, .unset, .unset] [(.long e1)])) (fun _ k => XS.lload X0.here hx rfl (hb hby at_118) rfl k) ?_
      refine Goes.by (T' := s₁) (g' := (mkF m 121 #[.val (.int x0), .val (.int x1), .val (.int x2), .val (.int x3), .val (.int x4), .val (.long b1), .second, .val (.long e1), .second, .val (.long b2), .second, .val (.long e2), .second, .val (.int f0), .val (.int f1), .val (.int f2), .val (.int f3), .val (.int (own_nz f0 b1)), .unset, .unset, .unset, .unset, .unset, .unset, .unset, .unset] [(.long (0 : Int64)), (.long e1)])) (fun _ k => XS.lconst X0.here hx rfl (hb hby at_120)  k) ?_
      by_cases hv : e1 = 0
      · refine Goes.by (T' := s₁) (g' := (mkF m 122 #[.val (.int x0), .val (.int x1), .val (.int x2), .val (.int x3), .val (.int x4), .val (.long b1), .second, .val (.long e1), .second, .val (.long b2), .second, .val (.long e2), .second, .val (.int f0), .val (.int f1), .val (.int f2), .val (.int f3), .val (.int (own_nz f0 b1)), .unset, .unset, .unset, .unset, .unset, .unset, .unset, .unset] [(.int (0 : Int32))])) (fun _ k => XS.lcmpS X0.here hx rfl (hb hby at_121) rfl (cmpL_eq hv) k) ?_
        refine Goes.by (T' := s₁) (g' := (mkF m 125 #[.val (.int x0), .val (.int x1), .val (.int x2), .val (.int x3), .val (.int x4), .val (.long b1), .second, .val (.long e1), .second, .val (.long b2), .second, .val (.long e2), .second, .val (.int f0), .val (.int f1), .val (.int f2), .val (.int f3), .val (.int (own_nz f0 b1)), .unset, .unset, .unset, .unset, .unset, .unset, .unset, .unset] [])) (fun _ k => XS.ifNo X0.here hx rfl (hb hby at_122) rfl (by decide) k) ?_
        refine Goes.by (T' := s₁) (g' := (mkF m 126 #[.val (.int x0), .val (.int x1), .val (.int x2), .val (.int x3), .val (.int x4), .val (.long b1), .second, .val (.long e1), .second, .val (.long b2), .second, .val (.long e2), .second, .val (.int f0), .val (.int f1), .val (.int f2), .val (.int f3), .val (.int (own_nz f0 b1)), .unset, .unset, .unset, .unset, .unset, .unset, .unset, .unset] [(.int (1 : Int32))])) (fun _ k => XS.iconst X0.here hx rfl (hb hby at_125)  k) ?_
        refine Goes.by (T' := s₁) (g' := (mkF m 130 #[.val (.int x0), .val (.int x1), .val (.int x2), .val (.int x3), .val (.int x4), .val (.long b1), .second, .val (.long e1), .second, .val (.long b2), .second, .val (.long e2), .second, .val (.int f0), .val (.int f1), .val (.int f2), .val (.int f3), .val (.int (own_nz f0 b1)), .unset, .unset, .unset, .unset, .unset, .unset, .unset, .unset] [(.int (1 : Int32))])) (fun _ k => XS.goto X0.here hx rfl (pc0 := 126) (pc' := 130) rfl (hb hby at_126) (by decide) (by decide) k) ?_
        refine Goes.by (T' := s₁) (g' := (mkF m 132 #[.val (.int x0), .val (.int x1), .val (.int x2), .val (.int x3), .val (.int x4), .val (.long b1), .second, .val (.long e1), .second, .val (.long b2), .second, .val (.long e2), .second, .val (.int f0), .val (.int f1), .val (.int f2), .val (.int f3), .val (.int (own_nz f0 b1)), .val (.int (1 : Int32)), .unset, .unset, .unset, .unset, .unset, .unset, .unset] [])) (fun _ k => XS.istore X0.here hx rfl (hb hby at_130) rfl (l' := #[.val (.int x0), .val (.int x1), .val (.int x2), .val (.int x3), .val (.int x4), .val (.long b1), .second, .val (.long e1), .second, .val (.long b2), .second, .val (.long e2), .second, .val (.int f0), .val (.int f1), .val (.int f2), .val (.int f3), .val (.int (own_nz f0 b1)), .val (.int (1 : Int32)), .unset, .unset, .unset, .unset, .unset, .unset, .unset]) rfl k) ?_
        rw [own_nz_y hc hv] at kk
        exact kk
      · obtain ⟨cv, hcv, hcn⟩ := own_cmpL_ne hv
        refine Goes.by (T' := s₁) (g' := (mkF m 122 #[.val (.int x0), .val (.int x1), .val (.int x2), .val (.int x3), .val (.int x4), .val (.long b1), .second, .val (.long e1), .second, .val (.long b2), .second, .val (.long e2), .second, .val (.int f0), .val (.int f1), .val (.int f2), .val (.int f3), .val (.int (own_nz f0 b1)), .unset, .unset, .unset, .unset, .unset, .unset, .unset, .unset] [(.int cv)])) (fun _ k => XS.lcmpS X0.here hx rfl (hb hby at_121) rfl hcv k) ?_
        refine Goes.by (T' := s₁) (g' := (mkF m 129 #[.val (.int x0), .val (.int x1), .val (.int x2), .val (.int x3), .val (.int x4), .val (.long b1), .second, .val (.long e1), .second, .val (.long b2), .second, .val (.long e2), .second, .val (.int f0), .val (.int f1), .val (.int f2), .val (.int f3), .val (.int (own_nz f0 b1)), .unset, .unset, .unset, .unset, .unset, .unset, .unset, .unset] [])) (fun _ k => XS.ifYes X0.here hx rfl (pc0 := 122) (pc' := 129) rfl (hb hby at_122) rfl ((if0 _ _).trans (feq hcn).2) (by decide) (by decide) k) ?_
        refine Goes.by (T' := s₁) (g' := (mkF m 130 #[.val (.int x0), .val (.int x1), .val (.int x2), .val (.int x3), .val (.int x4), .val (.long b1), .second, .val (.long e1), .second, .val (.long b2), .second, .val (.long e2), .second, .val (.int f0), .val (.int f1), .val (.int f2), .val (.int f3), .val (.int (own_nz f0 b1)), .unset, .unset, .unset, .unset, .unset, .unset, .unset, .unset] [(.int (0 : Int32))])) (fun _ k => XS.iconst X0.here hx rfl (hb hby at_129)  k) ?_
        refine Goes.by (T' := s₁) (g' := (mkF m 132 #[.val (.int x0), .val (.int x1), .val (.int x2), .val (.int x3), .val (.int x4), .val (.long b1), .second, .val (.long e1), .second, .val (.long b2), .second, .val (.long e2), .second, .val (.int f0), .val (.int f1), .val (.int f2), .val (.int f3), .val (.int (own_nz f0 b1)), .val (.int (0 : Int32)), .unset, .unset, .unset, .unset, .unset, .unset, .unset] [])) (fun _ k => XS.istore X0.here hx rfl (hb hby at_130) rfl (l' := #[.val (.int x0), .val (.int x1), .val (.int x2), .val (.int x3), .val (.int x4), .val (.long b1), .second, .val (.long e1), .second, .val (.long b2), .second, .val (.long e2), .second, .val (.int f0), .val (.int f1), .val (.int f2), .val (.int f3), .val (.int (own_nz f0 b1)), .val (.int (0 : Int32)), .unset, .unset, .unset, .unset, .unset, .unset, .unset]) rfl k) ?_
        rw [own_nz_n hv] at kk
        exact kk
  refine bn1 _ ?_
  refine Goes.by (T' := s₁) (g' := (mkF m 134 #[.val (.int x0), .val (.int x1), .val (.int x2), .val (.int x3), .val (.int x4), .val (.long b1), .second, .val (.long e1), .second, .val (.long b2), .second, .val (.long e2), .second, .val (.int f0), .val (.int f1), .val (.int f2), .val (.int f3), .val (.int (own_nz f0 b1)), .val (.int (own_nz f1 e1)), .unset, .unset, .unset, .unset, .unset, .unset, .unset] [(.int f2)])) (fun _ k => XS.iload X0.here hx rfl (hb hby at_132) rfl k) ?_
  have bn2 : ∀ P : State → Prop, Goes p e below P s₁ (mkF m 151 #[.val (.int x0), .val (.int x1), .val (.int x2), .val (.int x3), .val (.int x4), .val (.long b1), .second, .val (.long e1), .second, .val (.long b2), .second, .val (.long e2), .second, .val (.int f0), .val (.int f1), .val (.int f2), .val (.int f3), .val (.int (own_nz f0 b1)), .val (.int (own_nz f1 e1)), .val (.int (own_nz f2 b2)), .unset, .unset, .unset, .unset, .unset, .unset] []) → Goes p e below P s₁ (mkF m 134 #[.val (.int x0), .val (.int x1), .val (.int x2), .val (.int x3), .val (.int x4), .val (.long b1), .second, .val (.long e1), .second, .val (.long b2), .second, .val (.long e2), .second, .val (.int f0), .val (.int f1), .val (.int f2), .val (.int f3), .val (.int (own_nz f0 b1)), .val (.int (own_nz f1 e1)), .unset, .unset, .unset, .unset, .unset, .unset, .unset] [(.int f2)]) := by
    intro P kk
    by_cases hc : f2 = (0 : Int32)
    · refine Goes.by (T' := s₁) (g' := (mkF m 148 #[.val (.int x0), .val (.int x1), .val (.int x2), .val (.int x3), .val (.int x4), .val (.long b1), .second, .val (.long e1), .second, .val (.long b2), .second, .val (.long e2), .second, .val (.int f0), .val (.int f1), .val (.int f2), .val (.int f3), .val (.int (own_nz f0 b1)), .val (.int (own_nz f1 e1)), .unset, .unset, .unset, .unset, .unset, .unset, .unset] [])) (fun _ k => XS.ifYes X0.here hx rfl (pc0 := 134) (pc' := 148) rfl (hb hby at_134) rfl ((if0 _ _).trans (teq hc).1) (by decide) (by decide) k) ?_
      refine Goes.by (T' := s₁) (g' := (mkF m 149 #[.val (.int x0), .val (.int x1), .val (.int x2), .val (.int x3), .val (.int x4), .val (.long b1), .second, .val (.long e1), .second, .val (.long b2), .second, .val (.long e2), .second, .val (.int f0), .val (.int f1), .val (.int f2), .val (.int f3), .val (.int (own_nz f0 b1)), .val (.int (own_nz f1 e1)), .unset, .unset, .unset, .unset, .unset, .unset, .unset] [(.int (0 : Int32))])) (fun _ k => XS.iconst X0.here hx rfl (hb hby at_148)  k) ?_
      refine Goes.by (T' := s₁) (g' := (mkF m 151 #[.val (.int x0), .val (.int x1), .val (.int x2), .val (.int x3), .val (.int x4), .val (.long b1), .second, .val (.long e1), .second, .val (.long b2), .second, .val (.long e2), .second, .val (.int f0), .val (.int f1), .val (.int f2), .val (.int f3), .val (.int (own_nz f0 b1)), .val (.int (own_nz f1 e1)), .val (.int (0 : Int32)), .unset, .unset, .unset, .unset, .unset, .unset] [])) (fun _ k => XS.istore X0.here hx rfl (hb hby at_149) rfl (l' := #[.val (.int x0), .val (.int x1), .val (.int x2), .val (.int x3), .val (.int x4), .val (.long b1), .second, .val (.long e1), .second, .val (.long b2), .second, .val (.long e2), .second, .val (.int f0), .val (.int f1), .val (.int f2), .val (.int f3), .val (.int (own_nz f0 b1)), .val (.int (own_nz f1 e1)), .val (.int (0 : Int32)), .unset, .unset, .unset, .unset, .unset, .unset]) rfl k) ?_
      rw [own_nz_f hc] at kk
      exact kk
    · refine Goes.by (T' := s₁) (g' := (mkF m 137 #[.val (.int x0), .val (.int x1), .val (.int x2), .val (.int x3), .val (.int x4), .val (.long b1), .second, .val (.long e1), .second, .val (.long b2), .second, .val (.long e2), .second, .val (.int f0), .val (.int f1), .val (.int f2), .val (.int f3), .val (.int (own_nz f0 b1)), .val (.int (own_nz f1 e1)), .unset, .unset, .unset, .unset, .unset, .unset, .unset] [])) (fun _ k => XS.ifNo X0.here hx rfl (hb hby at_134) rfl ((if0 _ _).trans (feq hc).1) k) ?_
      refine Goes.by (T' := s₁) (g' := (mkF m 139 #[.val (.int x0), .val (.int x1), .val (.int x2), .val (.int x3), .val (.int x4), .val (.long b1), .second, .val (.long e1), .second, .val (.long b2), .second, .val (.long e2), .second, .val (.int f0), .val (.int f1), .val (.int f2), .val (.int f3), .val (.int (own_nz f0 b1)), .val (.int (own_nz f1 e1)), .unset, .unset, .unset, .unset, .unset, .unset, .unset] [(.long b2)])) (fun _ k => XS.lload X0.here hx rfl (hb hby at_137) rfl k) ?_
      refine Goes.by (T' := s₁) (g' := (mkF m 140 #[.val (.int x0), .val (.int x1), .val (.int x2), .val (.int x3), .val (.int x4), .val (.long b1), .second, .val (.long e1), .second, .val (.long b2), .second, .val (.long e2), .second, .val (.int f0), .val (.int f1), .val (.int f2), .val (.int f3), .val (.int (own_nz f0 b1)), .val (.int (own_nz f1 e1)), .unset, .unset, .unset, .unset, .unset, .unset, .unset] [(.long (0 : Int64)), (.long b2)])) (fun _ k => XS.lconst X0.here hx rfl (hb hby at_139)  k) ?_
      by_cases hv : b2 = 0
      · refine Goes.by (T' := s₁) (g' := (mkF m 141 #[.val (.int x0), .val (.int x1), .val (.int x2), .val (.int x3), .val (.int x4), .val (.long b1), .second, .val (.long e1), .second, .val (.long b2), .second, .val (.long e2), .second, .val (.int f0), .val (.int f1), .val (.int f2), .val (.int f3), .val (.int (own_nz f0 b1)), .val (.int (own_nz f1 e1)), .unset, .unset, .unset, .unset, .unset, .unset, .unset] [(.int (0 : Int32))])) (fun _ k => XS.lcmpS X0.here hx rfl (hb hby at_140) rfl (cmpL_eq hv) k) ?_
        refine Goes.by (T' := s₁) (g' := (mkF m 144 #[.val (.int x0), .val (.int x1), .val (.int x2), .val (.int x3), .val (.int x4), .val (.long b1), .second, .val (.long e1), .second, .val (.long b2), .second, .val (.long e2), .second, .val (.int f0), .val (.int f1), .val (.int f2), .val (.int f3), .val (.int (own_nz f0 b1)), .val (.int (own_nz f1 e1)), .unset, .unset, .unset, .unset, .unset, .unset, .unset] [])) (fun _ k => XS.ifNo X0.here hx rfl (hb hby at_141) rfl (by decide) k) ?_
        refine Goes.by (T' := s₁) (g' := (mkF m 145 #[.val (.int x0), .val (.int x1), .val (.int x2), .val (.int x3), .val (.int x4), .val (.long b1), .second, .val (.long e1), .second, .val (.long b2), .second, .val (.long e2), .second, .val (.int f0), .val (.int f1), .val (.int f2), .val (.int f3), .val (.int (own_nz f0 b1)), .val (.int (own_nz f1 e1)), .unset, .unset, .unset, .unset, .unset, .unset, .unset] [(.int (1 : Int32))])) (fun _ k => XS.iconst X0.here hx rfl (hb hby at_144)  k) ?_
        refine Goes.by (T' := s₁) (g' := (mkF m 149 #[.val (.int x0), .val (.int x1), .val (.int x2), .val (.int x3), .val (.int x4), .val (.long b1), .second, .val (.long e1), .second, .val (.long b2), .second, .val (.long e2), .second, .val (.int f0), .val (.int f1), .val (.int f2), .val (.int f3), .val (.int (own_nz f0 b1)), .val (.int (own_nz f1 e1)), .unset, .unset, .unset, .unset, .unset, .unset, .unset] [(.int (1 : Int32))])) (fun _ k => XS.goto X0.here hx rfl (pc0 := 145) (pc' := 149) rfl (hb hby at_145) (by decide) (by decide) k) ?_
        refine Goes.by (T' := s₁) (g' := (mkF m 151 #[.val (.int x0), .val (.int x1), .val (.int x2), .val (.int x3), .val (.int x4), .val (.long b1), .second, .val (.long e1), .second, .val (.long b2), .second, .val (.long e2), .second, .val (.int f0), .val (.int f1), .val (.int f2), .val (.int f3), .val (.int (own_nz f0 b1)), .val (.int (own_nz f1 e1)), .val (.int (1 : Int32)), .unset, .unset, .unset, .unset, .unset, .unset] [])) (fun _ k => XS.istore X0.here hx rfl (hb hby at_149) rfl (l' := #[.val (.int x0), .val (.int x1), .val (.int x2), .val (.int x3), .val (.int x4), .val (.long b1), .second, .val (.long e1), .second, .val (.long b2), .second, .val (.long e2), .second, .val (.int f0), .val (.int f1), .val (.int f2), .val (.int f3), .val (.int (own_nz f0 b1)), .val (.int (own_nz f1 e1)), .val (.int (1 : Int32)), .unset, .unset, .unset, .unset, .unset, .unset]) rfl k) ?_
        rw [own_nz_y hc hv] at kk
        exact kk
      · obtain ⟨cv, hcv, hcn⟩ := own_cmpL_ne hv
        refine Goes.by (T' := s₁) (g' := (mkF m 141 #[.val (.int x0), .val (.int x1), .val (.int x2), .val (.int x3), .val (.int x4), .val (.long b1), .second, .val (.long e1), .second, .val (.long b2), .second, .val (.long e2), .second, .val (.int f0), .val (.int f1), .val (.int f2), .val (.int f3), .val (.int (own_nz f0 b1)), .val (.int (own_nz f1 e1)), .unset, .unset, .unset, .unset, .unset, .unset, .unset] [(.int cv)])) (fun _ k => XS.lcmpS X0.here hx rfl (hb hby at_140) rfl hcv k) ?_
        refine Goes.by (T' := s₁) (g' := (mkF m 148 #[.val (.int x0), .val (.int x1), .val (.int x2), .val (.int x3), .val (.int x4), .val (.long b1), .second, .val (.long e1), .second, .val (.long b2), .second, .val (.long e2), .second, .val (.int f0), .val (.int f1), .val (.int f2), .val (.int f3), .val (.int (own_nz f0 b1)), .val (.int (own_nz f1 e1)), .unset, .unset, .unset, .unset, .unset, .unset, .unset] [])) (fun _ k => XS.ifYes X0.here hx rfl (pc0 := 141) (pc' := 148) rfl (hb hby at_141) rfl ((if0 _ _).trans (feq hcn).2) (by decide) (by decide) k) ?_
        refine Goes.by (T' := s₁) (g' := (mkF m 149 #[.val (.int x0), .val (.int x1), .val (.int x2), .val (.int x3), .val (.int x4), .val (.long b1), .second, .val (.long e1), .second, .val (.long b2), .second, .val (.long e2), .second, .val (.int f0), .val (.int f1), .val (.int f2), .val (.int f3), .val (.int (own_nz f0 b1)), .val (.int (own_nz f1 e1)), .unset, .unset, .unset, .unset, .unset, .unset, .unset] [(.int (0 : Int32))])) (fun _ k => XS.iconst X0.here hx rfl (hb hby at_148)  k) ?_
        refine Goes.by (T' := s₁) (g' := (mkF m 151 #[.val (.int x0), .val (.int x1), .val (.int x2), .val (.int x3), .val (.int x4), .val (.long b1), .second, .val (.long e1), .second, .val (.long b2), .second, .val (.long e2), .second, .val (.int f0), .val (.int f1), .val (.int f2), .val (.int f3), .val (.int (own_nz f0 b1)), .val (.int (own_nz f1 e1)), .val (.int (0 : Int32)), .unset, .unset, .unset, .unset, .unset, .unset] [])) (fun _ k => XS.istore X0.here hx rfl (hb hby at_149) rfl (l' := #[.val (.int x0), .val (.int x1), .val (.int x2), .val (.int x3), .val (.int x4), .val (.long b1), .second, .val (.long e1), .second, .val (.long b2), .second, .val (.long e2), .second, .val (.int f0), .val (.int f1), .val (.int f2), .val (.int f3), .val (.int (own_nz f0 b1)), .val (.int (own_nz f1 e1)), .val (.int (0 : Int32)), .unset, .unset, .unset, .unset, .unset, .unset]) rfl k) ?_
        rw [own_nz_n hv] at kk
        exact kk
  refine bn2 _ ?_
  refine Goes.by (T' := s₁) (g' := (mkF m 153 #[.val (.int x0), .val (.int x1), .val (.int x2), .val (.int x3), .val (.int x4), .val (.long b1), .second, .val (.long e1), .second, .val (.long b2), .second, .val (.long e2), .second, .val (.int f0), .val (.int f1), .val (.int f2), .val (.int f3), .val (.int (own_nz f0 b1)), .val (.int (own_nz f1 e1)), .val (.int (own_nz f2 b2)), .unset, .unset, .unset, .unset, .unset, .unset] [(.int f3)])) (fun _ k => XS.iload X0.here hx rfl (hb hby at_151) rfl k) ?_
  have bn3 : ∀ P : State → Prop, Goes p e below P s₁ (mkF m 170 #[.val (.int x0), .val (.int x1), .val (.int x2), .val (.int x3), .val (.int x4), .val (.long b1), .second, .val (.long e1), .second, .val (.long b2), .second, .val (.long e2), .second, .val (.int f0), .val (.int f1), .val (.int f2), .val (.int f3), .val (.int (own_nz f0 b1)), .val (.int (own_nz f1 e1)), .val (.int (own_nz f2 b2)), .val (.int (own_nz f3 e2)), .unset, .unset, .unset, .unset, .unset] []) → Goes p e below P s₁ (mkF m 153 #[.val (.int x0), .val (.int x1), .val (.int x2), .val (.int x3), .val (.int x4), .val (.long b1), .second, .val (.long e1), .second, .val (.long b2), .second, .val (.long e2), .second, .val (.int f0), .val (.int f1), .val (.int f2), .val (.int f3), .val (.int (own_nz f0 b1)), .val (.int (own_nz f1 e1)), .val (.int (own_nz f2 b2)), .unset, .unset, .unset, .unset, .unset, .unset] [(.int f3)]) := by
    intro P kk
    by_cases hc : f3 = (0 : Int32)
    · refine Goes.by (T' := s₁) (g' := (mkF m 167 #[.val (.int x0), .val (.int x1), .val (.int x2), .val (.int x3), .val (.int x4), .val (.long b1), .second, .val (.long e1), .second, .val (.long b2), .second, .val (.long e2), .second, .val (.int f0), .val (.int f1), .val (.int f2), .val (.int f3), .val (.int (own_nz f0 b1)), .val (.int (own_nz f1 e1)), .val (.int (own_nz f2 b2)), .unset, .unset, .unset, .unset, .unset, .unset] [])) (fun _ k => XS.ifYes X0.here hx rfl (pc0 := 153) (pc' := 167) rfl (hb hby at_153) rfl ((if0 _ _).trans (teq hc).1) (by decide) (by decide) k) ?_
      refine Goes.by (T' := s₁) (g' := (mkF m 168 #[.val (.int x0), .val (.int x1), .val (.int x2), .val (.int x3), .val (.int x4), .val (.long b1), .second, .val (.long e1), .second, .val (.long b2), .second, .val (.long e2), .second, .val (.int f0), .val (.int f1), .val (.int f2), .val (.int f3), .val (.int (own_nz f0 b1)), .val (.int (own_nz f1 e1)), .val (.int (own_nz f2 b2)), .unset, .unset, .unset, .unset, .unset, .unset] [(.int (0 : Int32))])) (fun _ k => XS.iconst X0.here hx rfl (hb hby at_167)  k) ?_
      refine Goes.by (T' := s₁) (g' := (mkF m 170 #[.val (.int x0), .val (.int x1), .val (.int x2), .val (.int x3), .val (.int x4), .val (.long b1), .second, .val (.long e1), .second, .val (.long b2), .second, .val (.long e2), .second, .val (.int f0), .val (.int f1), .val (.int f2), .val (.int f3), .val (.int (own_nz f0 b1)), .val (.int (own_nz f1 e1)), .val (.int (own_nz f2 b2)), .val (.int (0 : Int32)), .unset, .unset, .unset, .unset, .unset] [])) (fun _ k => XS.istore X0.here hx rfl (hb hby at_168) rfl (l' := #[.val (.int x0), .val (.int x1), .val (.int x2), .val (.int x3), .val (.int x4), .val (.long b1), .second, .val (.long e1), .second, .val (.long b2), .second, .val (.long e2), .second, .val (.int f0), .val (.int f1), .val (.int f2), .val (.int f3), .val (.int (own_nz f0 b1)), .val (.int (own_nz f1 e1)), .val (.int (own_nz f2 b2)), .val (.int (0 : Int32)), .unset, .unset, .unset, .unset, .unset]) rfl k) ?_
      rw [own_nz_f hc] at kk
      exact kk
    · refine Goes.by (T' := s₁) (g' := (mkF m 156 #[.val (.int x0), .val (.int x1), .val (.int x2), .val (.int x3), .val (.int x4), .val (.long b1), .second, .val (.long e1), .second, .val (.long b2), .second, .val (.long e2), .second, .val (.int f0), .val (.int f1), .val (.int f2), .val (.int f3), .val (.int (own_nz f0 b1)), .val (.int (own_nz f1 e1)), .val (.int (own_nz f2 b2)), .unset, .unset, .unset, .unset, .unset, .unset] [])) (fun _ k => XS.ifNo X0.here hx rfl (hb hby at_153) rfl ((if0 _ _).trans (feq hc).1) k) ?_
      refine Goes.by (T' := s₁) (g' := (mkF m 158 #[.val (.int x0), .val (.int x1), .val (.int x2), .val (.int x3), .val (.int x4), .val (.long b1), .second, .val (.long e1), .second, .val (.long b2), .second, .val (.long e2), .second, .val (.int f0), .val (.int f1), .val (.int f2), .val (.int f3), .val (.int (own_nz f0 b1)), .val (.int (own_nz f1 e1)), .val (.int (own_nz f2 b2)), .unset, .unset, .unset, .unset, .unset, .unset] [(.long e2)])) (fun _ k => XS.lload X0.here hx rfl (hb hby at_156) rfl k) ?_
      refine Goes.by (T' := s₁) (g' := (mkF m 159 #[.val (.int x0), .val (.int x1), .val (.int x2), .val (.int x3), .val (.int x4), .val (.long b1), .second, .val (.long e1), .second, .val (.long b2), .second, .val (.long e2), .second, .val (.int f0), .val (.int f1), .val (.int f2), .val (.int f3), .val (.int (own_nz f0 b1)), .val (.int (own_nz f1 e1)), .val (.int (own_nz f2 b2)), .unset, .unset, .unset, .unset, .unset, .unset] [(.long (0 : Int64)), (.long e2)])) (fun _ k => XS.lconst X0.here hx rfl (hb hby at_158)  k) ?_
      by_cases hv : e2 = 0
      · refine Goes.by (T' := s₁) (g' := (mkF m 160 #[.val (.int x0), .val (.int x1), .val (.int x2), .val (.int x3), .val (.int x4), .val (.long b1), .second, .val (.long e1), .second, .val (.long b2), .second, .val (.long e2), .second, .val (.int f0), .val (.int f1), .val (.int f2), .val (.int f3), .val (.int (own_nz f0 b1)), .val (.int (own_nz f1 e1)), .val (.int (own_nz f2 b2)), .unset, .unset, .unset, .unset, .unset, .unset] [(.int (0 : Int32))])) (fun _ k => XS.lcmpS X0.here hx rfl (hb hby at_159) rfl (cmpL_eq hv) k) ?_
        refine Goes.by (T' := s₁) (g' := (mkF m 163 #[.val (.int x0), .val (.int x1), .val (.int x2), .val (.int x3), .val (.int x4), .val (.long b1), .second, .val (.long e1), .second, .val (.long b2), .second, .val (.long e2), .second, .val (.int f0), .val (.int f1), .val (.int f2), .val (.int f3), .val (.int (own_nz f0 b1)), .val (.int (own_nz f1 e1)), .val (.int (own_nz f2 b2)), .unset, .unset, .unset, .unset, .unset, .unset] [])) (fun _ k => XS.ifNo X0.here hx rfl (hb hby at_160) rfl (by decide) k) ?_
        refine Goes.by (T' := s₁) (g' := (mkF m 164 #[.val (.int x0), .val (.int x1), .val (.int x2), .val (.int x3), .val (.int x4), .val (.long b1), .second, .val (.long e1), .second, .val (.long b2), .second, .val (.long e2), .second, .val (.int f0), .val (.int f1), .val (.int f2), .val (.int f3), .val (.int (own_nz f0 b1)), .val (.int (own_nz f1 e1)), .val (.int (own_nz f2 b2)), .unset, .unset, .unset, .unset, .unset, .unset] [(.int (1 : Int32))])) (fun _ k => XS.iconst X0.here hx rfl (hb hby at_163)  k) ?_
        refine Goes.by (T' := s₁) (g' := (mkF m 168 #[.val (.int x0), .val (.int x1), .val (.int x2), .val (.int x3), .val (.int x4), .val (.long b1), .second, .val (.long e1), .second, .val (.long b2), .second, .val (.long e2), .second, .val (.int f0), .val (.int f1), .val (.int f2), .val (.int f3), .val (.int (own_nz f0 b1)), .val (.int (own_nz f1 e1)), .val (.int (own_nz f2 b2)), .unset, .unset, .unset, .unset, .unset, .unset] [(.int (1 : Int32))])) (fun _ k => XS.goto X0.here hx rfl (pc0 := 164) (pc' := 168) rfl (hb hby at_164) (by decide) (by decide) k) ?_
        refine Goes.by (T' := s₁) (g' := (mkF m 170 #[.val (.int x0), .val (.int x1), .val (.int x2), .val (.int x3), .val (.int x4), .val (.long b1), .second, .val (.long e1), .second, .val (.long b2), .second, .val (.long e2), .second, .val (.int f0), .val (.int f1), .val (.int f2), .val (.int f3), .val (.int (own_nz f0 b1)), .val (.int (own_nz f1 e1)), .val (.int (own_nz f2 b2)), .val (.int (1 : Int32)), .unset, .unset, .unset, .unset, .unset] [])) (fun _ k => XS.istore X0.here hx rfl (hb hby at_168) rfl (l' := #[.val (.int x0), .val (.int x1), .val (.int x2), .val (.int x3), .val (.int x4), .val (.long b1), .second, .val (.long e1), .second, .val (.long b2), .second, .val (.long e2), .second, .val (.int f0), .val (.int f1), .val (.int f2), .val (.int f3), .val (.int (own_nz f0 b1)), .val (.int (own_nz f1 e1)), .val (.int (own_nz f2 b2)), .val (.int (1 : Int32)), .unset, .unset, .unset, .unset, .unset]) rfl k) ?_
        rw [own_nz_y hc hv] at kk
        exact kk
      · obtain ⟨cv, hcv, hcn⟩ := own_cmpL_ne hv
        refine Goes.by (T' := s₁) (g' := (mkF m 160 #[.val (.int x0), .val (.int x1), .val (.int x2), .val (.int x3), .val (.int x4), .val (.long b1), .second, .val (.long e1), .second, .val (.long b2), .second, .val (.long e2), .second, .val (.int f0), .val (.int f1), .val (.int f2), .val (.int f3), .val (.int (own_nz f0 b1)), .val (.int (own_nz f1 e1)), .val (.int (own_nz f2 b2)), .unset, .unset, .unset, .unset, .unset, .unset] [(.int cv)])) (fun _ k => XS.lcmpS X0.here hx rfl (hb hby at_159) rfl hcv k) ?_
        refine Goes.by (T' := s₁) (g' := (mkF m 167 #[.val (.int x0), .val (.int x1), .val (.int x2), .val (.int x3), .val (.int x4), .val (.long b1), .second, .val (.long e1), .second, .val (.long b2), .second, .val (.long e2), .second, .val (.int f0), .val (.int f1), .val (.int f2), .val (.int f3), .val (.int (own_nz f0 b1)), .val (.int (own_nz f1 e1)), .val (.int (own_nz f2 b2)), .unset, .unset, .unset, .unset, .unset, .unset] [])) (fun _ k => XS.ifYes X0.here hx rfl (pc0 := 160) (pc' := 167) rfl (hb hby at_160) rfl ((if0 _ _).trans (feq hcn).2) (by decide) (by decide) k) ?_
        refine Goes.by (T' := s₁) (g' := (mkF m 168 #[.val (.int x0), .val (.int x1), .val (.int x2), .val (.int x3), .val (.int x4), .val (.long b1), .second, .val (.long e1), .second, .val (.long b2), .second, .val (.long e2), .second, .val (.int f0), .val (.int f1), .val (.int f2), .val (.int f3), .val (.int (own_nz f0 b1)), .val (.int (own_nz f1 e1)), .val (.int (own_nz f2 b2)), .unset, .unset, .unset, .unset, .unset, .unset] [(.int (0 : Int32))])) (fun _ k => XS.iconst X0.here hx rfl (hb hby at_167)  k) ?_
        refine Goes.by (T' := s₁) (g' := (mkF m 170 #[.val (.int x0), .val (.int x1), .val (.int x2), .val (.int x3), .val (.int x4), .val (.long b1), .second, .val (.long e1), .second, .val (.long b2), .second, .val (.long e2), .second, .val (.int f0), .val (.int f1), .val (.int f2), .val (.int f3), .val (.int (own_nz f0 b1)), .val (.int (own_nz f1 e1)), .val (.int (own_nz f2 b2)), .val (.int (0 : Int32)), .unset, .unset, .unset, .unset, .unset] [])) (fun _ k => XS.istore X0.here hx rfl (hb hby at_168) rfl (l' := #[.val (.int x0), .val (.int x1), .val (.int x2), .val (.int x3), .val (.int x4), .val (.long b1), .second, .val (.long e1), .second, .val (.long b2), .second, .val (.long e2), .second, .val (.int f0), .val (.int f1), .val (.int f2), .val (.int f3), .val (.int (own_nz f0 b1)), .val (.int (own_nz f1 e1)), .val (.int (own_nz f2 b2)), .val (.int (0 : Int32)), .unset, .unset, .unset, .unset, .unset]) rfl k) ?_
        rw [own_nz_n hv] at kk
        exact kk
  refine bn3 _ ?_
  have K0 := Keep.refl h0 []
  obtain ⟨T45, h45, X45, e45, E45, A45, D45, -, st45⟩ := newO X0 hx hZ hown (hw _ (List.mem_of_getElem? (i := 0) rfl)) (hw _ (List.mem_of_getElem? (i := 1) rfl)) (hw _ (List.mem_of_getElem? (i := 2) rfl)) e0 (g := (mkF m 170 #[.val (.int x0), .val (.int x1), .val (.int x2), .val (.int x3), .val (.int x4), .val (.long b1), .second, .val (.long e1), .second, .val (.long b2), .second, .val (.long e2), .second, .val (.int f0), .val (.int f1), .val (.int f2), .val (.int f3), .val (.int (own_nz f0 b1)), .val (.int (own_nz f1 e1)), .val (.int (own_nz f2 b2)), .val (.int (own_nz f3 e2)), .unset, .unset, .unset, .unset, .unset] [])) rfl (hb hby at_170) (by decide) (by decide)
  obtain ⟨a, g45⟩ : ∃ z, z = h0.size := ⟨_, rfl⟩
  rw [← g45] at A45 D45 st45
  have ge_a : n0 ≤ a := Nat.le_trans Z0 (Nat.le_of_eq g45.symm)
  have sz_a : h0.size ≤ a := Nat.le_trans K0.1 (Nat.le_of_eq g45.symm)
  have Z0 := Nat.le_trans Z0 E45.1
  have K0 := K0.ext E45
  have E_a := A45
  have F_begin_a : Fld Z h45 a "com/example/gaugefit/gaugefit/core/Interval" "begin" "D" (.double (0 : UInt64)) := D45 (Or.inr (hw _ (List.mem_of_getElem? (i := 23) rfl))) (ty := .double) (by decide)
  have F_end_a : Fld Z h45 a "com/example/gaugefit/gaugefit/core/Interval" "end" "D" (.double (0 : UInt64)) := D45 (Or.inr (hw _ (List.mem_of_getElem? (i := 25) rfl))) (ty := .double) (by decide)
  refine Goes.by (T' := T45) (g' := (mkF m 173 #[.val (.int x0), .val (.int x1), .val (.int x2), .val (.int x3), .val (.int x4), .val (.long b1), .second, .val (.long e1), .second, .val (.long b2), .second, .val (.long e2), .second, .val (.int f0), .val (.int f1), .val (.int f2), .val (.int f3), .val (.int (own_nz f0 b1)), .val (.int (own_nz f1 e1)), .val (.int (own_nz f2 b2)), .val (.int (own_nz f3 e2)), .unset, .unset, .unset, .unset, .unset] [(.ref a)])) st45 ?_
  refine Goes.by (T' := T45) (g' := (mkF m 174 #[.val (.int x0), .val (.int x1), .val (.int x2), .val (.int x3), .val (.int x4), .val (.long b1), .second, .val (.long e1), .second, .val (.long b2), .second, .val (.long e2), .second, .val (.int f0), .val (.int f1), .val (.int f2), .val (.int f3), .val (.int (own_nz f0 b1)), .val (.int (own_nz f1 e1)), .val (.int (own_nz f2 b2)), .val (.int (own_nz f3 e2)), .unset, .unset, .unset, .unset, .unset] [(.ref a), (.ref a)])) (fun _ k => XS.dup X45.here hx rfl (hb hby at_173) rfl rfl k) ?_
  refine Goes.by (T' := T45) (g' := (mkF m 176 #[.val (.int x0), .val (.int x1), .val (.int x2), .val (.int x3), .val (.int x4), .val (.long b1), .second, .val (.long e1), .second, .val (.long b2), .second, .val (.long e2), .second, .val (.int f0), .val (.int f1), .val (.int f2), .val (.int f3), .val (.int (own_nz f0 b1)), .val (.int (own_nz f1 e1)), .val (.int (own_nz f2 b2)), .val (.int (own_nz f3 e2)), .unset, .unset, .unset, .unset, .unset] [(.long b1), (.ref a), (.ref a)])) (fun _ k => XS.lload X45.here hx rfl (hb hby at_174) rfl k) ?_
  refine Goes.by (T' := T45) (g' := (mkF m 178 #[.val (.int x0), .val (.int x1), .val (.int x2), .val (.int x3), .val (.int x4), .val (.long b1), .second, .val (.long e1), .second, .val (.long b2), .second, .val (.long e2), .second, .val (.int f0), .val (.int f1), .val (.int f2), .val (.int f3), .val (.int (own_nz f0 b1)), .val (.int (own_nz f1 e1)), .val (.int (own_nz f2 b2)), .val (.int (own_nz f3 e2)), .unset, .unset, .unset, .unset, .unset] [(.int f0), (.long b1), (.ref a), (.ref a)])) (fun _ k => XS.iload X45.here hx rfl (hb hby at_176) rfl k) ?_
  obtain ⟨v46, T46, L46, X46, hQ46, st46⟩ := callC X45 hx hZ (y := (⟨"com/example/gaugefit/gaugefit/core/IntervalEqualsPinLaw", "time", "(JZ)D"⟩ : MethodName)) hown (hw _ (List.mem_of_getElem? (i := 3) rfl)) (hw _ (List.mem_of_getElem? (i := 4) rfl)) (hw _ (List.mem_of_getElem? (i := 6) rfl)) (hw _ (List.mem_of_getElem? (i := 5) rfl)) (by decide) e45 (argsL := [(.long b1), (.int f0)]) (rest := [(.ref a), (.ref a)]) (W := 2) (rm_time l Z a0 hw b1 f0 h45 n0 Z0) rfl (by decide) (by decide) (by decide) (by decide) (g := (mkF m 178 #[.val (.int x0), .val (.int x1), .val (.int x2), .val (.int x3), .val (.int x4), .val (.long b1), .second, .val (.long e1), .second, .val (.long b2), .second, .val (.long e2), .second, .val (.int f0), .val (.int f1), .val (.int f2), .val (.int f3), .val (.int (own_nz f0 b1)), .val (.int (own_nz f1 e1)), .val (.int (own_nz f2 b2)), .val (.int (own_nz f3 e2)), .unset, .unset, .unset, .unset, .unset] [(.int f0), (.long b1), (.ref a), (.ref a)])) rfl (by rw [hml]; rfl) (lenOf pd1 rfl) rfl (by show 2 * 0 + _ ≤ _; exact Nat.le_of_eq rfl) (hb hby at_178)
  obtain ⟨rfl, NL46, hk46⟩ := hQ46
  have N0 := Fr.app N0 NL46
  refine Goes.by (T' := T46) (g' := (mkF m 181 #[.val (.int x0), .val (.int x1), .val (.int x2), .val (.int x3), .val (.int x4), .val (.long b1), .second, .val (.long e1), .second, .val (.long b2), .second, .val (.long e2), .second, .val (.int f0), .val (.int f1), .val (.int f2), .val (.int f3), .val (.int (own_nz f0 b1)), .val (.int (own_nz f1 e1)), .val (.int (own_nz f2 b2)), .val (.int (own_nz f3 e2)), .unset, .unset, .unset, .unset, .unset] [(.double (own_time b1 f0)), (.ref a), (.ref a)])) st46 ?_
  refine Goes.by (T' := T46) (g' := (mkF m 183 #[.val (.int x0), .val (.int x1), .val (.int x2), .val (.int x3), .val (.int x4), .val (.long b1), .second, .val (.long e1), .second, .val (.long b2), .second, .val (.long e2), .second, .val (.int f0), .val (.int f1), .val (.int f2), .val (.int f3), .val (.int (own_nz f0 b1)), .val (.int (own_nz f1 e1)), .val (.int (own_nz f2 b2)), .val (.int (own_nz f3 e2)), .unset, .unset, .unset, .unset, .unset] [(.long e1), (.double (own_time b1 f0)), (.ref a), (.ref a)])) (fun _ k => XS.lload X46.here hx rfl (hb hby at_181) rfl k) ?_
  refine Goes.by (T' := T46) (g' := (mkF m 185 #[.val (.int x0), .val (.int x1), .val (.int x2), .val (.int x3), .val (.int x4), .val (.long b1), .second, .val (.long e1), .second, .val (.long b2), .second, .val (.long e2), .second, .val (.int f0), .val (.int f1), .val (.int f2), .val (.int f3), .val (.int (own_nz f0 b1)), .val (.int (own_nz f1 e1)), .val (.int (own_nz f2 b2)), .val (.int (own_nz f3 e2)), .unset, .unset, .unset, .unset, .unset] [(.int f1), (.long e1), (.double (own_time b1 f0)), (.ref a), (.ref a)])) (fun _ k => XS.iload X46.here hx rfl (hb hby at_183) rfl k) ?_
  obtain ⟨v47, T47, L47, X47, hQ47, st47⟩ := callC X46 hx hZ (y := (⟨"com/example/gaugefit/gaugefit/core/IntervalEqualsPinLaw", "time", "(JZ)D"⟩ : MethodName)) hown (hw _ (List.mem_of_getElem? (i := 3) rfl)) (hw _ (List.mem_of_getElem? (i := 4) rfl)) (hw _ (List.mem_of_getElem? (i := 6) rfl)) (hw _ (List.mem_of_getElem? (i := 5) rfl)) (by decide) hk46 (argsL := [(.long e1), (.int f1)]) (rest := [(.double (own_time b1 f0)), (.ref a), (.ref a)]) (W := 4) (rm_time l Z a0 hw e1 f1 h45 n0 Z0) rfl (by decide) (by decide) (by decide) (by decide) (g := (mkF m 185 #[.val (.int x0), .val (.int x1), .val (.int x2), .val (.int x3), .val (.int x4), .val (.long b1), .second, .val (.long e1), .second, .val (.long b2), .second, .val (.long e2), .second, .val (.int f0), .val (.int f1), .val (.int f2), .val (.int f3), .val (.int (own_nz f0 b1)), .val (.int (own_nz f1 e1)), .val (.int (own_nz f2 b2)), .val (.int (own_nz f3 e2)), .unset, .unset, .unset, .unset, .unset] [(.int f1), (.long e1), (.double (own_time b1 f0)), (.ref a), (.ref a)])) rfl (by rw [hml]; rfl) (lenOf pd1 rfl) rfl (by show 2 * 0 + _ ≤ _; exact Nat.le_of_eq rfl) (hb hby at_185)
  obtain ⟨rfl, NL47, hk47⟩ := hQ47
  have N0 := Fr.app N0 NL47
  refine Goes.by (T' := T47) (g' := (mkF m 188 #[.val (.int x0), .val (.int x1), .val (.int x2), .val (.int x3), .val (.int x4), .val (.long b1), .second, .val (.long e1), .second, .val (.long b2), .second, .val (.long e2), .second, .val (.int f0), .val (.int f1), .val (.int f2), .val (.int f3), .val (.int (own_nz f0 b1)), .val (.int (own_nz f1 e1)), .val (.int (own_nz f2 b2)), .val (.int (own_nz f3 e2)), .unset, .unset, .unset, .unset, .unset] [(.double (own_time e1 f1)), (.double (own_time b1 f0)), (.ref a), (.ref a)])) st47 ?_
  obtain ⟨v48, T48, L48, X48, hQ48, st48⟩ := callI X47 hx hZ (y := (⟨"com/example/gaugefit/gaugefit/core/Interval", "<init>", "(DD)V"⟩ : MethodName)) rfl hown (hw _ (List.mem_of_getElem? (i := 7) rfl)) (hw _ (List.mem_of_getElem? (i := 8) rfl)) (hw _ (List.mem_of_getElem? (i := 9) rfl)) (hw _ (List.mem_of_getElem? (i := 2) rfl)) (by decide) hk47 (a := a) (argsL := [(.double (own_time b1 f0)), (.double (own_time e1 f1))]) (rest := [(.ref a)]) (W := 1) (rm_init l Z a0 hw a (own_time b1 f0) (own_time e1 f1) b1.toInt e1.toInt h45 n0 Z0 E_a F_begin_a F_end_a ge_a (own_time_int (by omega)) (own_time_int (by omega)) (by omega)) rfl (by decide) (by decide) (by decide) (by decide) (g := (mkF m 188 #[.val (.int x0), .val (.int x1), .val (.int x2), .val (.int x3), .val (.int x4), .val (.long b1), .second, .val (.long e1), .second, .val (.long b2), .second, .val (.long e2), .second, .val (.int f0), .val (.int f1), .val (.int f2), .val (.int f3), .val (.int (own_nz f0 b1)), .val (.int (own_nz f1 e1)), .val (.int (own_nz f2 b2)), .val (.int (own_nz f3 e2)), .unset, .unset, .unset, .unset, .unset] [(.double (own_time e1 f1)), (.double (own_time b1 f0)), (.ref a), (.ref a)])) rfl (by rw [hml]; rfl) (lenOf pd3 rfl) rfl (by show 2 * 0 + _ ≤ _; exact Nat.le_of_eq rfl) (hb hby at_188)
  obtain ⟨rfl, F_begin_a, F_end_a, K48, NL48⟩ := hQ48
  have N0 := Fr.app N0 NL48
  have e48 : T48.heap = T48.heap := rfl
  have E_a := E_a.keep K48
  have Z0 := Nat.le_trans Z0 K48.1
  have K0 := K0.trans K48 (allS (Or.inr sz_a) all0)
  refine Goes.by (T' := T48) (g' := (mkF m 191 #[.val (.int x0), .val (.int x1), .val (.int x2), .val (.int x3), .val (.int x4), .val (.long b1), .second, .val (.long e1), .second, .val (.long b2), .second, .val (.long e2), .second, .val (.int f0), .val (.int f1), .val (.int f2), .val (.int f3), .val (.int (own_nz f0 b1)), .val (.int (own_nz f1 e1)), .val (.int (own_nz f2 b2)), .val (.int (own_nz f3 e2)), .unset, .unset, .unset, .unset, .unset] [(.ref a)])) st48 ?_
  refine Goes.by (T' := T48) (g' := (mkF m 193 #[.val (.int x0), .val (.int x1), .val (.int x2), .val (.int x3), .val (.int x4), .val (.long b1), .second, .val (.long e1), .second, .val (.long b2), .second, .val (.long e2), .second, .val (.int f0), .val (.int f1), .val (.int f2), .val (.int f3), .val (.int (own_nz f0 b1)), .val (.int (own_nz f1 e1)), .val (.int (own_nz f2 b2)), .val (.int (own_nz f3 e2)), .val (.ref a), .unset, .unset, .unset, .unset] [])) (fun _ k => XS.astore X48.here hx rfl (hb hby at_191) rfl rfl (l' := #[.val (.int x0), .val (.int x1), .val (.int x2), .val (.int x3), .val (.int x4), .val (.long b1), .second, .val (.long e1), .second, .val (.long b2), .second, .val (.long e2), .second, .val (.int f0), .val (.int f1), .val (.int f2), .val (.int f3), .val (.int (own_nz f0 b1)), .val (.int (own_nz f1 e1)), .val (.int (own_nz f2 b2)), .val (.int (own_nz f3 e2)), .val (.ref a), .unset, .unset, .unset, .unset]) rfl k) ?_
  obtain ⟨T49, h49, X49, e49, E49, A49, D49, -, st49⟩ := newO X48 hx hZ hown (hw _ (List.mem_of_getElem? (i := 0) rfl)) (hw _ (List.mem_of_getElem? (i := 1) rfl)) (hw _ (List.mem_of_getElem? (i := 2) rfl)) e48 (g := (mkF m 193 #[.val (.int x0), .val (.int x1), .val (.int x2), .val (.int x3), .val (.int x4), .val (.long b1), .second, .val (.long e1), .second, .val (.long b2), .second, .val (.long e2), .second, .val (.int f0), .val (.int f1), .val (.int f2), .val (.int f3), .val (.int (own_nz f0 b1)), .val (.int (own_nz f1 e1)), .val (.int (own_nz f2 b2)), .val (.int (own_nz f3 e2)), .val (.ref a), .unset, .unset, .unset, .unset] [])) rfl (hb hby at_193) (by decide) (by decide)
  obtain ⟨b, g49⟩ : ∃ z, z = T48.heap.size := ⟨_, rfl⟩
  rw [← g49] at A49 D49 st49
  have ne_a_b : a ≠ b := fun q => Nat.lt_irrefl _ (Nat.lt_of_lt_of_eq E_a.lt (g49.symm.trans q.symm))
  have ge_b : n0 ≤ b := Nat.le_trans Z0 (Nat.le_of_eq g49.symm)
  have sz_b : h0.size ≤ b := Nat.le_trans K0.1 (Nat.le_of_eq g49.symm)
  have E_a := E_a.ext E49
  have F_begin_a := F_begin_a.ext E49
  have F_end_a := F_end_a.ext E49
  have Z0 := Nat.le_trans Z0 E49.1
  have K0 := K0.ext E49
  have E_b := A49
  have F_begin_b : Fld Z h49 b "com/example/gaugefit/gaugefit/core/Interval" "begin" "D" (.double (0 : UInt64)) := D49 (Or.inr (hw _ (List.mem_of_getElem? (i := 23) rfl))) (ty := .double) (by decide)
  have F_end_b : Fld Z h49 b "com/example/gaugefit/gaugefit/core/Interval" "end" "D" (.double (0 : UInt64)) := D49 (Or.inr (hw _ (List.mem_of_getElem? (i := 25) rfl))) (ty := .double) (by decide)
  refine Goes.by (T' := T49) (g' := (mkF m 196 #[.val (.int x0), .val (.int x1), .val (.int x2), .val (.int x3), .val (.int x4), .val (.long b1), .second, .val (.long e1), .second, .val (.long b2), .second, .val (.long e2), .second, .val (.int f0), .val (.int f1), .val (.int f2), .val (.int f3), .val (.int (own_nz f0 b1)), .val (.int (own_nz f1 e1)), .val (.int (own_nz f2 b2)), .val (.int (own_nz f3 e2)), .val (.ref a), .unset, .unset, .unset, .unset] [(.ref b)])) st49 ?_
  refine Goes.by (T' := T49) (g' := (mkF m 197 #[.val (.int x0), .val (.int x1), .val (.int x2), .val (.int x3), .val (.int x4), .val (.long b1), .second, .val (.long e1), .second, .val (.long b2), .second, .val (.long e2), .second, .val (.int f0), .val (.int f1), .val (.int f2), .val (.int f3), .val (.int (own_nz f0 b1)), .val (.int (own_nz f1 e1)), .val (.int (own_nz f2 b2)), .val (.int (own_nz f3 e2)), .val (.ref a), .unset, .unset, .unset, .unset] [(.ref b), (.ref b)])) (fun _ k => XS.dup X49.here hx rfl (hb hby at_196) rfl rfl k) ?_
  refine Goes.by (T' := T49) (g' := (mkF m 199 #[.val (.int x0), .val (.int x1), .val (.int x2), .val (.int x3), .val (.int x4), .val (.long b1), .second, .val (.long e1), .second, .val (.long b2), .second, .val (.long e2), .second, .val (.int f0), .val (.int f1), .val (.int f2), .val (.int f3), .val (.int (own_nz f0 b1)), .val (.int (own_nz f1 e1)), .val (.int (own_nz f2 b2)), .val (.int (own_nz f3 e2)), .val (.ref a), .unset, .unset, .unset, .unset] [(.long b2), (.ref b), (.ref b)])) (fun _ k => XS.lload X49.here hx rfl (hb hby at_197) rfl k) ?_
  refine Goes.by (T' := T49) (g' := (mkF m 201 #[.val (.int x0), .val (.int x1), .val (.int x2), .val (.int x3), .val (.int x4), .val (.long b1), .second, .val (.long e1), .second, .val (.long b2), .second, .val (.long e2), .second, .val (.int f0), .val (.int f1), .val (.int f2), .val (.int f3), .val (.int (own_nz f0 b1)), .val (.int (own_nz f1 e1)), .val (.int (own_nz f2 b2)), .val (.int (own_nz f3 e2)), .val (.ref a), .unset, .unset, .unset, .unset] [(.int f2), (.long b2), (.ref b), (.ref b)])) (fun _ k => XS.iload X49.here hx rfl (hb hby at_199) rfl k) ?_
  obtain ⟨v50, T50, L50, X50, hQ50, st50⟩ := callC X49 hx hZ (y := (⟨"com/example/gaugefit/gaugefit/core/IntervalEqualsPinLaw", "time", "(JZ)D"⟩ : MethodName)) hown (hw _ (List.mem_of_getElem? (i := 3) rfl)) (hw _ (List.mem_of_getElem? (i := 4) rfl)) (hw _ (List.mem_of_getElem? (i := 6) rfl)) (hw _ (List.mem_of_getElem? (i := 5) rfl)) (by decide) e49 (argsL := [(.long b2), (.int f2)]) (rest := [(.ref b), (.ref b)]) (W := 2) (rm_time l Z a0 hw b2 f2 h49 n0 Z0) rfl (by decide) (by decide) (by decide) (by decide) (g := (mkF m 201 #[.val (.int x0), .val (.int x1), .val (.int x2), .val (.int x3), .val (.int x4), .val (.long b1), .second, .val (.long e1), .second, .val (.long b2), .second, .val (.long e2), .second, .val (.int f0), .val (.int f1), .val (.int f2), .val (.int f3), .val (.int (own_nz f0 b1)), .val (.int (own_nz f1 e1)), .val (.int (own_nz f2 b2)), .val (.int (own_nz f3 e2)), .val (.ref a), .unset, .unset, .unset, .unset] [(.int f2), (.long b2), (.ref b), (.ref b)])) rfl (by rw [hml]; rfl) (lenOf pd1 rfl) rfl (by show 2 * 0 + _ ≤ _; exact Nat.le_of_eq rfl) (hb hby at_201)
  obtain ⟨rfl, NL50, hk50⟩ := hQ50
  have N0 := Fr.app N0 NL50
  refine Goes.by (T' := T50) (g' := (mkF m 204 #[.val (.int x0), .val (.int x1), .val (.int x2), .val (.int x3), .val (.int x4), .val (.long b1), .second, .val (.long e1), .second, .val (.long b2), .second, .val (.long e2), .second, .val (.int f0), .val (.int f1), .val (.int f2), .val (.int f3), .val (.int (own_nz f0 b1)), .val (.int (own_nz f1 e1)), .val (.int (own_nz f2 b2)), .val (.int (own_nz f3 e2)), .val (.ref a), .unset, .unset, .unset, .unset] [(.double (own_time b2 f2)), (.ref b), (.ref b)])) st50 ?_
  refine Goes.by (T' := T50) (g' := (mkF m 206 #[.val (.int x0), .val (.int x1), .val (.int x2), .val (.int x3), .val (.int x4), .val (.long b1), .second, .val (.long e1), .second, .val (.long b2), .second, .val (.long e2), .second, .val (.int f0), .val (.int f1), .val (.int f2), .val (.int f3), .val (.int (own_nz f0 b1)), .val (.int (own_nz f1 e1)), .val (.int (own_nz f2 b2)), .val (.int (own_nz f3 e2)), .val (.ref a), .unset, .unset, .unset, .unset] [(.long e2), (.double (own_time b2 f2)), (.ref b), (.ref b)])) (fun _ k => XS.lload X50.here hx rfl (hb hby at_204) rfl k) ?_
  refine Goes.by (T' := T50) (g' := (mkF m 208 #[.val (.int x0), .val (.int x1), .val (.int x2), .val (.int x3), .val (.int x4), .val (.long b1), .second, .val (.long e1), .second, .val (.long b2), .second, .val (.long e2), .second, .val (.int f0), .val (.int f1), .val (.int f2), .val (.int f3), .val (.int (own_nz f0 b1)), .val (.int (own_nz f1 e1)), .val (.int (own_nz f2 b2)), .val (.int (own_nz f3 e2)), .val (.ref a), .unset, .unset, .unset, .unset] [(.int f3), (.long e2), (.double (own_time b2 f2)), (.ref b), (.ref b)])) (fun _ k => XS.iload X50.here hx rfl (hb hby at_206) rfl k) ?_
  obtain ⟨v51, T51, L51, X51, hQ51, st51⟩ := callC X50 hx hZ (y := (⟨"com/example/gaugefit/gaugefit/core/IntervalEqualsPinLaw", "time", "(JZ)D"⟩ : MethodName)) hown (hw _ (List.mem_of_getElem? (i := 3) rfl)) (hw _ (List.mem_of_getElem? (i := 4) rfl)) (hw _ (List.mem_of_getElem? (i := 6) rfl)) (hw _ (List.mem_of_getElem? (i := 5) rfl)) (by decide) hk50 (argsL := [(.long e2), (.int f3)]) (rest := [(.double (own_time b2 f2)), (.ref b), (.ref b)]) (W := 4) (rm_time l Z a0 hw e2 f3 h49 n0 Z0) rfl (by decide) (by decide) (by decide) (by decide) (g := (mkF m 208 #[.val (.int x0), .val (.int x1), .val (.int x2), .val (.int x3), .val (.int x4), .val (.long b1), .second, .val (.long e1), .second, .val (.long b2), .second, .val (.long e2), .second, .val (.int f0), .val (.int f1), .val (.int f2), .val (.int f3), .val (.int (own_nz f0 b1)), .val (.int (own_nz f1 e1)), .val (.int (own_nz f2 b2)), .val (.int (own_nz f3 e2)), .val (.ref a), .unset, .unset, .unset, .unset] [(.int f3), (.long e2), (.double (own_time b2 f2)), (.ref b), (.ref b)])) rfl (by rw [hml]; rfl) (lenOf pd1 rfl) rfl (by show 2 * 0 + _ ≤ _; exact Nat.le_of_eq rfl) (hb hby at_208)
  obtain ⟨rfl, NL51, hk51⟩ := hQ51
  have N0 := Fr.app N0 NL51
  refine Goes.by (T' := T51) (g' := (mkF m 211 #[.val (.int x0), .val (.int x1), .val (.int x2), .val (.int x3), .val (.int x4), .val (.long b1), .second, .val (.long e1), .second, .val (.long b2), .second, .val (.long e2), .second, .val (.int f0), .val (.int f1), .val (.int f2), .val (.int f3), .val (.int (own_nz f0 b1)), .val (.int (own_nz f1 e1)), .val (.int (own_nz f2 b2)), .val (.int (own_nz f3 e2)), .val (.ref a), .unset, .unset, .unset, .unset] [(.double (own_time e2 f3)), (.double (own_time b2 f2)), (.ref b), (.ref b)])) st51 ?_
  obtain ⟨v52, T52, L52, X52, hQ52, st52⟩ := callI X51 hx hZ (y := (⟨"com/example/gaugefit/gaugefit/core/Interval", "<init>", "(DD)V"⟩ : MethodName)) rfl hown (hw _ (List.mem_of_getElem? (i := 7) rfl)) (hw _ (List.mem_of_getElem? (i := 8) rfl)) (hw _ (List.mem_of_getElem? (i := 9) rfl)) (hw _ (List.mem_of_getElem? (i := 2) rfl)) (by decide) hk51 (a := b) (argsL := [(.double (own_time b2 f2)), (.double (own_time e2 f3))]) (rest := [(.ref b)]) (W := 1) (rm_init l Z a0 hw b (own_time b2 f2) (own_time e2 f3) b2.toInt e2.toInt h49 n0 Z0 E_b F_begin_b F_end_b ge_b (own_time_int (by omega)) (own_time_int (by omega)) (by omega)) rfl (by decide) (by decide) (by decide) (by decide) (g := (mkF m 211 #[.val (.int x0), .val (.int x1), .val (.int x2), .val (.int x3), .val (.int x4), .val (.long b1), .second, .val (.long e1), .second, .val (.long b2), .second, .val (.long e2), .second, .val (.int f0), .val (.int f1), .val (.int f2), .val (.int f3), .val (.int (own_nz f0 b1)), .val (.int (own_nz f1 e1)), .val (.int (own_nz f2 b2)), .val (.int (own_nz f3 e2)), .val (.ref a), .unset, .unset, .unset, .unset] [(.double (own_time e2 f3)), (.double (own_time b2 f2)), (.ref b), (.ref b)])) rfl (by rw [hml]; rfl) (lenOf pd3 rfl) rfl (by show 2 * 0 + _ ≤ _; exact Nat.le_of_eq rfl) (hb hby at_211)
  obtain ⟨rfl, F_begin_b, F_end_b, K52, NL52⟩ := hQ52
  have N0 := Fr.app N0 NL52
  have e52 : T52.heap = T52.heap := rfl
  have E_a := E_a.keep K52
  have F_begin_a := F_begin_a.keep K52 (ninS ne_a_b nin0)
  have F_end_a := F_end_a.keep K52 (ninS ne_a_b nin0)
  have E_b := E_b.keep K52
  have Z0 := Nat.le_trans Z0 K52.1
  have K0 := K0.trans K52 (allS (Or.inr sz_b) all0)
  refine Goes.by (T' := T52) (g' := (mkF m 214 #[.val (.int x0), .val (.int x1), .val (.int x2), .val (.int x3), .val (.int x4), .val (.long b1), .second, .val (.long e1), .second, .val (.long b2), .second, .val (.long e2), .second, .val (.int f0), .val (.int f1), .val (.int f2), .val (.int f3), .val (.int (own_nz f0 b1)), .val (.int (own_nz f1 e1)), .val (.int (own_nz f2 b2)), .val (.int (own_nz f3 e2)), .val (.ref a), .unset, .unset, .unset, .unset] [(.ref b)])) st52 ?_
  refine Goes.by (T' := T52) (g' := (mkF m 216 #[.val (.int x0), .val (.int x1), .val (.int x2), .val (.int x3), .val (.int x4), .val (.long b1), .second, .val (.long e1), .second, .val (.long b2), .second, .val (.long e2), .second, .val (.int f0), .val (.int f1), .val (.int f2), .val (.int f3), .val (.int (own_nz f0 b1)), .val (.int (own_nz f1 e1)), .val (.int (own_nz f2 b2)), .val (.int (own_nz f3 e2)), .val (.ref a), .val (.ref b), .unset, .unset, .unset] [])) (fun _ k => XS.astore X52.here hx rfl (hb hby at_214) rfl rfl (l' := #[.val (.int x0), .val (.int x1), .val (.int x2), .val (.int x3), .val (.int x4), .val (.long b1), .second, .val (.long e1), .second, .val (.long b2), .second, .val (.long e2), .second, .val (.int f0), .val (.int f1), .val (.int f2), .val (.int f3), .val (.int (own_nz f0 b1)), .val (.int (own_nz f1 e1)), .val (.int (own_nz f2 b2)), .val (.int (own_nz f3 e2)), .val (.ref a), .val (.ref b), .unset, .unset, .unset]) rfl k) ?_
  refine Goes.by (T' := T52) (g' := (mkF m 218 #[.val (.int x0), .val (.int x1), .val (.int x2), .val (.int x3), .val (.int x4), .val (.long b1), .second, .val (.long e1), .second, .val (.long b2), .second, .val (.long e2), .second, .val (.int f0), .val (.int f1), .val (.int f2), .val (.int f3), .val (.int (own_nz f0 b1)), .val (.int (own_nz f1 e1)), .val (.int (own_nz f2 b2)), .val (.int (own_nz f3 e2)), .val (.ref a), .val (.ref b), .unset, .unset, .unset] [(.long b1)])) (fun _ k => XS.lload X52.here hx rfl (hb hby at_216) rfl k) ?_
  refine Goes.by (T' := T52) (g' := (mkF m 220 #[.val (.int x0), .val (.int x1), .val (.int x2), .val (.int x3), .val (.int x4), .val (.long b1), .second, .val (.long e1), .second, .val (.long b2), .second, .val (.long e2), .second, .val (.int f0), .val (.int f1), .val (.int f2), .val (.int f3), .val (.int (own_nz f0 b1)), .val (.int (own_nz f1 e1)), .val (.int (own_nz f2 b2)), .val (.int (own_nz f3 e2)), .val (.ref a), .val (.ref b), .unset, .unset, .unset] [(.long b2), (.long b1)])) (fun _ k => XS.lload X52.here hx rfl (hb hby at_218) rfl k) ?_
  have rest : ∀ (ex : Int32), (ex = 1 ∧ (own_time b1 f0) = (own_time b2 f2) ∧ (own_time e1 f1) = (own_time e2 f3)) ∨ (ex = 0 ∧ (own_time b1 f0) ≠ (own_time b2 f2)) ∨ (ex = 0 ∧ (own_time b1 f0) = (own_time b2 f2) ∧ (own_time e1 f1) ≠ (own_time e2 f3)) → Goes p e below (Fin1 below s room_1 (fun v h L => v = some (.int 1) ∧ Fr n0 L)) T52 (mkF m 251 #[.val (.int x0), .val (.int x1), .val (.int x2), .val (.int x3), .val (.int x4), .val (.long b1), .second, .val (.long e1), .second, .val (.long b2), .second, .val (.long e2), .second, .val (.int f0), .val (.int f1), .val (.int f2), .val (.int f3), .val (.int (own_nz f0 b1)), .val (.int (own_nz f1 e1)), .val (.int (own_nz f2 b2)), .val (.int (own_nz f3 e2)), .val (.ref a), .val (.ref b), .unset, .unset, .unset] [(.int ex)]) := by
    intro ex hex
    refine Goes.by (T' := T52) (g' := (mkF m 253 #[.val (.int x0), .val (.int x1), .val (.int x2), .val (.int x3), .val (.int x4), .val (.long b1), .second, .val (.long e1), .second, .val (.long b2), .second, .val (.long e2), .second, .val (.int f0), .val (.int f1), .val (.int f2), .val (.int f3), .val (.int (own_nz f0 b1)), .val (.int (own_nz f1 e1)), .val (.int (own_nz f2 b2)), .val (.int (own_nz f3 e2)), .val (.ref a), .val (.ref b), .val (.int ex), .unset, .unset] [])) (fun _ k => XS.istore X52.here hx rfl (hb hby at_251) rfl (l' := #[.val (.int x0), .val (.int x1), .val (.int x2), .val (.int x3), .val (.int x4), .val (.long b1), .second, .val (.long e1), .second, .val (.long b2), .second, .val (.long e2), .second, .val (.int f0), .val (.int f1), .val (.int f2), .val (.int f3), .val (.int (own_nz f0 b1)), .val (.int (own_nz f1 e1)), .val (.int (own_nz f2 b2)), .val (.int (own_nz f3 e2)), .val (.ref a), .val (.ref b), .val (.int ex), .unset, .unset]) rfl k) ?_
    refine Goes.by (T' := T52) (g' := (mkF m 254 #[.val (.int x0), .val (.int x1), .val (.int x2), .val (.int x3), .val (.int x4), .val (.long b1), .second, .val (.long e1), .second, .val (.long b2), .second, .val (.long e2), .second, .val (.int f0), .val (.int f1), .val (.int f2), .val (.int f3), .val (.int (own_nz f0 b1)), .val (.int (own_nz f1 e1)), .val (.int (own_nz f2 b2)), .val (.int (own_nz f3 e2)), .val (.ref a), .val (.ref b), .val (.int ex), .unset, .unset] [.null])) (fun _ k => XS.aconstNull X52.here hx rfl (hb hby at_253)  k) ?_
    refine Goes.by (T' := T52) (g' := (mkF m 256 #[.val (.int x0), .val (.int x1), .val (.int x2), .val (.int x3), .val (.int x4), .val (.long b1), .second, .val (.long e1), .second, .val (.long b2), .second, .val (.long e2), .second, .val (.int f0), .val (.int f1), .val (.int f2), .val (.int f3), .val (.int (own_nz f0 b1)), .val (.int (own_nz f1 e1)), .val (.int (own_nz f2 b2)), .val (.int (own_nz f3 e2)), .val (.ref a), .val (.ref b), .val (.int ex), .val .null, .unset] [])) (fun _ k => XS.astore X52.here hx rfl (hb hby at_254) rfl rfl (l' := #[.val (.int x0), .val (.int x1), .val (.int x2), .val (.int x3), .val (.int x4), .val (.long b1), .second, .val (.long e1), .second, .val (.long b2), .second, .val (.long e2), .second, .val (.int f0), .val (.int f1), .val (.int f2), .val (.int f3), .val (.int (own_nz f0 b1)), .val (.int (own_nz f1 e1)), .val (.int (own_nz f2 b2)), .val (.int (own_nz f3 e2)), .val (.ref a), .val (.ref b), .val (.int ex), .val .null, .unset]) rfl k) ?_
    refine Goes.by (T' := T52) (g' := (mkF m 257 #[.val (.int x0), .val (.int x1), .val (.int x2), .val (.int x3), .val (.int x4), .val (.long b1), .second, .val (.long e1), .second, .val (.long b2), .second, .val (.long e2), .second, .val (.int f0), .val (.int f1), .val (.int f2), .val (.int f3), .val (.int (own_nz f0 b1)), .val (.int (own_nz f1 e1)), .val (.int (own_nz f2 b2)), .val (.int (own_nz f3 e2)), .val (.ref a), .val (.ref b), .val (.int ex), .val .null, .unset] [(.int x0)])) (fun _ k => XS.iloadN X52.here hx rfl (hb hby at_256) rfl k) ?_
    have hCa := hC.ext (own_ext K0)
    obtain ⟨v53, T53, L53, X53, hQ53, st53⟩ := callC X52 hx hZ (y := (⟨"java/lang/Integer", "valueOf", "(I)Ljava/lang/Integer;"⟩ : MethodName)) hown (hw _ (List.mem_of_getElem? (i := 26) rfl)) (hw _ (List.mem_of_getElem? (i := 27) rfl)) (hw _ (List.mem_of_getElem? (i := 29) rfl)) (hw _ (List.mem_of_getElem? (i := 28) rfl)) (by decide) e52 (argsL := [(.int x0)]) (rest := []) (W := 0) (rm_vof l Z a0 hw x0 T52.heap n0 Z0 hCa) rfl (by decide) (by decide) (by decide) (by decide) (g := (mkF m 257 #[.val (.int x0), .val (.int x1), .val (.int x2), .val (.int x3), .val (.int x4), .val (.long b1), .second, .val (.long e1), .second, .val (.long b2), .second, .val (.long e2), .second, .val (.int f0), .val (.int f1), .val (.int f2), .val (.int f3), .val (.int (own_nz f0 b1)), .val (.int (own_nz f1 e1)), .val (.int (own_nz f2 b2)), .val (.int (own_nz f3 e2)), .val (.ref a), .val (.ref b), .val (.int ex), .val .null, .unset] [(.int x0)])) rfl (by rw [hml]; rfl) (lenOf pd9 rfl) rfl (by show 2 * 0 + _ ≤ _; exact Nat.le_of_eq rfl) (hb hby at_257)
    obtain ⟨q, rfl, E_q, K53, NL53⟩ := hQ53
    have N0 := Fr.app N0 NL53
    have e53 : T53.heap = T53.heap := rfl
    have E_a := E_a.keep K53
    have F_begin_a := F_begin_a.keep K53 nin0
    have F_end_a := F_end_a.keep K53 nin0
    have E_b := E_b.keep K53
    have F_begin_b := F_begin_b.keep K53 nin0
    have F_end_b := F_end_b.keep K53 nin0
    have Z0 := Nat.le_trans Z0 K53.1
    have K0 := K0.trans K53 all0
    refine Goes.by (T' := T53) (g' := (mkF m 260 #[.val (.int x0), .val (.int x1), .val (.int x2), .val (.int x3), .val (.int x4), .val (.long b1), .second, .val (.long e1), .second, .val (.long b2), .second, .val (.long e2), .second, .val (.int f0), .val (.int f1), .val (.int f2), .val (.int f3), .val (.int (own_nz f0 b1)), .val (.int (own_nz f1 e1)), .val (.int (own_nz f2 b2)), .val (.int (own_nz f3 e2)), .val (.ref a), .val (.ref b), .val (.int ex), .val .null, .unset] [(.ref q)])) st53 ?_
    refine Goes.by (T' := T53) (g' := (mkF m 262 #[.val (.int x0), .val (.int x1), .val (.int x2), .val (.int x3), .val (.int x4), .val (.long b1), .second, .val (.long e1), .second, .val (.long b2), .second, .val (.long e2), .second, .val (.int f0), .val (.int f1), .val (.int f2), .val (.int f3), .val (.int (own_nz f0 b1)), .val (.int (own_nz f1 e1)), .val (.int (own_nz f2 b2)), .val (.int (own_nz f3 e2)), .val (.ref a), .val (.ref b), .val (.int ex), .val .null, .val (.ref q)] [])) (fun _ k => XS.astore X53.here hx rfl (hb hby at_260) rfl rfl (l' := #[.val (.int x0), .val (.int x1), .val (.int x2), .val (.int x3), .val (.int x4), .val (.long b1), .second, .val (.long e1), .second, .val (.long b2), .second, .val (.long e2), .second, .val (.int f0), .val (.int f1), .val (.int f2), .val (.int f3), .val (.int (own_nz f0 b1)), .val (.int (own_nz f1 e1)), .val (.int (own_nz f2 b2)), .val (.int (own_nz f3 e2)), .val (.ref a), .val (.ref b), .val (.int ex), .val .null, .val (.ref q)]) rfl k) ?_
    refine Goes.by (T' := T53) (g' := (mkF m 264 #[.val (.int x0), .val (.int x1), .val (.int x2), .val (.int x3), .val (.int x4), .val (.long b1), .second, .val (.long e1), .second, .val (.long b2), .second, .val (.long e2), .second, .val (.int f0), .val (.int f1), .val (.int f2), .val (.int f3), .val (.int (own_nz f0 b1)), .val (.int (own_nz f1 e1)), .val (.int (own_nz f2 b2)), .val (.int (own_nz f3 e2)), .val (.ref a), .val (.ref b), .val (.int ex), .val .null, .val (.ref q)] [(.ref a)])) (fun _ k => XS.aload X53.here hx rfl (hb hby at_262) rfl rfl k) ?_
    refine Goes.by (T' := T53) (g' := (mkF m 266 #[.val (.int x0), .val (.int x1), .val (.int x2), .val (.int x3), .val (.int x4), .val (.long b1), .second, .val (.long e1), .second, .val (.long b2), .second, .val (.long e2), .second, .val (.int f0), .val (.int f1), .val (.int f2), .val (.int f3), .val (.int (own_nz f0 b1)), .val (.int (own_nz f1 e1)), .val (.int (own_nz f2 b2)), .val (.int (own_nz f3 e2)), .val (.ref a), .val (.ref b), .val (.int ex), .val .null, .val (.ref q)] [(.ref b), (.ref a)])) (fun _ k => XS.aload X53.here hx rfl (hb hby at_264) rfl rfl k) ?_
    rcases hex with ⟨rfl, hq0, hq1⟩ | ⟨rfl, hq0⟩ | ⟨rfl, hq0, hq1⟩
    · obtain ⟨v54, T54, L54, X54, hQ54, st54⟩ := callV X53 hx hZ (y := (⟨"com/example/gaugefit/gaugefit/core/Interval", "equals", "(Ljava/lang/Object;)Z"⟩ : MethodName)) hown (hw _ (List.mem_of_getElem? (i := 33) rfl)) (hw _ (List.mem_of_getElem? (i := 34) rfl)) (hw _ (List.mem_of_getElem? (i := 36) rfl)) (hw _ (List.mem_of_getElem? (i := 35) rfl)) (hw _ (List.mem_of_getElem? (i := 37) rfl)) (hw _ (List.mem_of_getElem? (i := 2) rfl)) (by decide) e53 E_a (argsL := [(.ref b)]) (rest := []) (W := 0) (rm_eqT l Z a0 hw a b (own_time b1 f0) (own_time e1 f1) (own_time b2 f2) (own_time e2 f3) b1.toInt e1.toInt b2.toInt e2.toInt T53.heap n0 Z0 E_b F_begin_a F_end_a F_begin_b F_end_b (own_time_int (by omega)) (own_time_int (by omega)) (own_time_int (by omega)) (own_time_int (by omega)) hq0 hq1) rfl (by decide) (by decide) (by decide) (by decide) (g := (mkF m 266 #[.val (.int x0), .val (.int x1), .val (.int x2), .val (.int x3), .val (.int x4), .val (.long b1), .second, .val (.long e1), .second, .val (.long b2), .second, .val (.long e2), .second, .val (.int f0), .val (.int f1), .val (.int f2), .val (.int f3), .val (.int (own_nz f0 b1)), .val (.int (own_nz f1 e1)), .val (.int (own_nz f2 b2)), .val (.int (own_nz f3 e2)), .val (.ref a), .val (.ref b), .val (.int (1 : Int32)), .val .null, .val (.ref q)] [(.ref b), (.ref a)])) rfl (by rw [hml]; rfl) (lenOf pd6 rfl) rfl (by show 2 * 0 + _ ≤ _; exact Nat.le_of_eq rfl) (hb hby at_266)
      obtain ⟨rfl, NL54, hk54⟩ := hQ54
      have N0 := Fr.app N0 NL54
      refine Goes.by (T' := T54) (g' := (mkF m 269 #[.val (.int x0), .val (.int x1), .val (.int x2), .val (.int x3), .val (.int x4), .val (.long b1), .second, .val (.long e1), .second, .val (.long b2), .second, .val (.long e2), .second, .val (.int f0), .val (.int f1), .val (.int f2), .val (.int f3), .val (.int (own_nz f0 b1)), .val (.int (own_nz f1 e1)), .val (.int (own_nz f2 b2)), .val (.int (own_nz f3 e2)), .val (.ref a), .val (.ref b), .val (.int (1 : Int32)), .val .null, .val (.ref q)] [(.int (1 : Int32))])) st54 ?_
      refine Goes.by (T' := T54) (g' := (mkF m 271 #[.val (.int x0), .val (.int x1), .val (.int x2), .val (.int x3), .val (.int x4), .val (.long b1), .second, .val (.long e1), .second, .val (.long b2), .second, .val (.long e2), .second, .val (.int f0), .val (.int f1), .val (.int f2), .val (.int f3), .val (.int (own_nz f0 b1)), .val (.int (own_nz f1 e1)), .val (.int (own_nz f2 b2)), .val (.int (own_nz f3 e2)), .val (.ref a), .val (.ref b), .val (.int (1 : Int32)), .val .null, .val (.ref q)] [(.int (1 : Int32)), (.int (1 : Int32))])) (fun _ k => XS.iload X54.here hx rfl (hb hby at_269) rfl k) ?_
      refine Goes.by (T' := T54) (g' := (mkF m 274 #[.val (.int x0), .val (.int x1), .val (.int x2), .val (.int x3), .val (.int x4), .val (.long b1), .second, .val (.long e1), .second, .val (.long b2), .second, .val (.long e2), .second, .val (.int f0), .val (.int f1), .val (.int f2), .val (.int f3), .val (.int (own_nz f0 b1)), .val (.int (own_nz f1 e1)), .val (.int (own_nz f2 b2)), .val (.int (own_nz f3 e2)), .val (.ref a), .val (.ref b), .val (.int (1 : Int32)), .val .null, .val (.ref q)] [])) (fun _ k => XS.icmpNo X54.here hx rfl (hb hby at_271) rfl (by decide) k) ?_
      refine Goes.by (T' := T54) (g' := (mkF m 276 #[.val (.int x0), .val (.int x1), .val (.int x2), .val (.int x3), .val (.int x4), .val (.long b1), .second, .val (.long e1), .second, .val (.long b2), .second, .val (.long e2), .second, .val (.int f0), .val (.int f1), .val (.int f2), .val (.int f3), .val (.int (own_nz f0 b1)), .val (.int (own_nz f1 e1)), .val (.int (own_nz f2 b2)), .val (.int (own_nz f3 e2)), .val (.ref a), .val (.ref b), .val (.int (1 : Int32)), .val .null, .val (.ref q)] [(.ref b)])) (fun _ k => XS.aload X54.here hx rfl (hb hby at_274) rfl rfl k) ?_
      refine Goes.by (T' := T54) (g' := (mkF m 278 #[.val (.int x0), .val (.int x1), .val (.int x2), .val (.int x3), .val (.int x4), .val (.long b1), .second, .val (.long e1), .second, .val (.long b2), .second, .val (.long e2), .second, .val (.int f0), .val (.int f1), .val (.int f2), .val (.int f3), .val (.int (own_nz f0 b1)), .val (.int (own_nz f1 e1)), .val (.int (own_nz f2 b2)), .val (.int (own_nz f3 e2)), .val (.ref a), .val (.ref b), .val (.int (1 : Int32)), .val .null, .val (.ref q)] [(.ref a), (.ref b)])) (fun _ k => XS.aload X54.here hx rfl (hb hby at_276) rfl rfl k) ?_
      obtain ⟨v55, T55, L55, X55, hQ55, st55⟩ := callV X54 hx hZ (y := (⟨"com/example/gaugefit/gaugefit/core/Interval", "equals", "(Ljava/lang/Object;)Z"⟩ : MethodName)) hown (hw _ (List.mem_of_getElem? (i := 33) rfl)) (hw _ (List.mem_of_getElem? (i := 34) rfl)) (hw _ (List.mem_of_getElem? (i := 36) rfl)) (hw _ (List.mem_of_getElem? (i := 35) rfl)) (hw _ (List.mem_of_getElem? (i := 37) rfl)) (hw _ (List.mem_of_getElem? (i := 2) rfl)) (by decide) hk54 E_b (argsL := [(.ref a)]) (rest := []) (W := 0) (rm_eqT l Z a0 hw b a (own_time b2 f2) (own_time e2 f3) (own_time b1 f0) (own_time e1 f1) b2.toInt e2.toInt b1.toInt e1.toInt T53.heap n0 Z0 E_a F_begin_b F_end_b F_begin_a F_end_a (own_time_int (by omega)) (own_time_int (by omega)) (own_time_int (by omega)) (own_time_int (by omega)) hq0.symm hq1.symm) rfl (by decide) (by decide) (by decide) (by decide) (g := (mkF m 278 #[.val (.int x0), .val (.int x1), .val (.int x2), .val (.int x3), .val (.int x4), .val (.long b1), .second, .val (.long e1), .second, .val (.long b2), .second, .val (.long e2), .second, .val (.int f0), .val (.int f1), .val (.int f2), .val (.int f3), .val (.int (own_nz f0 b1)), .val (.int (own_nz f1 e1)), .val (.int (own_nz f2 b2)), .val (.int (own_nz f3 e2)), .val (.ref a), .val (.ref b), .val (.int (1 : Int32)), .val .null, .val (.ref q)] [(.ref a), (.ref b)])) rfl (by rw [hml]; rfl) (lenOf pd6 rfl) rfl (by show 2 * 0 + _ ≤ _; exact Nat.le_of_eq rfl) (hb hby at_278)
      obtain ⟨rfl, NL55, hk55⟩ := hQ55
      have N0 := Fr.app N0 NL55
      refine Goes.by (T' := T55) (g' := (mkF m 281 #[.val (.int x0), .val (.int x1), .val (.int x2), .val (.int x3), .val (.int x4), .val (.long b1), .second, .val (.long e1), .second, .val (.long b2), .second, .val (.long e2), .second, .val (.int f0), .val (.int f1), .val (.int f2), .val (.int f3), .val (.int (own_nz f0 b1)), .val (.int (own_nz f1 e1)), .val (.int (own_nz f2 b2)), .val (.int (own_nz f3 e2)), .val (.ref a), .val (.ref b), .val (.int (1 : Int32)), .val .null, .val (.ref q)] [(.int (1 : Int32))])) st55 ?_
      refine Goes.by (T' := T55) (g' := (mkF m 283 #[.val (.int x0), .val (.int x1), .val (.int x2), .val (.int x3), .val (.int x4), .val (.long b1), .second, .val (.long e1), .second, .val (.long b2), .second, .val (.long e2), .second, .val (.int f0), .val (.int f1), .val (.int f2), .val (.int f3), .val (.int (own_nz f0 b1)), .val (.int (own_nz f1 e1)), .val (.int (own_nz f2 b2)), .val (.int (own_nz f3 e2)), .val (.ref a), .val (.ref b), .val (.int (1 : Int32)), .val .null, .val (.ref q)] [(.int (1 : Int32)), (.int (1 : Int32))])) (fun _ k => XS.iload X55.here hx rfl (hb hby at_281) rfl k) ?_
      refine Goes.by (T' := T55) (g' := (mkF m 286 #[.val (.int x0), .val (.int x1), .val (.int x2), .val (.int x3), .val (.int x4), .val (.long b1), .second, .val (.long e1), .second, .val (.long b2), .second, .val (.long e2), .second, .val (.int f0), .val (.int f1), .val (.int f2), .val (.int f3), .val (.int (own_nz f0 b1)), .val (.int (own_nz f1 e1)), .val (.int (own_nz f2 b2)), .val (.int (own_nz f3 e2)), .val (.ref a), .val (.ref b), .val (.int (1 : Int32)), .val .null, .val (.ref q)] [])) (fun _ k => XS.icmpNo X55.here hx rfl (hb hby at_283) rfl (by decide) k) ?_
      refine Goes.by (T' := T55) (g' := (mkF m 288 #[.val (.int x0), .val (.int x1), .val (.int x2), .val (.int x3), .val (.int x4), .val (.long b1), .second, .val (.long e1), .second, .val (.long b2), .second, .val (.long e2), .second, .val (.int f0), .val (.int f1), .val (.int f2), .val (.int f3), .val (.int (own_nz f0 b1)), .val (.int (own_nz f1 e1)), .val (.int (own_nz f2 b2)), .val (.int (own_nz f3 e2)), .val (.ref a), .val (.ref b), .val (.int (1 : Int32)), .val .null, .val (.ref q)] [(.ref a)])) (fun _ k => XS.aload X55.here hx rfl (hb hby at_286) rfl rfl k) ?_
      refine Goes.by (T' := T55) (g' := (mkF m 290 #[.val (.int x0), .val (.int x1), .val (.int x2), .val (.int x3), .val (.int x4), .val (.long b1), .second, .val (.long e1), .second, .val (.long b2), .second, .val (.long e2), .second, .val (.int f0), .val (.int f1), .val (.int f2), .val (.int f3), .val (.int (own_nz f0 b1)), .val (.int (own_nz f1 e1)), .val (.int (own_nz f2 b2)), .val (.int (own_nz f3 e2)), .val (.ref a), .val (.ref b), .val (.int (1 : Int32)), .val .null, .val (.ref q)] [(.ref a), (.ref a)])) (fun _ k => XS.aload X55.here hx rfl (hb hby at_288) rfl rfl k) ?_
      obtain ⟨v56, T56, L56, X56, hQ56, st56⟩ := callV X55 hx hZ (y := (⟨"com/example/gaugefit/gaugefit/core/Interval", "equals", "(Ljava/lang/Object;)Z"⟩ : MethodName)) hown (hw _ (List.mem_of_getElem? (i := 33) rfl)) (hw _ (List.mem_of_getElem? (i := 34) rfl)) (hw _ (List.mem_of_getElem? (i := 36) rfl)) (hw _ (List.mem_of_getElem? (i := 35) rfl)) (hw _ (List.mem_of_getElem? (i := 37) rfl)) (hw _ (List.mem_of_getElem? (i := 2) rfl)) (by decide) hk55 E_a (argsL := [(.ref a)]) (rest := []) (W := 0) (rm_eqT l Z a0 hw a a (own_time b1 f0) (own_time e1 f1) (own_time b1 f0) (own_time e1 f1) b1.toInt e1.toInt b1.toInt e1.toInt T53.heap n0 Z0 E_a F_begin_a F_end_a F_begin_a F_end_a (own_time_int (by omega)) (own_time_int (by omega)) (own_time_int (by omega)) (own_time_int (by omega)) rfl rfl) rfl (by decide) (by decide) (by decide) (by decide) (g := (mkF m 290 #[.val (.int x0), .val (.int x1), .val (.int x2), .val (.int x3), .val (.int x4), .val (.long b1), .second, .val (.long e1), .second, .val (.long b2), .second, .val (.long e2), .second, .val (.int f0), .val (.int f1), .val (.int f2), .val (.int f3), .val (.int (own_nz f0 b1)), .val (.int (own_nz f1 e1)), .val (.int (own_nz f2 b2)), .val (.int (own_nz f3 e2)), .val (.ref a), .val (.ref b), .val (.int (1 : Int32)), .val .null, .val (.ref q)] [(.ref a), (.ref a)])) rfl (by rw [hml]; rfl) (lenOf pd6 rfl) rfl (by show 2 * 0 + _ ≤ _; exact Nat.le_of_eq rfl) (hb hby at_290)
      obtain ⟨rfl, NL56, hk56⟩ := hQ56
      have N0 := Fr.app N0 NL56
      refine Goes.by (T' := T56) (g' := (mkF m 293 #[.val (.int x0), .val (.int x1), .val (.int x2), .val (.int x3), .val (.int x4), .val (.long b1), .second, .val (.long e1), .second, .val (.long b2), .second, .val (.long e2), .second, .val (.int f0), .val (.int f1), .val (.int f2), .val (.int f3), .val (.int (own_nz f0 b1)), .val (.int (own_nz f1 e1)), .val (.int (own_nz f2 b2)), .val (.int (own_nz f3 e2)), .val (.ref a), .val (.ref b), .val (.int (1 : Int32)), .val .null, .val (.ref q)] [(.int (1 : Int32))])) st56 ?_
      refine Goes.by (T' := T56) (g' := (mkF m 296 #[.val (.int x0), .val (.int x1), .val (.int x2), .val (.int x3), .val (.int x4), .val (.long b1), .second, .val (.long e1), .second, .val (.long b2), .second, .val (.long e2), .second, .val (.int f0), .val (.int f1), .val (.int f2), .val (.int f3), .val (.int (own_nz f0 b1)), .val (.int (own_nz f1 e1)), .val (.int (own_nz f2 b2)), .val (.int (own_nz f3 e2)), .val (.ref a), .val (.ref b), .val (.int (1 : Int32)), .val .null, .val (.ref q)] [])) (fun _ k => XS.ifNo X56.here hx rfl (hb hby at_293) rfl (by decide) k) ?_
      refine Goes.by (T' := T56) (g' := (mkF m 298 #[.val (.int x0), .val (.int x1), .val (.int x2), .val (.int x3), .val (.int x4), .val (.long b1), .second, .val (.long e1), .second, .val (.long b2), .second, .val (.long e2), .second, .val (.int f0), .val (.int f1), .val (.int f2), .val (.int f3), .val (.int (own_nz f0 b1)), .val (.int (own_nz f1 e1)), .val (.int (own_nz f2 b2)), .val (.int (own_nz f3 e2)), .val (.ref a), .val (.ref b), .val (.int (1 : Int32)), .val .null, .val (.ref q)] [(.ref a)])) (fun _ k => XS.aload X56.here hx rfl (hb hby at_296) rfl rfl k) ?_
      refine Goes.by (T' := T56) (g' := (mkF m 300 #[.val (.int x0), .val (.int x1), .val (.int x2), .val (.int x3), .val (.int x4), .val (.long b1), .second, .val (.long e1), .second, .val (.long b2), .second, .val (.long e2), .second, .val (.int f0), .val (.int f1), .val (.int f2), .val (.int f3), .val (.int (own_nz f0 b1)), .val (.int (own_nz f1 e1)), .val (.int (own_nz f2 b2)), .val (.int (own_nz f3 e2)), .val (.ref a), .val (.ref b), .val (.int (1 : Int32)), .val .null, .val (.ref q)] [.null, (.ref a)])) (fun _ k => XS.aload X56.here hx rfl (hb hby at_298) rfl rfl k) ?_
      obtain ⟨v57, T57, L57, X57, hQ57, st57⟩ := callV X56 hx hZ (y := (⟨"com/example/gaugefit/gaugefit/core/Interval", "equals", "(Ljava/lang/Object;)Z"⟩ : MethodName)) hown (hw _ (List.mem_of_getElem? (i := 33) rfl)) (hw _ (List.mem_of_getElem? (i := 34) rfl)) (hw _ (List.mem_of_getElem? (i := 36) rfl)) (hw _ (List.mem_of_getElem? (i := 35) rfl)) (hw _ (List.mem_of_getElem? (i := 37) rfl)) (hw _ (List.mem_of_getElem? (i := 2) rfl)) (by decide) hk56 E_a (argsL := [.null]) (rest := []) (W := 0) (rm_eqnull l Z a0 hw a T53.heap n0 Z0) rfl (by decide) (by decide) (by decide) (by decide) (g := (mkF m 300 #[.val (.int x0), .val (.int x1), .val (.int x2), .val (.int x3), .val (.int x4), .val (.long b1), .second, .val (.long e1), .second, .val (.long b2), .second, .val (.long e2), .second, .val (.int f0), .val (.int f1), .val (.int f2), .val (.int f3), .val (.int (own_nz f0 b1)), .val (.int (own_nz f1 e1)), .val (.int (own_nz f2 b2)), .val (.int (own_nz f3 e2)), .val (.ref a), .val (.ref b), .val (.int (1 : Int32)), .val .null, .val (.ref q)] [.null, (.ref a)])) rfl (by rw [hml]; rfl) (lenOf pd6 rfl) rfl (by show 2 * 0 + _ ≤ _; exact Nat.le_of_eq rfl) (hb hby at_300)
      obtain ⟨rfl, NL57, hk57⟩ := hQ57
      have N0 := Fr.app N0 NL57
      refine Goes.by (T' := T57) (g' := (mkF m 303 #[.val (.int x0), .val (.int x1), .val (.int x2), .val (.int x3), .val (.int x4), .val (.long b1), .second, .val (.long e1), .second, .val (.long b2), .second, .val (.long e2), .second, .val (.int f0), .val (.int f1), .val (.int f2), .val (.int f3), .val (.int (own_nz f0 b1)), .val (.int (own_nz f1 e1)), .val (.int (own_nz f2 b2)), .val (.int (own_nz f3 e2)), .val (.ref a), .val (.ref b), .val (.int (1 : Int32)), .val .null, .val (.ref q)] [(.int (0 : Int32))])) st57 ?_
      refine Goes.by (T' := T57) (g' := (mkF m 306 #[.val (.int x0), .val (.int x1), .val (.int x2), .val (.int x3), .val (.int x4), .val (.long b1), .second, .val (.long e1), .second, .val (.long b2), .second, .val (.long e2), .second, .val (.int f0), .val (.int f1), .val (.int f2), .val (.int f3), .val (.int (own_nz f0 b1)), .val (.int (own_nz f1 e1)), .val (.int (own_nz f2 b2)), .val (.int (own_nz f3 e2)), .val (.ref a), .val (.ref b), .val (.int (1 : Int32)), .val .null, .val (.ref q)] [])) (fun _ k => XS.ifNo X57.here hx rfl (hb hby at_303) rfl (by decide) k) ?_
      refine Goes.by (T' := T57) (g' := (mkF m 308 #[.val (.int x0), .val (.int x1), .val (.int x2), .val (.int x3), .val (.int x4), .val (.long b1), .second, .val (.long e1), .second, .val (.long b2), .second, .val (.long e2), .second, .val (.int f0), .val (.int f1), .val (.int f2), .val (.int f3), .val (.int (own_nz f0 b1)), .val (.int (own_nz f1 e1)), .val (.int (own_nz f2 b2)), .val (.int (own_nz f3 e2)), .val (.ref a), .val (.ref b), .val (.int (1 : Int32)), .val .null, .val (.ref q)] [(.ref a)])) (fun _ k => XS.aload X57.here hx rfl (hb hby at_306) rfl rfl k) ?_
      refine Goes.by (T' := T57) (g' := (mkF m 310 #[.val (.int x0), .val (.int x1), .val (.int x2), .val (.int x3), .val (.int x4), .val (.long b1), .second, .val (.long e1), .second, .val (.long b2), .second, .val (.long e2), .second, .val (.int f0), .val (.int f1), .val (.int f2), .val (.int f3), .val (.int (own_nz f0 b1)), .val (.int (own_nz f1 e1)), .val (.int (own_nz f2 b2)), .val (.int (own_nz f3 e2)), .val (.ref a), .val (.ref b), .val (.int (1 : Int32)), .val .null, .val (.ref q)] [(.ref q), (.ref a)])) (fun _ k => XS.aload X57.here hx rfl (hb hby at_308) rfl rfl k) ?_
      obtain ⟨v58, T58, L58, X58, hQ58, st58⟩ := callV X57 hx hZ (y := (⟨"com/example/gaugefit/gaugefit/core/Interval", "equals", "(Ljava/lang/Object;)Z"⟩ : MethodName)) hown (hw _ (List.mem_of_getElem? (i := 33) rfl)) (hw _ (List.mem_of_getElem? (i := 34) rfl)) (hw _ (List.mem_of_getElem? (i := 36) rfl)) (hw _ (List.mem_of_getElem? (i := 35) rfl)) (hw _ (List.mem_of_getElem? (i := 37) rfl)) (hw _ (List.mem_of_getElem? (i := 2) rfl)) (by decide) hk57 E_a (argsL := [(.ref q)]) (rest := []) (W := 0) (rm_eqfor l Z a0 hw a q T53.heap n0 Z0 E_q hno) rfl (by decide) (by decide) (by decide) (by decide) (g := (mkF m 310 #[.val (.int x0), .val (.int x1), .val (.int x2), .val (.int x3), .val (.int x4), .val (.long b1), .second, .val (.long e1), .second, .val (.long b2), .second, .val (.long e2), .second, .val (.int f0), .val (.int f1), .val (.int f2), .val (.int f3), .val (.int (own_nz f0 b1)), .val (.int (own_nz f1 e1)), .val (.int (own_nz f2 b2)), .val (.int (own_nz f3 e2)), .val (.ref a), .val (.ref b), .val (.int (1 : Int32)), .val .null, .val (.ref q)] [(.ref q), (.ref a)])) rfl (by rw [hml]; rfl) (lenOf pd6 rfl) rfl (by show 2 * 0 + _ ≤ _; exact Nat.le_of_eq rfl) (hb hby at_310)
      obtain ⟨rfl, NL58, hk58⟩ := hQ58
      have N0 := Fr.app N0 NL58
      refine Goes.by (T' := T58) (g' := (mkF m 313 #[.val (.int x0), .val (.int x1), .val (.int x2), .val (.int x3), .val (.int x4), .val (.long b1), .second, .val (.long e1), .second, .val (.long b2), .second, .val (.long e2), .second, .val (.int f0), .val (.int f1), .val (.int f2), .val (.int f3), .val (.int (own_nz f0 b1)), .val (.int (own_nz f1 e1)), .val (.int (own_nz f2 b2)), .val (.int (own_nz f3 e2)), .val (.ref a), .val (.ref b), .val (.int (1 : Int32)), .val .null, .val (.ref q)] [(.int (0 : Int32))])) st58 ?_
      refine Goes.by (T' := T58) (g' := (mkF m 316 #[.val (.int x0), .val (.int x1), .val (.int x2), .val (.int x3), .val (.int x4), .val (.long b1), .second, .val (.long e1), .second, .val (.long b2), .second, .val (.long e2), .second, .val (.int f0), .val (.int f1), .val (.int f2), .val (.int f3), .val (.int (own_nz f0 b1)), .val (.int (own_nz f1 e1)), .val (.int (own_nz f2 b2)), .val (.int (own_nz f3 e2)), .val (.ref a), .val (.ref b), .val (.int (1 : Int32)), .val .null, .val (.ref q)] [])) (fun _ k => XS.ifNo X58.here hx rfl (hb hby at_313) rfl (by decide) k) ?_
      refine Goes.by (T' := T58) (g' := (mkF m 317 #[.val (.int x0), .val (.int x1), .val (.int x2), .val (.int x3), .val (.int x4), .val (.long b1), .second, .val (.long e1), .second, .val (.long b2), .second, .val (.long e2), .second, .val (.int f0), .val (.int f1), .val (.int f2), .val (.int f3), .val (.int (own_nz f0 b1)), .val (.int (own_nz f1 e1)), .val (.int (own_nz f2 b2)), .val (.int (own_nz f3 e2)), .val (.ref a), .val (.ref b), .val (.int (1 : Int32)), .val .null, .val (.ref q)] [(.int (1 : Int32))])) (fun _ k => XS.iconst X58.here hx rfl (hb hby at_316)  k) ?_
      refine Goes.by (T' := T58) (g' := (mkF m 321 #[.val (.int x0), .val (.int x1), .val (.int x2), .val (.int x3), .val (.int x4), .val (.long b1), .second, .val (.long e1), .second, .val (.long b2), .second, .val (.long e2), .second, .val (.int f0), .val (.int f1), .val (.int f2), .val (.int f3), .val (.int (own_nz f0 b1)), .val (.int (own_nz f1 e1)), .val (.int (own_nz f2 b2)), .val (.int (own_nz f3 e2)), .val (.ref a), .val (.ref b), .val (.int (1 : Int32)), .val .null, .val (.ref q)] [(.int (1 : Int32))])) (fun _ k => XS.goto X58.here hx rfl (pc0 := 317) (pc' := 321) rfl (hb hby at_317) (by decide) (by decide) k) ?_
      exact outZ X58 hx hlk hret (hb hby at_321) (by exact ⟨rfl, N0⟩) (by decide) (by decide)
    · obtain ⟨v59, T59, L59, X59, hQ59, st59⟩ := callV X53 hx hZ (y := (⟨"com/example/gaugefit/gaugefit/core/Interval", "equals", "(Ljava/lang/Object;)Z"⟩ : MethodName)) hown (hw _ (List.mem_of_getElem? (i := 33) rfl)) (hw _ (List.mem_of_getElem? (i := 34) rfl)) (hw _ (List.mem_of_getElem? (i := 36) rfl)) (hw _ (List.mem_of_getElem? (i := 35) rfl)) (hw _ (List.mem_of_getElem? (i := 37) rfl)) (hw _ (List.mem_of_getElem? (i := 2) rfl)) (by decide) e53 E_a (argsL := [(.ref b)]) (rest := []) (W := 0) (rm_eqF1 l Z a0 hw a b (own_time b1 f0) (own_time e1 f1) (own_time b2 f2) (own_time e2 f3) b1.toInt e1.toInt b2.toInt e2.toInt T53.heap n0 Z0 E_b F_begin_a F_end_a F_begin_b F_end_b (own_time_int (by omega)) (own_time_int (by omega)) (own_time_int (by omega)) (own_time_int (by omega)) hq0) rfl (by decide) (by decide) (by decide) (by decide) (g := (mkF m 266 #[.val (.int x0), .val (.int x1), .val (.int x2), .val (.int x3), .val (.int x4), .val (.long b1), .second, .val (.long e1), .second, .val (.long b2), .second, .val (.long e2), .second, .val (.int f0), .val (.int f1), .val (.int f2), .val (.int f3), .val (.int (own_nz f0 b1)), .val (.int (own_nz f1 e1)), .val (.int (own_nz f2 b2)), .val (.int (own_nz f3 e2)), .val (.ref a), .val (.ref b), .val (.int (0 : Int32)), .val .null, .val (.ref q)] [(.ref b), (.ref a)])) rfl (by rw [hml]; rfl) (lenOf pd6 rfl) rfl (by show 2 * 0 + _ ≤ _; exact Nat.le_of_eq rfl) (hb hby at_266)
      obtain ⟨rfl, NL59, hk59⟩ := hQ59
      have N0 := Fr.app N0 NL59
      refine Goes.by (T' := T59) (g' := (mkF m 269 #[.val (.int x0), .val (.int x1), .val (.int x2), .val (.int x3), .val (.int x4), .val (.long b1), .second, .val (.long e1), .second, .val (.long b2), .second, .val (.long e2), .second, .val (.int f0), .val (.int f1), .val (.int f2), .val (.int f3), .val (.int (own_nz f0 b1)), .val (.int (own_nz f1 e1)), .val (.int (own_nz f2 b2)), .val (.int (own_nz f3 e2)), .val (.ref a), .val (.ref b), .val (.int (0 : Int32)), .val .null, .val (.ref q)] [(.int (0 : Int32))])) st59 ?_
      refine Goes.by (T' := T59) (g' := (mkF m 271 #[.val (.int x0), .val (.int x1), .val (.int x2), .val (.int x3), .val (.int x4), .val (.long b1), .second, .val (.long e1), .second, .val (.long b2), .second, .val (.long e2), .second, .val (.int f0), .val (.int f1), .val (.int f2), .val (.int f3), .val (.int (own_nz f0 b1)), .val (.int (own_nz f1 e1)), .val (.int (own_nz f2 b2)), .val (.int (own_nz f3 e2)), .val (.ref a), .val (.ref b), .val (.int (0 : Int32)), .val .null, .val (.ref q)] [(.int (0 : Int32)), (.int (0 : Int32))])) (fun _ k => XS.iload X59.here hx rfl (hb hby at_269) rfl k) ?_
      refine Goes.by (T' := T59) (g' := (mkF m 274 #[.val (.int x0), .val (.int x1), .val (.int x2), .val (.int x3), .val (.int x4), .val (.long b1), .second, .val (.long e1), .second, .val (.long b2), .second, .val (.long e2), .second, .val (.int f0), .val (.int f1), .val (.int f2), .val (.int f3), .val (.int (own_nz f0 b1)), .val (.int (own_nz f1 e1)), .val (.int (own_nz f2 b2)), .val (.int (own_nz f3 e2)), .val (.ref a), .val (.ref b), .val (.int (0 : Int32)), .val .null, .val (.ref q)] [])) (fun _ k => XS.icmpNo X59.here hx rfl (hb hby at_271) rfl (by decide) k) ?_
      refine Goes.by (T' := T59) (g' := (mkF m 276 #[.val (.int x0), .val (.int x1), .val (.int x2), .val (.int x3), .val (.int x4), .val (.long b1), .second, .val (.long e1), .second, .val (.long b2), .second, .val (.long e2), .second, .val (.int f0), .val (.int f1), .val (.int f2), .val (.int f3), .val (.int (own_nz f0 b1)), .val (.int (own_nz f1 e1)), .val (.int (own_nz f2 b2)), .val (.int (own_nz f3 e2)), .val (.ref a), .val (.ref b), .val (.int (0 : Int32)), .val .null, .val (.ref q)] [(.ref b)])) (fun _ k => XS.aload X59.here hx rfl (hb hby at_274) rfl rfl k) ?_
      refine Goes.by (T' := T59) (g' := (mkF m 278 #[.val (.int x0), .val (.int x1), .val (.int x2), .val (.int x3), .val (.int x4), .val (.long b1), .second, .val (.long e1), .second, .val (.long b2), .second, .val (.long e2), .second, .val (.int f0), .val (.int f1), .val (.int f2), .val (.int f3), .val (.int (own_nz f0 b1)), .val (.int (own_nz f1 e1)), .val (.int (own_nz f2 b2)), .val (.int (own_nz f3 e2)), .val (.ref a), .val (.ref b), .val (.int (0 : Int32)), .val .null, .val (.ref q)] [(.ref a), (.ref b)])) (fun _ k => XS.aload X59.here hx rfl (hb hby at_276) rfl rfl k) ?_
      obtain ⟨v60, T60, L60, X60, hQ60, st60⟩ := callV X59 hx hZ (y := (⟨"com/example/gaugefit/gaugefit/core/Interval", "equals", "(Ljava/lang/Object;)Z"⟩ : MethodName)) hown (hw _ (List.mem_of_getElem? (i := 33) rfl)) (hw _ (List.mem_of_getElem? (i := 34) rfl)) (hw _ (List.mem_of_getElem? (i := 36) rfl)) (hw _ (List.mem_of_getElem? (i := 35) rfl)) (hw _ (List.mem_of_getElem? (i := 37) rfl)) (hw _ (List.mem_of_getElem? (i := 2) rfl)) (by decide) hk59 E_b (argsL := [(.ref a)]) (rest := []) (W := 0) (rm_eqF1 l Z a0 hw b a (own_time b2 f2) (own_time e2 f3) (own_time b1 f0) (own_time e1 f1) b2.toInt e2.toInt b1.toInt e1.toInt T53.heap n0 Z0 E_a F_begin_b F_end_b F_begin_a F_end_a (own_time_int (by omega)) (own_time_int (by omega)) (own_time_int (by omega)) (own_time_int (by omega)) (Ne.symm hq0)) rfl (by decide) (by decide) (by decide) (by decide) (g := (mkF m 278 #[.val (.int x0), .val (.int x1), .val (.int x2), .val (.int x3), .val (.int x4), .val (.long b1), .second, .val (.long e1), .second, .val (.long b2), .second, .val (.long e2), .second, .val (.int f0), .val (.int f1), .val (.int f2), .val (.int f3), .val (.int (own_nz f0 b1)), .val (.int (own_nz f1 e1)), .val (.int (own_nz f2 b2)), .val (.int (own_nz f3 e2)), .val (.ref a), .val (.ref b), .val (.int (0 : Int32)), .val .null, .val (.ref q)] [(.ref a), (.ref b)])) rfl (by rw [hml]; rfl) (lenOf pd6 rfl) rfl (by show 2 * 0 + _ ≤ _; exact Nat.le_of_eq rfl) (hb hby at_278)
      obtain ⟨rfl, NL60, hk60⟩ := hQ60
      have N0 := Fr.app N0 NL60
      refine Goes.by (T' := T60) (g' := (mkF m 281 #[.val (.int x0), .val (.int x1), .val (.int x2), .val (.int x3), .val (.int x4), .val (.long b1), .second, .val (.long e1), .second, .val (.long b2), .second, .val (.long e2), .second, .val (.int f0), .val (.int f1), .val (.int f2), .val (.int f3), .val (.int (own_nz f0 b1)), .val (.int (own_nz f1 e1)), .val (.int (own_nz f2 b2)), .val (.int (own_nz f3 e2)), .val (.ref a), .val (.ref b), .val (.int (0 : Int32)), .val .null, .val (.ref q)] [(.int (0 : Int32))])) st60 ?_
      refine Goes.by (T' := T60) (g' := (mkF m 283 #[.val (.int x0), .val (.int x1), .val (.int x2), .val (.int x3), .val (.int x4), .val (.long b1), .second, .val (.long e1), .second, .val (.long b2), .second, .val (.long e2), .second, .val (.int f0), .val (.int f1), .val (.int f2), .val (.int f3), .val (.int (own_nz f0 b1)), .val (.int (own_nz f1 e1)), .val (.int (own_nz f2 b2)), .val (.int (own_nz f3 e2)), .val (.ref a), .val (.ref b), .val (.int (0 : Int32)), .val .null, .val (.ref q)] [(.int (0 : Int32)), (.int (0 : Int32))])) (fun _ k => XS.iload X60.here hx rfl (hb hby at_281) rfl k) ?_
      refine Goes.by (T' := T60) (g' := (mkF m 286 #[.val (.int x0), .val (.int x1), .val (.int x2), .val (.int x3), .val (.int x4), .val (.long b1), .second, .val (.long e1), .second, .val (.long b2), .second, .val (.long e2), .second, .val (.int f0), .val (.int f1), .val (.int f2), .val (.int f3), .val (.int (own_nz f0 b1)), .val (.int (own_nz f1 e1)), .val (.int (own_nz f2 b2)), .val (.int (own_nz f3 e2)), .val (.ref a), .val (.ref b), .val (.int (0 : Int32)), .val .null, .val (.ref q)] [])) (fun _ k => XS.icmpNo X60.here hx rfl (hb hby at_283) rfl (by decide) k) ?_
      refine Goes.by (T' := T60) (g' := (mkF m 288 #[.val (.int x0), .val (.int x1), .val (.int x2), .val (.int x3), .val (.int x4), .val (.long b1), .second, .val (.long e1), .second, .val (.long b2), .second, .val (.long e2), .second, .val (.int f0), .val (.int f1), .val (.int f2), .val (.int f3), .val (.int (own_nz f0 b1)), .val (.int (own_nz f1 e1)), .val (.int (own_nz f2 b2)), .val (.int (own_nz f3 e2)), .val (.ref a), .val (.ref b), .val (.int (0 : Int32)), .val .null, .val (.ref q)] [(.ref a)])) (fun _ k => XS.aload X60.here hx rfl (hb hby at_286) rfl rfl k) ?_
      refine Goes.by (T' := T60) (g' := (mkF m 290 #[.val (.int x0), .val (.int x1), .val (.int x2), .val (.int x3), .val (.int x4), .val (.long b1), .second, .val (.long e1), .second, .val (.long b2), .second, .val (.long e2), .second, .val (.int f0), .val (.int f1), .val (.int f2), .val (.int f3), .val (.int (own_nz f0 b1)), .val (.int (own_nz f1 e1)), .val (.int (own_nz f2 b2)), .val (.int (own_nz f3 e2)), .val (.ref a), .val (.ref b), .val (.int (0 : Int32)), .val .null, .val (.ref q)] [(.ref a), (.ref a)])) (fun _ k => XS.aload X60.here hx rfl (hb hby at_288) rfl rfl k) ?_
      obtain ⟨v61, T61, L61, X61, hQ61, st61⟩ := callV X60 hx hZ (y := (⟨"com/example/gaugefit/gaugefit/core/Interval", "equals", "(Ljava/lang/Object;)Z"⟩ : MethodName)) hown (hw _ (List.mem_of_getElem? (i := 33) rfl)) (hw _ (List.mem_of_getElem? (i := 34) rfl)) (hw _ (List.mem_of_getElem? (i := 36) rfl)) (hw _ (List.mem_of_getElem? (i := 35) rfl)) (hw _ (List.mem_of_getElem? (i := 37) rfl)) (hw _ (List.mem_of_getElem? (i := 2) rfl)) (by decide) hk60 E_a (argsL := [(.ref a)]) (rest := []) (W := 0) (rm_eqT l Z a0 hw a a (own_time b1 f0) (own_time e1 f1) (own_time b1 f0) (own_time e1 f1) b1.toInt e1.toInt b1.toInt e1.toInt T53.heap n0 Z0 E_a F_begin_a F_end_a F_begin_a F_end_a (own_time_int (by omega)) (own_time_int (by omega)) (own_time_int (by omega)) (own_time_int (by omega)) rfl rfl) rfl (by decide) (by decide) (by decide) (by decide) (g := (mkF m 290 #[.val (.int x0), .val (.int x1), .val (.int x2), .val (.int x3), .val (.int x4), .val (.long b1), .second, .val (.long e1), .second, .val (.long b2), .second, .val (.long e2), .second, .val (.int f0), .val (.int f1), .val (.int f2), .val (.int f3), .val (.int (own_nz f0 b1)), .val (.int (own_nz f1 e1)), .val (.int (own_nz f2 b2)), .val (.int (own_nz f3 e2)), .val (.ref a), .val (.ref b), .val (.int (0 : Int32)), .val .null, .val (.ref q)] [(.ref a), (.ref a)])) rfl (by rw [hml]; rfl) (lenOf pd6 rfl) rfl (by show 2 * 0 + _ ≤ _; exact Nat.le_of_eq rfl) (hb hby at_290)
      obtain ⟨rfl, NL61, hk61⟩ := hQ61
      have N0 := Fr.app N0 NL61
      refine Goes.by (T' := T61) (g' := (mkF m 293 #[.val (.int x0), .val (.int x1), .val (.int x2), .val (.int x3), .val (.int x4), .val (.long b1), .second, .val (.long e1), .second, .val (.long b2), .second, .val (.long e2), .second, .val (.int f0), .val (.int f1), .val (.int f2), .val (.int f3), .val (.int (own_nz f0 b1)), .val (.int (own_nz f1 e1)), .val (.int (own_nz f2 b2)), .val (.int (own_nz f3 e2)), .val (.ref a), .val (.ref b), .val (.int (0 : Int32)), .val .null, .val (.ref q)] [(.int (1 : Int32))])) st61 ?_
      refine Goes.by (T' := T61) (g' := (mkF m 296 #[.val (.int x0), .val (.int x1), .val (.int x2), .val (.int x3), .val (.int x4), .val (.long b1), .second, .val (.long e1), .second, .val (.long b2), .second, .val (.long e2), .second, .val (.int f0), .val (.int f1), .val (.int f2), .val (.int f3), .val (.int (own_nz f0 b1)), .val (.int (own_nz f1 e1)), .val (.int (own_nz f2 b2)), .val (.int (own_nz f3 e2)), .val (.ref a), .val (.ref b), .val (.int (0 : Int32)), .val .null, .val (.ref q)] [])) (fun _ k => XS.ifNo X61.here hx rfl (hb hby at_293) rfl (by decide) k) ?_
      refine Goes.by (T' := T61) (g' := (mkF m 298 #[.val (.int x0), .val (.int x1), .val (.int x2), .val (.int x3), .val (.int x4), .val (.long b1), .second, .val (.long e1), .second, .val (.long b2), .second, .val (.long e2), .second, .val (.int f0), .val (.int f1), .val (.int f2), .val (.int f3), .val (.int (own_nz f0 b1)), .val (.int (own_nz f1 e1)), .val (.int (own_nz f2 b2)), .val (.int (own_nz f3 e2)), .val (.ref a), .val (.ref b), .val (.int (0 : Int32)), .val .null, .val (.ref q)] [(.ref a)])) (fun _ k => XS.aload X61.here hx rfl (hb hby at_296) rfl rfl k) ?_
      refine Goes.by (T' := T61) (g' := (mkF m 300 #[.val (.int x0), .val (.int x1), .val (.int x2), .val (.int x3), .val (.int x4), .val (.long b1), .second, .val (.long e1), .second, .val (.long b2), .second, .val (.long e2), .second, .val (.int f0), .val (.int f1), .val (.int f2), .val (.int f3), .val (.int (own_nz f0 b1)), .val (.int (own_nz f1 e1)), .val (.int (own_nz f2 b2)), .val (.int (own_nz f3 e2)), .val (.ref a), .val (.ref b), .val (.int (0 : Int32)), .val .null, .val (.ref q)] [.null, (.ref a)])) (fun _ k => XS.aload X61.here hx rfl (hb hby at_298) rfl rfl k) ?_
      obtain ⟨v62, T62, L62, X62, hQ62, st62⟩ := callV X61 hx hZ (y := (⟨"com/example/gaugefit/gaugefit/core/Interval", "equals", "(Ljava/lang/Object;)Z"⟩ : MethodName)) hown (hw _ (List.mem_of_getElem? (i := 33) rfl)) (hw _ (List.mem_of_getElem? (i := 34) rfl)) (hw _ (List.mem_of_getElem? (i := 36) rfl)) (hw _ (List.mem_of_getElem? (i := 35) rfl)) (hw _ (List.mem_of_getElem? (i := 37) rfl)) (hw _ (List.mem_of_getElem? (i := 2) rfl)) (by decide) hk61 E_a (argsL := [.null]) (rest := []) (W := 0) (rm_eqnull l Z a0 hw a T53.heap n0 Z0) rfl (by decide) (by decide) (by decide) (by decide) (g := (mkF m 300 #[.val (.int x0), .val (.int x1), .val (.int x2), .val (.int x3), .val (.int x4), .val (.long b1), .second, .val (.long e1), .second, .val (.long b2), .second, .val (.long e2), .second, .val (.int f0), .val (.int f1), .val (.int f2), .val (.int f3), .val (.int (own_nz f0 b1)), .val (.int (own_nz f1 e1)), .val (.int (own_nz f2 b2)), .val (.int (own_nz f3 e2)), .val (.ref a), .val (.ref b), .val (.int (0 : Int32)), .val .null, .val (.ref q)] [.null, (.ref a)])) rfl (by rw [hml]; rfl) (lenOf pd6 rfl) rfl (by show 2 * 0 + _ ≤ _; exact Nat.le_of_eq rfl) (hb hby at_300)
      obtain ⟨rfl, NL62, hk62⟩ := hQ62
      have N0 := Fr.app N0 NL62
      refine Goes.by (T' := T62) (g' := (mkF m 303 #[.val (.int x0), .val (.int x1), .val (.int x2), .val (.int x3), .val (.int x4), .val (.long b1), .second, .val (.long e1), .second, .val (.long b2), .second, .val (.long e2), .second, .val (.int f0), .val (.int f1), .val (.int f2), .val (.int f3), .val (.int (own_nz f0 b1)), .val (.int (own_nz f1 e1)), .val (.int (own_nz f2 b2)), .val (.int (own_nz f3 e2)), .val (.ref a), .val (.ref b), .val (.int (0 : Int32)), .val .null, .val (.ref q)] [(.int (0 : Int32))])) st62 ?_
      refine Goes.by (T' := T62) (g' := (mkF m 306 #[.val (.int x0), .val (.int x1), .val (.int x2), .val (.int x3), .val (.int x4), .val (.long b1), .second, .val (.long e1), .second, .val (.long b2), .second, .val (.long e2), .second, .val (.int f0), .val (.int f1), .val (.int f2), .val (.int f3), .val (.int (own_nz f0 b1)), .val (.int (own_nz f1 e1)), .val (.int (own_nz f2 b2)), .val (.int (own_nz f3 e2)), .val (.ref a), .val (.ref b), .val (.int (0 : Int32)), .val .null, .val (.ref q)] [])) (fun _ k => XS.ifNo X62.here hx rfl (hb hby at_303) rfl (by decide) k) ?_
      refine Goes.by (T' := T62) (g' := (mkF m 308 #[.val (.int x0), .val (.int x1), .val (.int x2), .val (.int x3), .val (.int x4), .val (.long b1), .second, .val (.long e1), .second, .val (.long b2), .second, .val (.long e2), .second, .val (.int f0), .val (.int f1), .val (.int f2), .val (.int f3), .val (.int (own_nz f0 b1)), .val (.int (own_nz f1 e1)), .val (.int (own_nz f2 b2)), .val (.int (own_nz f3 e2)), .val (.ref a), .val (.ref b), .val (.int (0 : Int32)), .val .null, .val (.ref q)] [(.ref a)])) (fun _ k => XS.aload X62.here hx rfl (hb hby at_306) rfl rfl k) ?_
      refine Goes.by (T' := T62) (g' := (mkF m 310 #[.val (.int x0), .val (.int x1), .val (.int x2), .val (.int x3), .val (.int x4), .val (.long b1), .second, .val (.long e1), .second, .val (.long b2), .second, .val (.long e2), .second, .val (.int f0), .val (.int f1), .val (.int f2), .val (.int f3), .val (.int (own_nz f0 b1)), .val (.int (own_nz f1 e1)), .val (.int (own_nz f2 b2)), .val (.int (own_nz f3 e2)), .val (.ref a), .val (.ref b), .val (.int (0 : Int32)), .val .null, .val (.ref q)] [(.ref q), (.ref a)])) (fun _ k => XS.aload X62.here hx rfl (hb hby at_308) rfl rfl k) ?_
      obtain ⟨v63, T63, L63, X63, hQ63, st63⟩ := callV X62 hx hZ (y := (⟨"com/example/gaugefit/gaugefit/core/Interval", "equals", "(Ljava/lang/Object;)Z"⟩ : MethodName)) hown (hw _ (List.mem_of_getElem? (i := 33) rfl)) (hw _ (List.mem_of_getElem? (i := 34) rfl)) (hw _ (List.mem_of_getElem? (i := 36) rfl)) (hw _ (List.mem_of_getElem? (i := 35) rfl)) (hw _ (List.mem_of_getElem? (i := 37) rfl)) (hw _ (List.mem_of_getElem? (i := 2) rfl)) (by decide) hk62 E_a (argsL := [(.ref q)]) (rest := []) (W := 0) (rm_eqfor l Z a0 hw a q T53.heap n0 Z0 E_q hno) rfl (by decide) (by decide) (by decide) (by decide) (g := (mkF m 310 #[.val (.int x0), .val (.int x1), .val (.int x2), .val (.int x3), .val (.int x4), .val (.long b1), .second, .val (.long e1), .second, .val (.long b2), .second, .val (.long e2), .second, .val (.int f0), .val (.int f1), .val (.int f2), .val (.int f3), .val (.int (own_nz f0 b1)), .val (.int (own_nz f1 e1)), .val (.int (own_nz f2 b2)), .val (.int (own_nz f3 e2)), .val (.ref a), .val (.ref b), .val (.int (0 : Int32)), .val .null, .val (.ref q)] [(.ref q), (.ref a)])) rfl (by rw [hml]; rfl) (lenOf pd6 rfl) rfl (by show 2 * 0 + _ ≤ _; exact Nat.le_of_eq rfl) (hb hby at_310)
      obtain ⟨rfl, NL63, hk63⟩ := hQ63
      have N0 := Fr.app N0 NL63
      refine Goes.by (T' := T63) (g' := (mkF m 313 #[.val (.int x0), .val (.int x1), .val (.int x2), .val (.int x3), .val (.int x4), .val (.long b1), .second, .val (.long e1), .second, .val (.long b2), .second, .val (.long e2), .second, .val (.int f0), .val (.int f1), .val (.int f2), .val (.int f3), .val (.int (own_nz f0 b1)), .val (.int (own_nz f1 e1)), .val (.int (own_nz f2 b2)), .val (.int (own_nz f3 e2)), .val (.ref a), .val (.ref b), .val (.int (0 : Int32)), .val .null, .val (.ref q)] [(.int (0 : Int32))])) st63 ?_
      refine Goes.by (T' := T63) (g' := (mkF m 316 #[.val (.int x0), .val (.int x1), .val (.int x2), .val (.int x3), .val (.int x4), .val (.long b1), .second, .val (.long e1), .second, .val (.long b2), .second, .val (.long e2), .second, .val (.int f0), .val (.int f1), .val (.int f2), .val (.int f3), .val (.int (own_nz f0 b1)), .val (.int (own_nz f1 e1)), .val (.int (own_nz f2 b2)), .val (.int (own_nz f3 e2)), .val (.ref a), .val (.ref b), .val (.int (0 : Int32)), .val .null, .val (.ref q)] [])) (fun _ k => XS.ifNo X63.here hx rfl (hb hby at_313) rfl (by decide) k) ?_
      refine Goes.by (T' := T63) (g' := (mkF m 317 #[.val (.int x0), .val (.int x1), .val (.int x2), .val (.int x3), .val (.int x4), .val (.long b1), .second, .val (.long e1), .second, .val (.long b2), .second, .val (.long e2), .second, .val (.int f0), .val (.int f1), .val (.int f2), .val (.int f3), .val (.int (own_nz f0 b1)), .val (.int (own_nz f1 e1)), .val (.int (own_nz f2 b2)), .val (.int (own_nz f3 e2)), .val (.ref a), .val (.ref b), .val (.int (0 : Int32)), .val .null, .val (.ref q)] [(.int (1 : Int32))])) (fun _ k => XS.iconst X63.here hx rfl (hb hby at_316)  k) ?_
      refine Goes.by (T' := T63) (g' := (mkF m 321 #[.val (.int x0), .val (.int x1), .val (.int x2), .val (.int x3), .val (.int x4), .val (.long b1), .second, .val (.long e1), .second, .val (.long b2), .second, .val (.long e2), .second, .val (.int f0), .val (.int f1), .val (.int f2), .val (.int f3), .val (.int (own_nz f0 b1)), .val (.int (own_nz f1 e1)), .val (.int (own_nz f2 b2)), .val (.int (own_nz f3 e2)), .val (.ref a), .val (.ref b), .val (.int (0 : Int32)), .val .null, .val (.ref q)] [(.int (1 : Int32))])) (fun _ k => XS.goto X63.here hx rfl (pc0 := 317) (pc' := 321) rfl (hb hby at_317) (by decide) (by decide) k) ?_
      exact outZ X63 hx hlk hret (hb hby at_321) (by exact ⟨rfl, N0⟩) (by decide) (by decide)
    · obtain ⟨v64, T64, L64, X64, hQ64, st64⟩ := callV X53 hx hZ (y := (⟨"com/example/gaugefit/gaugefit/core/Interval", "equals", "(Ljava/lang/Object;)Z"⟩ : MethodName)) hown (hw _ (List.mem_of_getElem? (i := 33) rfl)) (hw _ (List.mem_of_getElem? (i := 34) rfl)) (hw _ (List.mem_of_getElem? (i := 36) rfl)) (hw _ (List.mem_of_getElem? (i := 35) rfl)) (hw _ (List.mem_of_getElem? (i := 37) rfl)) (hw _ (List.mem_of_getElem? (i := 2) rfl)) (by decide) e53 E_a (argsL := [(.ref b)]) (rest := []) (W := 0) (rm_eqF2 l Z a0 hw a b (own_time b1 f0) (own_time e1 f1) (own_time b2 f2) (own_time e2 f3) b1.toInt e1.toInt b2.toInt e2.toInt T53.heap n0 Z0 E_b F_begin_a F_end_a F_begin_b F_end_b (own_time_int (by omega)) (own_time_int (by omega)) (own_time_int (by omega)) (own_time_int (by omega)) hq0 hq1) rfl (by decide) (by decide) (by decide) (by decide) (g := (mkF m 266 #[.val (.int x0), .val (.int x1), .val (.int x2), .val (.int x3), .val (.int x4), .val (.long b1), .second, .val (.long e1), .second, .val (.long b2), .second, .val (.long e2), .second, .val (.int f0), .val (.int f1), .val (.int f2), .val (.int f3), .val (.int (own_nz f0 b1)), .val (.int (own_nz f1 e1)), .val (.int (own_nz f2 b2)), .val (.int (own_nz f3 e2)), .val (.ref a), .val (.ref b), .val (.int (0 : Int32)), .val .null, .val (.ref q)] [(.ref b), (.ref a)])) rfl (by rw [hml]; rfl) (lenOf pd6 rfl) rfl (by show 2 * 0 + _ ≤ _; exact Nat.le_of_eq rfl) (hb hby at_266)
      obtain ⟨rfl, NL64, hk64⟩ := hQ64
      have N0 := Fr.app N0 NL64
      refine Goes.by (T' := T64) (g' := (mkF m 269 #[.val (.int x0), .val (.int x1), .val (.int x2), .val (.int x3), .val (.int x4), .val (.long b1), .second, .val (.long e1), .second, .val (.long b2), .second, .val (.long e2), .second, .val (.int f0), .val (.int f1), .val (.int f2), .val (.int f3), .val (.int (own_nz f0 b1)), .val (.int (own_nz f1 e1)), .val (.int (own_nz f2 b2)), .val (.int (own_nz f3 e2)), .val (.ref a), .val (.ref b), .val (.int (0 : Int32)), .val .null, .val (.ref q)] [(.int (0 : Int32))])) st64 ?_
      refine Goes.by (T' := T64) (g' := (mkF m 271 #[.val (.int x0), .val (.int x1), .val (.int x2), .val (.int x3), .val (.int x4), .val (.long b1), .second, .val (.long e1), .second, .val (.long b2), .second, .val (.long e2), .second, .val (.int f0), .val (.int f1), .val (.int f2), .val (.int f3), .val (.int (own_nz f0 b1)), .val (.int (own_nz f1 e1)), .val (.int (own_nz f2 b2)), .val (.int (own_nz f3 e2)), .val (.ref a), .val (.ref b), .val (.int (0 : Int32)), .val .null, .val (.ref q)] [(.int (0 : Int32)), (.int (0 : Int32))])) (fun _ k => XS.iload X64.here hx rfl (hb hby at_269) rfl k) ?_
      refine Goes.by (T' := T64) (g' := (mkF m 274 #[.val (.int x0), .val (.int x1), .val (.int x2), .val (.int x3), .val (.int x4), .val (.long b1), .second, .val (.long e1), .second, .val (.long b2), .second, .val (.long e2), .second, .val (.int f0), .val (.int f1), .val (.int f2), .val (.int f3), .val (.int (own_nz f0 b1)), .val (.int (own_nz f1 e1)), .val (.int (own_nz f2 b2)), .val (.int (own_nz f3 e2)), .val (.ref a), .val (.ref b), .val (.int (0 : Int32)), .val .null, .val (.ref q)] [])) (fun _ k => XS.icmpNo X64.here hx rfl (hb hby at_271) rfl (by decide) k) ?_
      refine Goes.by (T' := T64) (g' := (mkF m 276 #[.val (.int x0), .val (.int x1), .val (.int x2), .val (.int x3), .val (.int x4), .val (.long b1), .second, .val (.long e1), .second, .val (.long b2), .second, .val (.long e2), .second, .val (.int f0), .val (.int f1), .val (.int f2), .val (.int f3), .val (.int (own_nz f0 b1)), .val (.int (own_nz f1 e1)), .val (.int (own_nz f2 b2)), .val (.int (own_nz f3 e2)), .val (.ref a), .val (.ref b), .val (.int (0 : Int32)), .val .null, .val (.ref q)] [(.ref b)])) (fun _ k => XS.aload X64.here hx rfl (hb hby at_274) rfl rfl k) ?_
      refine Goes.by (T' := T64) (g' := (mkF m 278 #[.val (.int x0), .val (.int x1), .val (.int x2), .val (.int x3), .val (.int x4), .val (.long b1), .second, .val (.long e1), .second, .val (.long b2), .second, .val (.long e2), .second, .val (.int f0), .val (.int f1), .val (.int f2), .val (.int f3), .val (.int (own_nz f0 b1)), .val (.int (own_nz f1 e1)), .val (.int (own_nz f2 b2)), .val (.int (own_nz f3 e2)), .val (.ref a), .val (.ref b), .val (.int (0 : Int32)), .val .null, .val (.ref q)] [(.ref a), (.ref b)])) (fun _ k => XS.aload X64.here hx rfl (hb hby at_276) rfl rfl k) ?_
      obtain ⟨v65, T65, L65, X65, hQ65, st65⟩ := callV X64 hx hZ (y := (⟨"com/example/gaugefit/gaugefit/core/Interval", "equals", "(Ljava/lang/Object;)Z"⟩ : MethodName)) hown (hw _ (List.mem_of_getElem? (i := 33) rfl)) (hw _ (List.mem_of_getElem? (i := 34) rfl)) (hw _ (List.mem_of_getElem? (i := 36) rfl)) (hw _ (List.mem_of_getElem? (i := 35) rfl)) (hw _ (List.mem_of_getElem? (i := 37) rfl)) (hw _ (List.mem_of_getElem? (i := 2) rfl)) (by decide) hk64 E_b (argsL := [(.ref a)]) (rest := []) (W := 0) (rm_eqF2 l Z a0 hw b a (own_time b2 f2) (own_time e2 f3) (own_time b1 f0) (own_time e1 f1) b2.toInt e2.toInt b1.toInt e1.toInt T53.heap n0 Z0 E_a F_begin_b F_end_b F_begin_a F_end_a (own_time_int (by omega)) (own_time_int (by omega)) (own_time_int (by omega)) (own_time_int (by omega)) hq0.symm (Ne.symm hq1)) rfl (by decide) (by decide) (by decide) (by decide) (g := (mkF m 278 #[.val (.int x0), .val (.int x1), .val (.int x2), .val (.int x3), .val (.int x4), .val (.long b1), .second, .val (.long e1), .second, .val (.long b2), .second, .val (.long e2), .second, .val (.int f0), .val (.int f1), .val (.int f2), .val (.int f3), .val (.int (own_nz f0 b1)), .val (.int (own_nz f1 e1)), .val (.int (own_nz f2 b2)), .val (.int (own_nz f3 e2)), .val (.ref a), .val (.ref b), .val (.int (0 : Int32)), .val .null, .val (.ref q)] [(.ref a), (.ref b)])) rfl (by rw [hml]; rfl) (lenOf pd6 rfl) rfl (by show 2 * 0 + _ ≤ _; exact Nat.le_of_eq rfl) (hb hby at_278)
      obtain ⟨rfl, NL65, hk65⟩ := hQ65
      have N0 := Fr.app N0 NL65
      refine Goes.by (T' := T65) (g' := (mkF m 281 #[.val (.int x0), .val (.int x1), .val (.int x2), .val (.int x3), .val (.int x4), .val (.long b1), .second, .val (.long e1), .second, .val (.long b2), .second, .val (.long e2), .second, .val (.int f0), .val (.int f1), .val (.int f2), .val (.int f3), .val (.int (own_nz f0 b1)), .val (.int (own_nz f1 e1)), .val (.int (own_nz f2 b2)), .val (.int (own_nz f3 e2)), .val (.ref a), .val (.ref b), .val (.int (0 : Int32)), .val .null, .val (.ref q)] [(.int (0 : Int32))])) st65 ?_
      refine Goes.by (T' := T65) (g' := (mkF m 283 #[.val (.int x0), .val (.int x1), .val (.int x2), .val (.int x3), .val (.int x4), .val (.long b1), .second, .val (.long e1), .second, .val (.long b2), .second, .val (.long e2), .second, .val (.int f0), .val (.int f1), .val (.int f2), .val (.int f3), .val (.int (own_nz f0 b1)), .val (.int (own_nz f1 e1)), .val (.int (own_nz f2 b2)), .val (.int (own_nz f3 e2)), .val (.ref a), .val (.ref b), .val (.int (0 : Int32)), .val .null, .val (.ref q)] [(.int (0 : Int32)), (.int (0 : Int32))])) (fun _ k => XS.iload X65.here hx rfl (hb hby at_281) rfl k) ?_
      refine Goes.by (T' := T65) (g' := (mkF m 286 #[.val (.int x0), .val (.int x1), .val (.int x2), .val (.int x3), .val (.int x4), .val (.long b1), .second, .val (.long e1), .second, .val (.long b2), .second, .val (.long e2), .second, .val (.int f0), .val (.int f1), .val (.int f2), .val (.int f3), .val (.int (own_nz f0 b1)), .val (.int (own_nz f1 e1)), .val (.int (own_nz f2 b2)), .val (.int (own_nz f3 e2)), .val (.ref a), .val (.ref b), .val (.int (0 : Int32)), .val .null, .val (.ref q)] [])) (fun _ k => XS.icmpNo X65.here hx rfl (hb hby at_283) rfl (by decide) k) ?_
      refine Goes.by (T' := T65) (g' := (mkF m 288 #[.val (.int x0), .val (.int x1), .val (.int x2), .val (.int x3), .val (.int x4), .val (.long b1), .second, .val (.long e1), .second, .val (.long b2), .second, .val (.long e2), .second, .val (.int f0), .val (.int f1), .val (.int f2), .val (.int f3), .val (.int (own_nz f0 b1)), .val (.int (own_nz f1 e1)), .val (.int (own_nz f2 b2)), .val (.int (own_nz f3 e2)), .val (.ref a), .val (.ref b), .val (.int (0 : Int32)), .val .null, .val (.ref q)] [(.ref a)])) (fun _ k => XS.aload X65.here hx rfl (hb hby at_286) rfl rfl k) ?_
      refine Goes.by (T' := T65) (g' := (mkF m 290 #[.val (.int x0), .val (.int x1), .val (.int x2), .val (.int x3), .val (.int x4), .val (.long b1), .second, .val (.long e1), .second, .val (.long b2), .second, .val (.long e2), .second, .val (.int f0), .val (.int f1), .val (.int f2), .val (.int f3), .val (.int (own_nz f0 b1)), .val (.int (own_nz f1 e1)), .val (.int (own_nz f2 b2)), .val (.int (own_nz f3 e2)), .val (.ref a), .val (.ref b), .val (.int (0 : Int32)), .val .null, .val (.ref q)] [(.ref a), (.ref a)])) (fun _ k => XS.aload X65.here hx rfl (hb hby at_288) rfl rfl k) ?_
      obtain ⟨v66, T66, L66, X66, hQ66, st66⟩ := callV X65 hx hZ (y := (⟨"com/example/gaugefit/gaugefit/core/Interval", "equals", "(Ljava/lang/Object;)Z"⟩ : MethodName)) hown (hw _ (List.mem_of_getElem? (i := 33) rfl)) (hw _ (List.mem_of_getElem? (i := 34) rfl)) (hw _ (List.mem_of_getElem? (i := 36) rfl)) (hw _ (List.mem_of_getElem? (i := 35) rfl)) (hw _ (List.mem_of_getElem? (i := 37) rfl)) (hw _ (List.mem_of_getElem? (i := 2) rfl)) (by decide) hk65 E_a (argsL := [(.ref a)]) (rest := []) (W := 0) (rm_eqT l Z a0 hw a a (own_time b1 f0) (own_time e1 f1) (own_time b1 f0) (own_time e1 f1) b1.toInt e1.toInt b1.toInt e1.toInt T53.heap n0 Z0 E_a F_begin_a F_end_a F_begin_a F_end_a (own_time_int (by omega)) (own_time_int (by omega)) (own_time_int (by omega)) (own_time_int (by omega)) rfl rfl) rfl (by decide) (by decide) (by decide) (by decide) (g := (mkF m 290 #[.val (.int x0), .val (.int x1), .val (.int x2), .val (.int x3), .val (.int x4), .val (.long b1), .second, .val (.long e1), .second, .val (.long b2), .second, .val (.long e2), .second, .val (.int f0), .val (.int f1), .val (.int f2), .val (.int f3), .val (.int (own_nz f0 b1)), .val (.int (own_nz f1 e1)), .val (.int (own_nz f2 b2)), .val (.int (own_nz f3 e2)), .val (.ref a), .val (.ref b), .val (.int (0 : Int32)), .val .null, .val (.ref q)] [(.ref a), (.ref a)])) rfl (by rw [hml]; rfl) (lenOf pd6 rfl) rfl (by show 2 * 0 + _ ≤ _; exact Nat.le_of_eq rfl) (hb hby at_290)
      obtain ⟨rfl, NL66, hk66⟩ := hQ66
      have N0 := Fr.app N0 NL66
      refine Goes.by (T' := T66) (g' := (mkF m 293 #[.val (.int x0), .val (.int x1), .val (.int x2), .val (.int x3), .val (.int x4), .val (.long b1), .second, .val (.long e1), .second, .val (.long b2), .second, .val (.long e2), .second, .val (.int f0), .val (.int f1), .val (.int f2), .val (.int f3), .val (.int (own_nz f0 b1)), .val (.int (own_nz f1 e1)), .val (.int (own_nz f2 b2)), .val (.int (own_nz f3 e2)), .val (.ref a), .val (.ref b), .val (.int (0 : Int32)), .val .null, .val (.ref q)] [(.int (1 : Int32))])) st66 ?_
      refine Goes.by (T' := T66) (g' := (mkF m 296 #[.val (.int x0), .val (.int x1), .val (.int x2), .val (.int x3), .val (.int x4), .val (.long b1), .second, .val (.long e1), .second, .val (.long b2), .second, .val (.long e2), .second, .val (.int f0), .val (.int f1), .val (.int f2), .val (.int f3), .val (.int (own_nz f0 b1)), .val (.int (own_nz f1 e1)), .val (.int (own_nz f2 b2)), .val (.int (own_nz f3 e2)), .val (.ref a), .val (.ref b), .val (.int (0 : Int32)), .val .null, .val (.ref q)] [])) (fun _ k => XS.ifNo X66.here hx rfl (hb hby at_293) rfl (by decide) k) ?_
      refine Goes.by (T' := T66) (g' := (mkF m 298 #[.val (.int x0), .val (.int x1), .val (.int x2), .val (.int x3), .val (.int x4), .val (.long b1), .second, .val (.long e1), .second, .val (.long b2), .second, .val (.long e2), .second, .val (.int f0), .val (.int f1), .val (.int f2), .val (.int f3), .val (.int (own_nz f0 b1)), .val (.int (own_nz f1 e1)), .val (.int (own_nz f2 b2)), .val (.int (own_nz f3 e2)), .val (.ref a), .val (.ref b), .val (.int (0 : Int32)), .val .null, .val (.ref q)] [(.ref a)])) (fun _ k => XS.aload X66.here hx rfl (hb hby at_296) rfl rfl k) ?_
      refine Goes.by (T' := T66) (g' := (mkF m 300 #[.val (.int x0), .val (.int x1), .val (.int x2), .val (.int x3), .val (.int x4), .val (.long b1), .second, .val (.long e1), .second, .val (.long b2), .second, .val (.long e2), .second, .val (.int f0), .val (.int f1), .val (.int f2), .val (.int f3), .val (.int (own_nz f0 b1)), .val (.int (own_nz f1 e1)), .val (.int (own_nz f2 b2)), .val (.int (own_nz f3 e2)), .val (.ref a), .val (.ref b), .val (.int (0 : Int32)), .val .null, .val (.ref q)] [.null, (.ref a)])) (fun _ k => XS.aload X66.here hx rfl (hb hby at_298) rfl rfl k) ?_
      obtain ⟨v67, T67, L67, X67, hQ67, st67⟩ := callV X66 hx hZ (y := (⟨"com/example/gaugefit/gaugefit/core/Interval", "equals", "(Ljava/lang/Object;)Z"⟩ : MethodName)) hown (hw _ (List.mem_of_getElem? (i := 33) rfl)) (hw _ (List.mem_of_getElem? (i := 34) rfl)) (hw _ (List.mem_of_getElem? (i := 36) rfl)) (hw _ (List.mem_of_getElem? (i := 35) rfl)) (hw _ (List.mem_of_getElem? (i := 37) rfl)) (hw _ (List.mem_of_getElem? (i := 2) rfl)) (by decide) hk66 E_a (argsL := [.null]) (rest := []) (W := 0) (rm_eqnull l Z a0 hw a T53.heap n0 Z0) rfl (by decide) (by decide) (by decide) (by decide) (g := (mkF m 300 #[.val (.int x0), .val (.int x1), .val (.int x2), .val (.int x3), .val (.int x4), .val (.long b1), .second, .val (.long e1), .second, .val (.long b2), .second, .val (.long e2), .second, .val (.int f0), .val (.int f1), .val (.int f2), .val (.int f3), .val (.int (own_nz f0 b1)), .val (.int (own_nz f1 e1)), .val (.int (own_nz f2 b2)), .val (.int (own_nz f3 e2)), .val (.ref a), .val (.ref b), .val (.int (0 : Int32)), .val .null, .val (.ref q)] [.null, (.ref a)])) rfl (by rw [hml]; rfl) (lenOf pd6 rfl) rfl (by show 2 * 0 + _ ≤ _; exact Nat.le_of_eq rfl) (hb hby at_300)
      obtain ⟨rfl, NL67, hk67⟩ := hQ67
      have N0 := Fr.app N0 NL67
      refine Goes.by (T' := T67) (g' := (mkF m 303 #[.val (.int x0), .val (.int x1), .val (.int x2), .val (.int x3), .val (.int x4), .val (.long b1), .second, .val (.long e1), .second, .val (.long b2), .second, .val (.long e2), .second, .val (.int f0), .val (.int f1), .val (.int f2), .val (.int f3), .val (.int (own_nz f0 b1)), .val (.int (own_nz f1 e1)), .val (.int (own_nz f2 b2)), .val (.int (own_nz f3 e2)), .val (.ref a), .val (.ref b), .val (.int (0 : Int32)), .val .null, .val (.ref q)] [(.int (0 : Int32))])) st67 ?_
      refine Goes.by (T' := T67) (g' := (mkF m 306 #[.val (.int x0), .val (.int x1), .val (.int x2), .val (.int x3), .val (.int x4), .val (.long b1), .second, .val (.long e1), .second, .val (.long b2), .second, .val (.long e2), .second, .val (.int f0), .val (.int f1), .val (.int f2), .val (.int f3), .val (.int (own_nz f0 b1)), .val (.int (own_nz f1 e1)), .val (.int (own_nz f2 b2)), .val (.int (own_nz f3 e2)), .val (.ref a), .val (.ref b), .val (.int (0 : Int32)), .val .null, .val (.ref q)] [])) (fun _ k => XS.ifNo X67.here hx rfl (hb hby at_303) rfl (by decide) k) ?_
      refine Goes.by (T' := T67) (g' := (mkF m 308 #[.val (.int x0), .val (.int x1), .val (.int x2), .val (.int x3), .val (.int x4), .val (.long b1), .second, .val (.long e1), .second, .val (.long b2), .second, .val (.long e2), .second, .val (.int f0), .val (.int f1), .val (.int f2), .val (.int f3), .val (.int (own_nz f0 b1)), .val (.int (own_nz f1 e1)), .val (.int (own_nz f2 b2)), .val (.int (own_nz f3 e2)), .val (.ref a), .val (.ref b), .val (.int (0 : Int32)), .val .null, .val (.ref q)] [(.ref a)])) (fun _ k => XS.aload X67.here hx rfl (hb hby at_306) rfl rfl k) ?_
      refine Goes.by (T' := T67) (g' := (mkF m 310 #[.val (.int x0), .val (.int x1), .val (.int x2), .val (.int x3), .val (.int x4), .val (.long b1), .second, .val (.long e1), .second, .val (.long b2), .second, .val (.long e2), .second, .val (.int f0), .val (.int f1), .val (.int f2), .val (.int f3), .val (.int (own_nz f0 b1)), .val (.int (own_nz f1 e1)), .val (.int (own_nz f2 b2)), .val (.int (own_nz f3 e2)), .val (.ref a), .val (.ref b), .val (.int (0 : Int32)), .val .null, .val (.ref q)] [(.ref q), (.ref a)])) (fun _ k => XS.aload X67.here hx rfl (hb hby at_308) rfl rfl k) ?_
      obtain ⟨v68, T68, L68, X68, hQ68, st68⟩ := callV X67 hx hZ (y := (⟨"com/example/gaugefit/gaugefit/core/Interval", "equals", "(Ljava/lang/Object;)Z"⟩ : MethodName)) hown (hw _ (List.mem_of_getElem? (i := 33) rfl)) (hw _ (List.mem_of_getElem? (i := 34) rfl)) (hw _ (List.mem_of_getElem? (i := 36) rfl)) (hw _ (List.mem_of_getElem? (i := 35) rfl)) (hw _ (List.mem_of_getElem? (i := 37) rfl)) (hw _ (List.mem_of_getElem? (i := 2) rfl)) (by decide) hk67 E_a (argsL := [(.ref q)]) (rest := []) (W := 0) (rm_eqfor l Z a0 hw a q T53.heap n0 Z0 E_q hno) rfl (by decide) (by decide) (by decide) (by decide) (g := (mkF m 310 #[.val (.int x0), .val (.int x1), .val (.int x2), .val (.int x3), .val (.int x4), .val (.long b1), .second, .val (.long e1), .second, .val (.long b2), .second, .val (.long e2), .second, .val (.int f0), .val (.int f1), .val (.int f2), .val (.int f3), .val (.int (own_nz f0 b1)), .val (.int (own_nz f1 e1)), .val (.int (own_nz f2 b2)), .val (.int (own_nz f3 e2)), .val (.ref a), .val (.ref b), .val (.int (0 : Int32)), .val .null, .val (.ref q)] [(.ref q), (.ref a)])) rfl (by rw [hml]; rfl) (lenOf pd6 rfl) rfl (by show 2 * 0 + _ ≤ _; exact Nat.le_of_eq rfl) (hb hby at_310)
      obtain ⟨rfl, NL68, hk68⟩ := hQ68
      have N0 := Fr.app N0 NL68
      refine Goes.by (T' := T68) (g' := (mkF m 313 #[.val (.int x0), .val (.int x1), .val (.int x2), .val (.int x3), .val (.int x4), .val (.long b1), .second, .val (.long e1), .second, .val (.long b2), .second, .val (.long e2), .second, .val (.int f0), .val (.int f1), .val (.int f2), .val (.int f3), .val (.int (own_nz f0 b1)), .val (.int (own_nz f1 e1)), .val (.int (own_nz f2 b2)), .val (.int (own_nz f3 e2)), .val (.ref a), .val (.ref b), .val (.int (0 : Int32)), .val .null, .val (.ref q)] [(.int (0 : Int32))])) st68 ?_
      refine Goes.by (T' := T68) (g' := (mkF m 316 #[.val (.int x0), .val (.int x1), .val (.int x2), .val (.int x3), .val (.int x4), .val (.long b1), .second, .val (.long e1), .second, .val (.long b2), .second, .val (.long e2), .second, .val (.int f0), .val (.int f1), .val (.int f2), .val (.int f3), .val (.int (own_nz f0 b1)), .val (.int (own_nz f1 e1)), .val (.int (own_nz f2 b2)), .val (.int (own_nz f3 e2)), .val (.ref a), .val (.ref b), .val (.int (0 : Int32)), .val .null, .val (.ref q)] [])) (fun _ k => XS.ifNo X68.here hx rfl (hb hby at_313) rfl (by decide) k) ?_
      refine Goes.by (T' := T68) (g' := (mkF m 317 #[.val (.int x0), .val (.int x1), .val (.int x2), .val (.int x3), .val (.int x4), .val (.long b1), .second, .val (.long e1), .second, .val (.long b2), .second, .val (.long e2), .second, .val (.int f0), .val (.int f1), .val (.int f2), .val (.int f3), .val (.int (own_nz f0 b1)), .val (.int (own_nz f1 e1)), .val (.int (own_nz f2 b2)), .val (.int (own_nz f3 e2)), .val (.ref a), .val (.ref b), .val (.int (0 : Int32)), .val .null, .val (.ref q)] [(.int (1 : Int32))])) (fun _ k => XS.iconst X68.here hx rfl (hb hby at_316)  k) ?_
      refine Goes.by (T' := T68) (g' := (mkF m 321 #[.val (.int x0), .val (.int x1), .val (.int x2), .val (.int x3), .val (.int x4), .val (.long b1), .second, .val (.long e1), .second, .val (.long b2), .second, .val (.long e2), .second, .val (.int f0), .val (.int f1), .val (.int f2), .val (.int f3), .val (.int (own_nz f0 b1)), .val (.int (own_nz f1 e1)), .val (.int (own_nz f2 b2)), .val (.int (own_nz f3 e2)), .val (.ref a), .val (.ref b), .val (.int (0 : Int32)), .val .null, .val (.ref q)] [(.int (1 : Int32))])) (fun _ k => XS.goto X68.here hx rfl (pc0 := 317) (pc' := 321) rfl (hb hby at_317) (by decide) (by decide) k) ?_
      exact outZ X68 hx hlk hret (hb hby at_321) (by exact ⟨rfl, N0⟩) (by decide) (by decide)
  by_cases c1 : b1 = b2
  · refine Goes.by (T' := T52) (g' := (mkF m 221 #[.val (.int x0), .val (.int x1), .val (.int x2), .val (.int x3), .val (.int x4), .val (.long b1), .second, .val (.long e1), .second, .val (.long b2), .second, .val (.long e2), .second, .val (.int f0), .val (.int f1), .val (.int f2), .val (.int f3), .val (.int (own_nz f0 b1)), .val (.int (own_nz f1 e1)), .val (.int (own_nz f2 b2)), .val (.int (own_nz f3 e2)), .val (.ref a), .val (.ref b), .unset, .unset, .unset] [(.int (0 : Int32))])) (fun _ k => XS.lcmpS X52.here hx rfl (hb hby at_220) rfl (cmpL_eq c1) k) ?_
    refine Goes.by (T' := T52) (g' := (mkF m 224 #[.val (.int x0), .val (.int x1), .val (.int x2), .val (.int x3), .val (.int x4), .val (.long b1), .second, .val (.long e1), .second, .val (.long b2), .second, .val (.long e2), .second, .val (.int f0), .val (.int f1), .val (.int f2), .val (.int f3), .val (.int (own_nz f0 b1)), .val (.int (own_nz f1 e1)), .val (.int (own_nz f2 b2)), .val (.int (own_nz f3 e2)), .val (.ref a), .val (.ref b), .unset, .unset, .unset] [])) (fun _ k => XS.ifNo X52.here hx rfl (hb hby at_221) rfl (by decide) k) ?_
    refine Goes.by (T' := T52) (g' := (mkF m 226 #[.val (.int x0), .val (.int x1), .val (.int x2), .val (.int x3), .val (.int x4), .val (.long b1), .second, .val (.long e1), .second, .val (.long b2), .second, .val (.long e2), .second, .val (.int f0), .val (.int f1), .val (.int f2), .val (.int f3), .val (.int (own_nz f0 b1)), .val (.int (own_nz f1 e1)), .val (.int (own_nz f2 b2)), .val (.int (own_nz f3 e2)), .val (.ref a), .val (.ref b), .unset, .unset, .unset] [(.long e1)])) (fun _ k => XS.lload X52.here hx rfl (hb hby at_224) rfl k) ?_
    refine Goes.by (T' := T52) (g' := (mkF m 228 #[.val (.int x0), .val (.int x1), .val (.int x2), .val (.int x3), .val (.int x4), .val (.long b1), .second, .val (.long e1), .second, .val (.long b2), .second, .val (.long e2), .second, .val (.int f0), .val (.int f1), .val (.int f2), .val (.int f3), .val (.int (own_nz f0 b1)), .val (.int (own_nz f1 e1)), .val (.int (own_nz f2 b2)), .val (.int (own_nz f3 e2)), .val (.ref a), .val (.ref b), .unset, .unset, .unset] [(.long e2), (.long e1)])) (fun _ k => XS.lload X52.here hx rfl (hb hby at_226) rfl k) ?_
    by_cases c2 : e1 = e2
    · refine Goes.by (T' := T52) (g' := (mkF m 229 #[.val (.int x0), .val (.int x1), .val (.int x2), .val (.int x3), .val (.int x4), .val (.long b1), .second, .val (.long e1), .second, .val (.long b2), .second, .val (.long e2), .second, .val (.int f0), .val (.int f1), .val (.int f2), .val (.int f3), .val (.int (own_nz f0 b1)), .val (.int (own_nz f1 e1)), .val (.int (own_nz f2 b2)), .val (.int (own_nz f3 e2)), .val (.ref a), .val (.ref b), .unset, .unset, .unset] [(.int (0 : Int32))])) (fun _ k => XS.lcmpS X52.here hx rfl (hb hby at_228) rfl (cmpL_eq c2) k) ?_
      refine Goes.by (T' := T52) (g' := (mkF m 232 #[.val (.int x0), .val (.int x1), .val (.int x2), .val (.int x3), .val (.int x4), .val (.long b1), .second, .val (.long e1), .second, .val (.long b2), .second, .val (.long e2), .second, .val (.int f0), .val (.int f1), .val (.int f2), .val (.int f3), .val (.int (own_nz f0 b1)), .val (.int (own_nz f1 e1)), .val (.int (own_nz f2 b2)), .val (.int (own_nz f3 e2)), .val (.ref a), .val (.ref b), .unset, .unset, .unset] [])) (fun _ k => XS.ifNo X52.here hx rfl (hb hby at_229) rfl (by decide) k) ?_
      refine Goes.by (T' := T52) (g' := (mkF m 234 #[.val (.int x0), .val (.int x1), .val (.int x2), .val (.int x3), .val (.int x4), .val (.long b1), .second, .val (.long e1), .second, .val (.long b2), .second, .val (.long e2), .second, .val (.int f0), .val (.int f1), .val (.int f2), .val (.int f3), .val (.int (own_nz f0 b1)), .val (.int (own_nz f1 e1)), .val (.int (own_nz f2 b2)), .val (.int (own_nz f3 e2)), .val (.ref a), .val (.ref b), .unset, .unset, .unset] [(.int (own_nz f0 b1))])) (fun _ k => XS.iload X52.here hx rfl (hb hby at_232) rfl k) ?_
      refine Goes.by (T' := T52) (g' := (mkF m 236 #[.val (.int x0), .val (.int x1), .val (.int x2), .val (.int x3), .val (.int x4), .val (.long b1), .second, .val (.long e1), .second, .val (.long b2), .second, .val (.long e2), .second, .val (.int f0), .val (.int f1), .val (.int f2), .val (.int f3), .val (.int (own_nz f0 b1)), .val (.int (own_nz f1 e1)), .val (.int (own_nz f2 b2)), .val (.int (own_nz f3 e2)), .val (.ref a), .val (.ref b), .unset, .unset, .unset] [(.int (own_nz f2 b2)), (.int (own_nz f0 b1))])) (fun _ k => XS.iload X52.here hx rfl (hb hby at_234) rfl k) ?_
      by_cases c3 : (own_nz f0 b1) = (own_nz f2 b2)
      · refine Goes.by (T' := T52) (g' := (mkF m 239 #[.val (.int x0), .val (.int x1), .val (.int x2), .val (.int x3), .val (.int x4), .val (.long b1), .second, .val (.long e1), .second, .val (.long b2), .second, .val (.long e2), .second, .val (.int f0), .val (.int f1), .val (.int f2), .val (.int f3), .val (.int (own_nz f0 b1)), .val (.int (own_nz f1 e1)), .val (.int (own_nz f2 b2)), .val (.int (own_nz f3 e2)), .val (.ref a), .val (.ref b), .unset, .unset, .unset] [])) (fun _ k => XS.icmpNo X52.here hx rfl (hb hby at_236) rfl (teq c3).2 k) ?_
        refine Goes.by (T' := T52) (g' := (mkF m 241 #[.val (.int x0), .val (.int x1), .val (.int x2), .val (.int x3), .val (.int x4), .val (.long b1), .second, .val (.long e1), .second, .val (.long b2), .second, .val (.long e2), .second, .val (.int f0), .val (.int f1), .val (.int f2), .val (.int f3), .val (.int (own_nz f0 b1)), .val (.int (own_nz f1 e1)), .val (.int (own_nz f2 b2)), .val (.int (own_nz f3 e2)), .val (.ref a), .val (.ref b), .unset, .unset, .unset] [(.int (own_nz f1 e1))])) (fun _ k => XS.iload X52.here hx rfl (hb hby at_239) rfl k) ?_
        refine Goes.by (T' := T52) (g' := (mkF m 243 #[.val (.int x0), .val (.int x1), .val (.int x2), .val (.int x3), .val (.int x4), .val (.long b1), .second, .val (.long e1), .second, .val (.long b2), .second, .val (.long e2), .second, .val (.int f0), .val (.int f1), .val (.int f2), .val (.int f3), .val (.int (own_nz f0 b1)), .val (.int (own_nz f1 e1)), .val (.int (own_nz f2 b2)), .val (.int (own_nz f3 e2)), .val (.ref a), .val (.ref b), .unset, .unset, .unset] [(.int (own_nz f3 e2)), (.int (own_nz f1 e1))])) (fun _ k => XS.iload X52.here hx rfl (hb hby at_241) rfl k) ?_
        by_cases c4 : (own_nz f1 e1) = (own_nz f3 e2)
        · refine Goes.by (T' := T52) (g' := (mkF m 246 #[.val (.int x0), .val (.int x1), .val (.int x2), .val (.int x3), .val (.int x4), .val (.long b1), .second, .val (.long e1), .second, .val (.long b2), .second, .val (.long e2), .second, .val (.int f0), .val (.int f1), .val (.int f2), .val (.int f3), .val (.int (own_nz f0 b1)), .val (.int (own_nz f1 e1)), .val (.int (own_nz f2 b2)), .val (.int (own_nz f3 e2)), .val (.ref a), .val (.ref b), .unset, .unset, .unset] [])) (fun _ k => XS.icmpNo X52.here hx rfl (hb hby at_243) rfl (teq c4).2 k) ?_
          refine Goes.by (T' := T52) (g' := (mkF m 247 #[.val (.int x0), .val (.int x1), .val (.int x2), .val (.int x3), .val (.int x4), .val (.long b1), .second, .val (.long e1), .second, .val (.long b2), .second, .val (.long e2), .second, .val (.int f0), .val (.int f1), .val (.int f2), .val (.int f3), .val (.int (own_nz f0 b1)), .val (.int (own_nz f1 e1)), .val (.int (own_nz f2 b2)), .val (.int (own_nz f3 e2)), .val (.ref a), .val (.ref b), .unset, .unset, .unset] [(.int (1 : Int32))])) (fun _ k => XS.iconst X52.here hx rfl (hb hby at_246)  k) ?_
          refine Goes.by (T' := T52) (g' := (mkF m 251 #[.val (.int x0), .val (.int x1), .val (.int x2), .val (.int x3), .val (.int x4), .val (.long b1), .second, .val (.long e1), .second, .val (.long b2), .second, .val (.long e2), .second, .val (.int f0), .val (.int f1), .val (.int f2), .val (.int f3), .val (.int (own_nz f0 b1)), .val (.int (own_nz f1 e1)), .val (.int (own_nz f2 b2)), .val (.int (own_nz f3 e2)), .val (.ref a), .val (.ref b), .unset, .unset, .unset] [(.int (1 : Int32))])) (fun _ k => XS.goto X52.here hx rfl (pc0 := 247) (pc' := 251) rfl (hb hby at_247) (by decide) (by decide) k) ?_
          exact rest _ (Or.inl ⟨rfl, own_time_eq c1 c3, own_time_eq c2 c4⟩)
        · refine Goes.by (T' := T52) (g' := (mkF m 250 #[.val (.int x0), .val (.int x1), .val (.int x2), .val (.int x3), .val (.int x4), .val (.long b1), .second, .val (.long e1), .second, .val (.long b2), .second, .val (.long e2), .second, .val (.int f0), .val (.int f1), .val (.int f2), .val (.int f3), .val (.int (own_nz f0 b1)), .val (.int (own_nz f1 e1)), .val (.int (own_nz f2 b2)), .val (.int (own_nz f3 e2)), .val (.ref a), .val (.ref b), .unset, .unset, .unset] [])) (fun _ k => XS.icmpYes X52.here hx rfl (pc0 := 243) (pc' := 250) rfl (hb hby at_243) rfl (feq c4).2 (by decide) (by decide) k) ?_
          refine Goes.by (T' := T52) (g' := (mkF m 251 #[.val (.int x0), .val (.int x1), .val (.int x2), .val (.int x3), .val (.int x4), .val (.long b1), .second, .val (.long e1), .second, .val (.long b2), .second, .val (.long e2), .second, .val (.int f0), .val (.int f1), .val (.int f2), .val (.int f3), .val (.int (own_nz f0 b1)), .val (.int (own_nz f1 e1)), .val (.int (own_nz f2 b2)), .val (.int (own_nz f3 e2)), .val (.ref a), .val (.ref b), .unset, .unset, .unset] [(.int (0 : Int32))])) (fun _ k => XS.iconst X52.here hx rfl (hb hby at_250)  k) ?_
          exact rest _ (Or.inr (Or.inr ⟨rfl, own_time_eq c1 c3, own_time_ne2 c2 (by omega) c4⟩))
      · refine Goes.by (T' := T52) (g' := (mkF m 250 #[.val (.int x0), .val (.int x1), .val (.int x2), .val (.int x3), .val (.int x4), .val (.long b1), .second, .val (.long e1), .second, .val (.long b2), .second, .val (.long e2), .second, .val (.int f0), .val (.int f1), .val (.int f2), .val (.int f3), .val (.int (own_nz f0 b1)), .val (.int (own_nz f1 e1)), .val (.int (own_nz f2 b2)), .val (.int (own_nz f3 e2)), .val (.ref a), .val (.ref b), .unset, .unset, .unset] [])) (fun _ k => XS.icmpYes X52.here hx rfl (pc0 := 236) (pc' := 250) rfl (hb hby at_236) rfl (feq c3).2 (by decide) (by decide) k) ?_
        refine Goes.by (T' := T52) (g' := (mkF m 251 #[.val (.int x0), .val (.int x1), .val (.int x2), .val (.int x3), .val (.int x4), .val (.long b1), .second, .val (.long e1), .second, .val (.long b2), .second, .val (.long e2), .second, .val (.int f0), .val (.int f1), .val (.int f2), .val (.int f3), .val (.int (own_nz f0 b1)), .val (.int (own_nz f1 e1)), .val (.int (own_nz f2 b2)), .val (.int (own_nz f3 e2)), .val (.ref a), .val (.ref b), .unset, .unset, .unset] [(.int (0 : Int32))])) (fun _ k => XS.iconst X52.here hx rfl (hb hby at_250)  k) ?_
        exact rest _ (Or.inr (Or.inl ⟨rfl, own_time_ne2 c1 (by omega) c3⟩))
    · by_cases c3 : own_nz f0 b1 = own_nz f2 b2
      · obtain ⟨cv, hcv, hcn⟩ := own_cmpL_ne c2
        refine Goes.by (T' := T52) (g' := (mkF m 229 #[.val (.int x0), .val (.int x1), .val (.int x2), .val (.int x3), .val (.int x4), .val (.long b1), .second, .val (.long e1), .second, .val (.long b2), .second, .val (.long e2), .second, .val (.int f0), .val (.int f1), .val (.int f2), .val (.int f3), .val (.int (own_nz f0 b1)), .val (.int (own_nz f1 e1)), .val (.int (own_nz f2 b2)), .val (.int (own_nz f3 e2)), .val (.ref a), .val (.ref b), .unset, .unset, .unset] [(.int cv)])) (fun _ k => XS.lcmpS X52.here hx rfl (hb hby at_228) rfl hcv k) ?_
        refine Goes.by (T' := T52) (g' := (mkF m 250 #[.val (.int x0), .val (.int x1), .val (.int x2), .val (.int x3), .val (.int x4), .val (.long b1), .second, .val (.long e1), .second, .val (.long b2), .second, .val (.long e2), .second, .val (.int f0), .val (.int f1), .val (.int f2), .val (.int f3), .val (.int (own_nz f0 b1)), .val (.int (own_nz f1 e1)), .val (.int (own_nz f2 b2)), .val (.int (own_nz f3 e2)), .val (.ref a), .val (.ref b), .unset, .unset, .unset] [])) (fun _ k => XS.ifYes X52.here hx rfl (pc0 := 229) (pc' := 250) rfl (hb hby at_229) rfl ((if0 _ _).trans (feq hcn).2) (by decide) (by decide) k) ?_
        refine Goes.by (T' := T52) (g' := (mkF m 251 #[.val (.int x0), .val (.int x1), .val (.int x2), .val (.int x3), .val (.int x4), .val (.long b1), .second, .val (.long e1), .second, .val (.long b2), .second, .val (.long e2), .second, .val (.int f0), .val (.int f1), .val (.int f2), .val (.int f3), .val (.int (own_nz f0 b1)), .val (.int (own_nz f1 e1)), .val (.int (own_nz f2 b2)), .val (.int (own_nz f3 e2)), .val (.ref a), .val (.ref b), .unset, .unset, .unset] [(.int (0 : Int32))])) (fun _ k => XS.iconst X52.here hx rfl (hb hby at_250)  k) ?_
        exact rest _ (Or.inr (Or.inr ⟨rfl, own_time_eq c1 c3, own_time_ne1 (by omega) (by omega) c2⟩))
      · obtain ⟨cv, hcv, hcn⟩ := own_cmpL_ne c2
        refine Goes.by (T' := T52) (g' := (mkF m 229 #[.val (.int x0), .val (.int x1), .val (.int x2), .val (.int x3), .val (.int x4), .val (.long b1), .second, .val (.long e1), .second, .val (.long b2), .second, .val (.long e2), .second, .val (.int f0), .val (.int f1), .val (.int f2), .val (.int f3), .val (.int (own_nz f0 b1)), .val (.int (own_nz f1 e1)), .val (.int (own_nz f2 b2)), .val (.int (own_nz f3 e2)), .val (.ref a), .val (.ref b), .unset, .unset, .unset] [(.int cv)])) (fun _ k => XS.lcmpS X52.here hx rfl (hb hby at_228) rfl hcv k) ?_
        refine Goes.by (T' := T52) (g' := (mkF m 250 #[.val (.int x0), .val (.int x1), .val (.int x2), .val (.int x3), .val (.int x4), .val (.long b1), .second, .val (.long e1), .second, .val (.long b2), .second, .val (.long e2), .second, .val (.int f0), .val (.int f1), .val (.int f2), .val (.int f3), .val (.int (own_nz f0 b1)), .val (.int (own_nz f1 e1)), .val (.int (own_nz f2 b2)), .val (.int (own_nz f3 e2)), .val (.ref a), .val (.ref b), .unset, .unset, .unset] [])) (fun _ k => XS.ifYes X52.here hx rfl (pc0 := 229) (pc' := 250) rfl (hb hby at_229) rfl ((if0 _ _).trans (feq hcn).2) (by decide) (by decide) k) ?_
        refine Goes.by (T' := T52) (g' := (mkF m 251 #[.val (.int x0), .val (.int x1), .val (.int x2), .val (.int x3), .val (.int x4), .val (.long b1), .second, .val (.long e1), .second, .val (.long b2), .second, .val (.long e2), .second, .val (.int f0), .val (.int f1), .val (.int f2), .val (.int f3), .val (.int (own_nz f0 b1)), .val (.int (own_nz f1 e1)), .val (.int (own_nz f2 b2)), .val (.int (own_nz f3 e2)), .val (.ref a), .val (.ref b), .unset, .unset, .unset] [(.int (0 : Int32))])) (fun _ k => XS.iconst X52.here hx rfl (hb hby at_250)  k) ?_
        exact rest _ (Or.inr (Or.inl ⟨rfl, own_time_ne2 c1 (by omega) c3⟩))
  · obtain ⟨cv, hcv, hcn⟩ := own_cmpL_ne c1
    refine Goes.by (T' := T52) (g' := (mkF m 221 #[.val (.int x0), .val (.int x1), .val (.int x2), .val (.int x3), .val (.int x4), .val (.long b1), .second, .val (.long e1), .second, .val (.long b2), .second, .val (.long e2), .second, .val (.int f0), .val (.int f1), .val (.int f2), .val (.int f3), .val (.int (own_nz f0 b1)), .val (.int (own_nz f1 e1)), .val (.int (own_nz f2 b2)), .val (.int (own_nz f3 e2)), .val (.ref a), .val (.ref b), .unset, .unset, .unset] [(.int cv)])) (fun _ k => XS.lcmpS X52.here hx rfl (hb hby at_220) rfl hcv k) ?_
    refine Goes.by (T' := T52) (g' := (mkF m 250 #[.val (.int x0), .val (.int x1), .val (.int x2), .val (.int x3), .val (.int x4), .val (.long b1), .second, .val (.long e1), .second, .val (.long b2), .second, .val (.long e2), .second, .val (.int f0), .val (.int f1), .val (.int f2), .val (.int f3), .val (.int (own_nz f0 b1)), .val (.int (own_nz f1 e1)), .val (.int (own_nz f2 b2)), .val (.int (own_nz f3 e2)), .val (.ref a), .val (.ref b), .unset, .unset, .unset] [])) (fun _ k => XS.ifYes X52.here hx rfl (pc0 := 221) (pc' := 250) rfl (hb hby at_221) rfl ((if0 _ _).trans (feq hcn).2) (by decide) (by decide) k) ?_
    refine Goes.by (T' := T52) (g' := (mkF m 251 #[.val (.int x0), .val (.int x1), .val (.int x2), .val (.int x3), .val (.int x4), .val (.long b1), .second, .val (.long e1), .second, .val (.long b2), .second, .val (.long e2), .second, .val (.int f0), .val (.int f1), .val (.int f2), .val (.int f3), .val (.int (own_nz f0 b1)), .val (.int (own_nz f1 e1)), .val (.int (own_nz f2 b2)), .val (.int (own_nz f3 e2)), .val (.ref a), .val (.ref b), .unset, .unset, .unset] [(.int (0 : Int32))])) (fun _ k => XS.iconst X52.here hx rfl (hb hby at_250)  k) ?_
    exact rest _ (Or.inr (Or.inl ⟨rfl, own_time_ne1 (by omega) (by omega) c1⟩))
set_option maxRecDepth 65536 in
set_option maxHeartbeats 40000000 in
theorem comes_1 {Post : Tables → Env → Array Value → State → Outcome → State → Prop} (hpost : ∀ tb e args s v u, (limb_1_1.after args s (.returned v) u = true ∧ limb_1_2.after args s (.returned v) u = true ∧ True) → FrameEnd s (.returned v) u (Jvm.fieldLocs frame_1_writes args s ++ Jvm.arrayLocs frame_1_arrays args s ++ Jvm.staticLocs frame_1_statics s) 16 128 → Post tb e args s (.returned v) u) :
    ArmFor flags0 classFile x code maxLocals ret World_1 tables_1 room_1 Calls_1 rest_1 Pre_1 Post := by
  intro l hfl _ _ p e ha hc hk s m args below hf hA hF happ hP
  obtain ⟨hcalls, hrest, hpre⟩ := hP
  obtain ⟨-, -, -, hnamed, -, -, -, hat⟩ := (Spec.applies_iff hf).mp happ
  obtain ⟨hg, hn⟩ := and_e (Cond.before_iff.mp (show (Jvm.Cond.and given_1 narrow_1).before args s = true from hpre))
  obtain ⟨g0, t0⟩ := and_e hg
  obtain ⟨g1, t1⟩ := and_e t0
  obtain ⟨g2, t2⟩ := and_e t1
  obtain ⟨g3, t3⟩ := and_e t2
  obtain ⟨g4, t4⟩ := and_e t3
  obtain ⟨w0, w1, w2, w3, w4, rfl⟩ : ∃ w0 w1 w2 w3 w4 : Value, args = #[w0, w1, w2, w3, w4] := by
    have hs : args.size = 5 := by simpa [Cond.value, given_1] using g0
    obtain ⟨L⟩ := args
    match L, hs with
    | [w0, w1, w2, w3, w4], _ => exact ⟨w0, w1, w2, w3, w4, rfl⟩
  have hw := fun d (hd : d ∈ tables_1) => atoms_spec (ws := Jvm.Cond.code x code maxLocals ret :: tables_1) hat d (List.mem_cons_of_mem _ hd)
  obtain ⟨i0, e0⟩ := is_v g1
  obtain rfl : w0 = (.int i0) := Option.some.inj e0
  obtain ⟨i1, e1⟩ := is_v g2
  obtain rfl : w1 = (.int i1) := Option.some.inj e1
  obtain ⟨i2, e2⟩ := is_v g3
  obtain rfl : w2 = (.int i2) := Option.some.inj e2
  obtain ⟨i3, e3⟩ := is_v g4
  obtain rfl : w3 = (.int i3) := Option.some.inj e3
  obtain ⟨i4, e4⟩ := is_v t4
  obtain rfl : w4 = (.int i4) := Option.some.inj e4
  obtain ⟨hsets, hown0⟩ := atoms_of _ (rest_1_c_eq ▸ (show rest_1_c.before _ s = true from hrest))
  have hC : OwnCache s s.heap := by
    have c3 := Cond.before_iff.mp (hsets _ (List.mem_of_getElem? (i := 3) rfl))
    have c4 := Cond.before_iff.mp (hsets _ (List.mem_of_getElem? (i := 4) rfl))
    have c6 := Cond.before_iff.mp (hsets _ (List.mem_of_getElem? (i := 6) rfl))
    have c7 := Cond.before_iff.mp (hsets _ (List.mem_of_getElem? (i := 7) rfl))
    have eh := eqv_i (Term.int_eval (127)) c3
    have SH := Sta.start eh (Or.inl (hsets _ (List.mem_of_getElem? (i := 1) rfl)))
    obtain ⟨ca, ec⟩ := arr_v c4
    have SC := Sta.start ec (Or.inr ⟨(hw _ (List.mem_of_getElem? (i := 31) rfl)), (hsets _ (List.mem_of_getElem? (i := 2) rfl))⟩)
    obtain ⟨cl, AC⟩ := Arr.start ec c4
    have el := eqv_i (Term.int_eval (256)) c6
    have hl : cl.slots.size < 2 ^ 31 := own_len ec (AC.fin (Vm.Alike.refl _)) el
    have e2 := (len_f ec (AC.fin (Vm.Alike.refl _)) hl).symm.trans el
    have e3 : cl.slots.size.toInt32 = 256 := Value.int.inj (Option.some.inj e2)
    have B := Bxs.start (val := fun j => .int (j - 128)) (fun _ => ec) AC hl e3 (by decide) c7 (fun X j nn hv => eqv_i (own_sub (idx_at nn) (Term.int_eval 128)) hv)
    refine ⟨SH, ca, cl, SC, AC, ?_, fun j hj => ?_⟩
    · exact B.2.1
    · obtain ⟨r, r1, r2, -⟩ := B.2.2.2 j hj
      exact ⟨r, r1, r2⟩
  have hno := own_notin (hw _ (List.mem_of_getElem? (i := 52) rfl)) (hw _ (List.mem_of_getElem? (i := 53) rfl)) (hw _ (List.mem_of_getElem? (i := 54) rfl)) (hw _ (List.mem_of_getElem? (i := 1) rfl))
  obtain ⟨n, o, h1, h2, h3, _, L, rfl, ⟨rfl, N⟩, hq⟩ := rm_law l s _ hw i0 i1 i2 i3 i4 s.heap s.heap.size (Nat.le_refl _) hC hno p e ha hc hk s m _ below hf ((Spec.applies_iff_loose hf).mp happ).1 ⟨rfl, State.Warmed39.refl s, rfl⟩ trivial
  refine ⟨n, _, h1, h2, h3, hpost _ _ _ _ _ _ ⟨Cond.after_iff.mpr rfl, Cond.after_iff.mpr (eq_i res_at (Term.int_eval (1)) rfl), trivial⟩ ⟨hq.1, hq.2.1, (hq.2.2.sift fun y hy => Or.inr (N y hy)).mono (by decide) (by decide)⟩⟩
theorem main_1_1 : Claimed_1_1 := comes_1 fun _ _ _ _ _ _ h hF => ⟨h.1, hF⟩
theorem main_1_2 : Claimed_1_2 := comes_1 fun _ _ _ _ _ _ h hF => ⟨h.2.1, hF⟩
end Jvm.Pilot.@@N@@
namespace Jvm.Pilot.@@N@@
open Jvm Jvm.ClassFile Sem Op Lib Jvm.Free Jvm.Stand Jvm.Pilot.@@N@@.Jvm.D
/-! MADE BY PROGRAM (witnessworld.py) out of the Statement's table words and the real class files: 18 classes; the members and pool entries that the words name. The judged class is class 1, her method 2. -/
namespace start1
open Jvm.ClassFile
def u (s : String) : CpInfo := .utf8 (stringToUtf16 s)
/-- a pool by its gaps: so many unusable entries, then the entry; so many at the end -/
def gap : Nat → List CpInfo → List CpInfo
  | 0, r => r
  | n + 1, r => .unusable :: gap n r
def poolList (es : List (Nat × CpInfo)) (last : Nat) : List CpInfo := es.foldr (fun e r => gap e.1 (e.2 :: r)) (gap last [])
def pool (es : List (Nat × CpInfo)) (last : Nat) : Array CpInfo := ⟨poolList es last⟩
def fileOf (pool : Array CpInfo) (this : Nat) (attrs : Array Attribute := #[]) (ms : Array MethodInfo := #[]) (fl : Nat := 33) (sup : Nat := 0) (ifs : Array Nat := #[]) (fds : Array FieldInfo := #[]) : ClassFile where
  minorVersion := 0
  majorVersion := 65
  constantPool := pool
  accessFlags := fl
  thisClass := this
  superClass := sup
  interfaces := ifs
  fields := fds
  methods := ms
  attributes := attrs
def plain (name : String) (sup : Option ClassId) : Class where
  name := name
  kind := .ordinary
  loader := none
  accessFlags := 33
  super := sup
  interfaces := #[]
  cf := none
  fields := #[]
  methods := #[]
  instanceTypes := #[]
  staticTypes := #[]
  resolved := #[]
  callSites := []
  init := .initialized
  statics := none
  mirror := none

def pool0 : Array CpInfo := pool [(5, u "<init>"), (0, u "()V"), (1, .class_ 10), (1, u "java/lang/Object")] 113

def k0c0 : Code := { maxStack := 0, maxLocals := 1, code := object_method_1_code, exceptionTable := #[], attributes := #[] }
def k0m0 : Method := { name := "<init>", desc := "()V", sig := { parameters := [], returnType := none }, accessFlags := 1, code := some k0c0 }
/-- java/lang/Object -/
def k0 : Class := { plain "java/lang/Object" none with
  accessFlags := 33
  interfaces := #[]
  cf := some (fileOf pool0 8 #[] #[{ accessFlags := 1, nameIndex := 5, descriptorIndex := 6, attributes := #[] }] 33 0 #[] #[])
  fields := #[]
  methods := #[k0m0]
  instanceTypes := #[]
  staticTypes := #[]
  resolved := Array.replicate 124 none
  statics := none }

def pool1 : Array CpInfo := pool [(2, .class_ 4), (1, u "java/lang/Object"), (0, u "<init>"), (0, u "()V"), (0, .double 9223372036854775808), (1, .class_ 10), (0, u "com/example/gaugefit/gaugefit/core/Interval"), (0, .methodref 12 13), (0, .class_ 14), (0, .nameAndType 15 16), (0, u "com/example/gaugefit/gaugefit/core/IntervalEqualsPinLaw"), (0, u "time"), (0, u "(JZ)D"), (0, .methodref 9 18), (0, .nameAndType 5 19), (0, u "(DD)V"), (0, .methodref 21 22), (0, .class_ 23), (0, .nameAndType 24 25), (0, u "java/lang/Integer"), (0, u "valueOf"), (0, u "(I)Ljava/lang/Integer;"), (0, .methodref 9 27), (0, .nameAndType 28 29), (0, u "equals"), (0, u "(Ljava/lang/Object;)Z"), (3, u "law"), (0, u "(IIIII)Z")] 2

def k1m0 : Method := { name := "<init>", desc := "()V", sig := { parameters := [], returnType := none }, accessFlags := 2, code := none }
def k1c1 : Code := { maxStack := 4, maxLocals := 3, code := method_2_code, exceptionTable := #[], attributes := #[] }
def k1m1 : Method := { name := "time", desc := "(JZ)D", sig := { parameters := [.long, .boolean], returnType := some .double }, accessFlags := 10, code := some k1c1 }
def k1c2 : Code := { maxStack := 7, maxLocals := 26, code := code, exceptionTable := #[], attributes := #[] }
def k1m2 : Method := { name := "law", desc := "(IIIII)Z", sig := { parameters := [.int, .int, .int, .int, .int], returnType := some .boolean }, accessFlags := 9, code := some k1c2 }
/-- com/example/gaugefit/gaugefit/core/IntervalEqualsPinLaw -/
def k1 : Class := { plain "com/example/gaugefit/gaugefit/core/IntervalEqualsPinLaw" (some 0) with
  accessFlags := 49
  interfaces := #[]
  cf := some (fileOf pool1 12 #[] #[{ accessFlags := 2, nameIndex := 5, descriptorIndex := 6, attributes := #[] }, { accessFlags := 10, nameIndex := 15, descriptorIndex := 16, attributes := #[] }, { accessFlags := 9, nameIndex := 33, descriptorIndex := 34, attributes := #[] }] 49 2 #[] #[])
  fields := #[]
  methods := #[k1m0, k1m1, k1m2]
  instanceTypes := #[]
  staticTypes := #[]
  resolved := Array.replicate 37 none
  statics := none }

def pool2 : Array CpInfo := pool [(1, .methodref 2 3), (0, .class_ 4), (0, .nameAndType 5 6), (0, u "java/lang/Object"), (0, u "<init>"), (0, u "()V"), (0, .methodref 8 9), (0, .class_ 10), (0, .nameAndType 11 12), (0, u "java/lang/Double"), (0, u "isFinite"), (0, u "(D)Z"), (10, .fieldref 24 25), (0, .class_ 26), (0, .nameAndType 27 28), (0, u "com/example/gaugefit/gaugefit/core/Interval"), (0, u "begin"), (0, u "D"), (0, .fieldref 24 30), (0, .nameAndType 31 28), (0, u "end"), (0, .methodref 8 33), (0, .nameAndType 34 35), (0, u "compare"), (0, u "(DD)I"), (11, u "(DD)V"), (7, u "equals"), (0, u "(Ljava/lang/Object;)Z")] 25

def k2c0 : Code := { maxStack := 6, maxLocals := 5, code := prog_9_method_1_code, exceptionTable := #[], attributes := #[] }
def k2m0 : Method := { name := "<init>", desc := "(DD)V", sig := { parameters := [.double, .double], returnType := none }, accessFlags := 0, code := some k2c0 }
def k2c1 : Code := { maxStack := 4, maxLocals := 3, code := prog_9_method_5_code, exceptionTable := #[], attributes := #[] }
def k2m1 : Method := { name := "equals", desc := "(Ljava/lang/Object;)Z", sig := { parameters := [(.object "java/lang/Object")], returnType := some .boolean }, accessFlags := 1, code := some k2c1 }
/-- com/example/gaugefit/gaugefit/core/Interval -/
def k2 : Class := { plain "com/example/gaugefit/gaugefit/core/Interval" (some 0) with
  accessFlags := 48
  interfaces := #[]
  cf := some (fileOf pool2 24 #[] #[{ accessFlags := 0, nameIndex := 5, descriptorIndex := 47, attributes := #[] }, { accessFlags := 1, nameIndex := 55, descriptorIndex := 56, attributes := #[] }] 48 2 #[] #[{ accessFlags := 18, nameIndex := 27, descriptorIndex := 28, attributes := #[] }, { accessFlags := 18, nameIndex := 31, descriptorIndex := 28, attributes := #[] }])
  fields := #[{ name := "begin", type := .double, accessFlags := 18, slot := 0, constantValue := 0 }, { name := "end", type := .double, accessFlags := 18, slot := 1, constantValue := 0 }]
  methods := #[k2m0, k2m1]
  instanceTypes := #[.double, .double]
  staticTypes := #[]
  resolved := Array.replicate 82 none
  statics := none }

def pool3 : Array CpInfo := pool [(1, .class_ 2), (0, u "java/io/Serializable"), (0, .class_ 4), (0, u "java/lang/Object")] 2

/-- java/io/Serializable -/
def k3 : Class := { plain "java/io/Serializable" (some 0) with
  accessFlags := 1537
  interfaces := #[]
  cf := some (fileOf pool3 1 #[] #[] 1537 3 #[] #[])
  fields := #[]
  methods := #[]
  instanceTypes := #[]
  staticTypes := #[]
  resolved := Array.replicate 7 none
  statics := none }

def pool4 : Array CpInfo := pool [(1, .methodref 2 3), (0, .class_ 4), (0, .nameAndType 5 6), (0, u "java/lang/Object"), (0, u "<init>"), (0, u "()V"), (1, .class_ 10), (1, u "java/lang/Number"), (2, .class_ 14), (0, u "java/io/Serializable"), (0, u "serialVersionUID"), (0, u "J")] 20

def k4c0 : Code := { maxStack := 1, maxLocals := 1, code := jdk_18_method_1_code, exceptionTable := #[], attributes := #[] }
def k4m0 : Method := { name := "<init>", desc := "()V", sig := { parameters := [], returnType := none }, accessFlags := 1, code := some k4c0 }
/-- java/lang/Number -/
def k4 : Class := { plain "java/lang/Number" (some 0) with
  accessFlags := 1057
  interfaces := #[3]
  cf := some (fileOf pool4 8 #[] #[{ accessFlags := 1, nameIndex := 5, descriptorIndex := 6, attributes := #[] }] 1057 2 #[13] #[{ accessFlags := 26, nameIndex := 15, descriptorIndex := 16, attributes := #[] }])
  fields := #[{ name := "serialVersionUID", type := .long, accessFlags := 26, slot := 0, constantValue := 0 }]
  methods := #[k4m0]
  instanceTypes := #[]
  staticTypes := #[.long]
  resolved := Array.replicate 37 none
  statics := none }

def pool5 : Array CpInfo := pool [(1, .class_ 2), (0, u "java/lang/Comparable"), (0, .class_ 4), (0, u "java/lang/Object")] 7

/-- java/lang/Comparable -/
def k5 : Class := { plain "java/lang/Comparable" (some 0) with
  accessFlags := 1537
  interfaces := #[]
  cf := some (fileOf pool5 1 #[] #[] 1537 3 #[] #[])
  fields := #[]
  methods := #[]
  instanceTypes := #[]
  staticTypes := #[]
  resolved := Array.replicate 12 none
  statics := none }

def pool6 : Array CpInfo := pool [(1, .class_ 2), (0, u "java/lang/constant/Constable"), (0, .class_ 4), (0, u "java/lang/Object")] 6

/-- java/lang/constant/Constable -/
def k6 : Class := { plain "java/lang/constant/Constable" (some 0) with
  accessFlags := 1537
  interfaces := #[]
  cf := some (fileOf pool6 1 #[] #[] 1537 3 #[] #[])
  fields := #[]
  methods := #[]
  instanceTypes := #[]
  staticTypes := #[]
  resolved := Array.replicate 11 none
  statics := none }

def pool7 : Array CpInfo := pool [(1, .class_ 2), (0, u "java/lang/constant/ConstantDesc"), (0, .class_ 4), (0, u "java/lang/Object")] 32

/-- java/lang/constant/ConstantDesc -/
def k7 : Class := { plain "java/lang/constant/ConstantDesc" (some 0) with
  accessFlags := 1537
  interfaces := #[]
  cf := some (fileOf pool7 1 #[] #[] 1537 3 #[] #[])
  fields := #[]
  methods := #[]
  instanceTypes := #[]
  staticTypes := #[]
  resolved := Array.replicate 37 none
  statics := none }

def pool8 : Array CpInfo := pool [(1, .class_ 2), (0, u "java/lang/Double"), (10, u "isFinite"), (0, u "(D)Z"), (8, .class_ 25), (1, u "java/lang/Math"), (12, .methodref 23 39), (0, .nameAndType 40 41), (0, u "abs"), (0, u "(D)D"), (4, .methodref 1 47), (0, .nameAndType 48 49), (0, u "doubleToLongBits"), (0, u "(D)J"), (61, .double 9218868437227405311), (2, .class_ 116), (1, u "java/lang/Number"), (3, u "value"), (0, u "D"), (0, .methodref 1 123), (0, .nameAndType 124 14), (0, u "isNaN"), (9, .methodref 1 135), (0, .nameAndType 136 49), (0, u "doubleToRawLongBits"), (4, u "compare"), (0, u "(DD)I"), (30, u "TYPE"), (0, u "Ljava/lang/Class;"), (0, .class_ 176), (0, u "java/lang/Comparable"), (0, .class_ 178), (0, u "java/lang/constant/Constable"), (0, .class_ 180), (0, u "java/lang/constant/ConstantDesc"), (0, u "POSITIVE_INFINITY"), (3, u "NEGATIVE_INFINITY"), (2, u "NaN"), (2, u "MAX_VALUE"), (0, u "MIN_NORMAL"), (0, u "MIN_VALUE"), (2, u "SIZE"), (0, u "I"), (1, u "PRECISION"), (1, u "MAX_EXPONENT"), (1, u "MIN_EXPONENT"), (1, u "BYTES"), (3, u "serialVersionUID"), (0, u "J")] 79

def k8c0 : Code := { maxStack := 4, maxLocals := 2, code := jdk_117_method_6_code, exceptionTable := #[], attributes := #[] }
def k8m0 : Method := { name := "isNaN", desc := "(D)Z", sig := { parameters := [.double], returnType := some .boolean }, accessFlags := 9, code := some k8c0 }
def k8c1 : Code := { maxStack := 4, maxLocals := 2, code := jdk_117_method_8_code, exceptionTable := #[], attributes := #[] }
def k8m1 : Method := { name := "isFinite", desc := "(D)Z", sig := { parameters := [.double], returnType := some .boolean }, accessFlags := 9, code := some k8c1 }
def k8c2 : Code := { maxStack := 2, maxLocals := 2, code := jdk_117_method_23_code, exceptionTable := #[], attributes := #[] }
def k8m2 : Method := { name := "doubleToLongBits", desc := "(D)J", sig := { parameters := [.double], returnType := some .long }, accessFlags := 9, code := some k8c2 }
def k8m3 : Method := { name := "doubleToRawLongBits", desc := "(D)J", sig := { parameters := [.double], returnType := some .long }, accessFlags := 265, code := none }
def k8c4 : Code := { maxStack := 4, maxLocals := 8, code := jdk_117_method_27_code, exceptionTable := #[], attributes := #[] }
def k8m4 : Method := { name := "compare", desc := "(DD)I", sig := { parameters := [.double, .double], returnType := some .int }, accessFlags := 9, code := some k8c4 }
/-- java/lang/Double -/
def k8 : Class := { plain "java/lang/Double" (some 4) with
  accessFlags := 49
  interfaces := #[5, 6, 7]
  cf := some (fileOf pool8 1 #[] #[{ accessFlags := 9, nameIndex := 124, descriptorIndex := 14, attributes := #[] }, { accessFlags := 9, nameIndex := 13, descriptorIndex := 14, attributes := #[] }, { accessFlags := 9, nameIndex := 48, descriptorIndex := 49, attributes := #[] }, { accessFlags := 265, nameIndex := 136, descriptorIndex := 49, attributes := #[] }, { accessFlags := 9, nameIndex := 141, descriptorIndex := 142, attributes := #[] }] 49 114 #[175, 177, 179] #[{ accessFlags := 25, nameIndex := 181, descriptorIndex := 121, attributes := #[] }, { accessFlags := 25, nameIndex := 185, descriptorIndex := 121, attributes := #[] }, { accessFlags := 25, nameIndex := 188, descriptorIndex := 121, attributes := #[] }, { accessFlags := 25, nameIndex := 191, descriptorIndex := 121, attributes := #[] }, { accessFlags := 25, nameIndex := 192, descriptorIndex := 121, attributes := #[] }, { accessFlags := 25, nameIndex := 193, descriptorIndex := 121, attributes := #[] }, { accessFlags := 25, nameIndex := 196, descriptorIndex := 197, attributes := #[] }, { accessFlags := 25, nameIndex := 199, descriptorIndex := 197, attributes := #[] }, { accessFlags := 25, nameIndex := 201, descriptorIndex := 197, attributes := #[] }, { accessFlags := 25, nameIndex := 203, descriptorIndex := 197, attributes := #[] }, { accessFlags := 25, nameIndex := 205, descriptorIndex := 197, attributes := #[] }, { accessFlags := 25, nameIndex := 173, descriptorIndex := 174, attributes := #[] }, { accessFlags := 18, nameIndex := 120, descriptorIndex := 121, attributes := #[] }, { accessFlags := 26, nameIndex := 209, descriptorIndex := 210, attributes := #[] }])
  fields := #[{ name := "POSITIVE_INFINITY", type := .double, accessFlags := 25, slot := 0, constantValue := 0 }, { name := "NEGATIVE_INFINITY", type := .double, accessFlags := 25, slot := 1, constantValue := 0 }, { name := "NaN", type := .double, accessFlags := 25, slot := 2, constantValue := 0 }, { name := "MAX_VALUE", type := .double, accessFlags := 25, slot := 3, constantValue := 0 }, { name := "MIN_NORMAL", type := .double, accessFlags := 25, slot := 4, constantValue := 0 }, { name := "MIN_VALUE", type := .double, accessFlags := 25, slot := 5, constantValue := 0 }, { name := "SIZE", type := .int, accessFlags := 25, slot := 6, constantValue := 0 }, { name := "PRECISION", type := .int, accessFlags := 25, slot := 7, constantValue := 0 }, { name := "MAX_EXPONENT", type := .int, accessFlags := 25, slot := 8, constantValue := 0 }, { name := "MIN_EXPONENT", type := .int, accessFlags := 25, slot := 9, constantValue := 0 }, { name := "BYTES", type := .int, accessFlags := 25, slot := 10, constantValue := 0 }, { name := "TYPE", type := (.object "java/lang/Class"), accessFlags := 25, slot := 11, constantValue := 0 }, { name := "value", type := .double, accessFlags := 18, slot := 0, constantValue := 0 }, { name := "serialVersionUID", type := .long, accessFlags := 26, slot := 12, constantValue := 0 }]
  methods := #[k8m0, k8m1, k8m2, k8m3, k8m4]
  instanceTypes := #[.double]
  staticTypes := #[.double, .double, .double, .double, .double, .double, .int, .int, .int, .int, .int, (.object "java/lang/Class"), .long]
  resolved := Array.replicate 290 none
  statics := none }

def pool9 : Array CpInfo := pool [(1, .class_ 2), (0, u "java/lang/Math"), (1, .class_ 6), (1, u "java/lang/Object"), (0, u "<init>"), (0, u "()V"), (5, u "(D)D"), (83, .class_ 100), (1, u "java/lang/Math$RandomNumberGeneratorHolder"), (23, u "abs"), (47, u "negativeZeroFloatBits"), (0, u "J"), (2, u "negativeZeroDoubleBits"), (68, u "$assertionsDisabled"), (0, u "Z"), (91, u "twoToTheDoubleScaleDown"), (0, u "D"), (4, u "twoToTheDoubleScaleUp"), (9, u "E"), (3, u "PI"), (2, u "TAU"), (2, u "DEGREES_TO_RADIANS"), (0, u "RADIANS_TO_DEGREES")] 94

def k9m0 : Method := { name := "<init>", desc := "()V", sig := { parameters := [], returnType := none }, accessFlags := 2, code := none }
def k9c1 : Code := { maxStack := 4, maxLocals := 2, code := jdk_29_method_64_code, exceptionTable := #[], attributes := #[] }
def k9m1 : Method := { name := "abs", desc := "(D)D", sig := { parameters := [.double], returnType := some .double }, accessFlags := 9, code := some k9c1 }
/-- java/lang/Math -/
def k9 : Class := { plain "java/lang/Math" (some 0) with
  accessFlags := 49
  interfaces := #[]
  cf := some (fileOf pool9 1 #[.nestMembers #[98]] #[{ accessFlags := 2, nameIndex := 7, descriptorIndex := 8, attributes := #[] }, { accessFlags := 9, nameIndex := 124, descriptorIndex := 14, attributes := #[] }] 49 4 #[] #[{ accessFlags := 25, nameIndex := 354, descriptorIndex := 339, attributes := #[] }, { accessFlags := 25, nameIndex := 358, descriptorIndex := 339, attributes := #[] }, { accessFlags := 25, nameIndex := 361, descriptorIndex := 339, attributes := #[] }, { accessFlags := 26, nameIndex := 364, descriptorIndex := 339, attributes := #[] }, { accessFlags := 26, nameIndex := 365, descriptorIndex := 339, attributes := #[] }, { accessFlags := 26, nameIndex := 172, descriptorIndex := 173, attributes := #[] }, { accessFlags := 26, nameIndex := 176, descriptorIndex := 173, attributes := #[] }, { accessFlags := 8, nameIndex := 344, descriptorIndex := 339, attributes := #[] }, { accessFlags := 8, nameIndex := 338, descriptorIndex := 339, attributes := #[] }, { accessFlags := 4120, nameIndex := 245, descriptorIndex := 246, attributes := #[] }])
  fields := #[{ name := "E", type := .double, accessFlags := 25, slot := 0, constantValue := 0 }, { name := "PI", type := .double, accessFlags := 25, slot := 1, constantValue := 0 }, { name := "TAU", type := .double, accessFlags := 25, slot := 2, constantValue := 0 }, { name := "DEGREES_TO_RADIANS", type := .double, accessFlags := 26, slot := 3, constantValue := 0 }, { name := "RADIANS_TO_DEGREES", type := .double, accessFlags := 26, slot := 4, constantValue := 0 }, { name := "negativeZeroFloatBits", type := .long, accessFlags := 26, slot := 5, constantValue := 0 }, { name := "negativeZeroDoubleBits", type := .long, accessFlags := 26, slot := 6, constantValue := 0 }, { name := "twoToTheDoubleScaleUp", type := .double, accessFlags := 8, slot := 7, constantValue := 0 }, { name := "twoToTheDoubleScaleDown", type := .double, accessFlags := 8, slot := 8, constantValue := 0 }, { name := "$assertionsDisabled", type := .boolean, accessFlags := 4120, slot := 9, constantValue := 0 }]
  methods := #[k9m0, k9m1]
  instanceTypes := #[]
  staticTypes := #[.double, .double, .double, .double, .double, .long, .long, .double, .double, .boolean]
  resolved := Array.replicate 460 none
  statics := none }

def pool10 : Array CpInfo := pool [(1, .class_ 2), (0, u "java/lang/Integer"), (16, u "digits"), (0, u "[C"), (46, u "<init>"), (17, u "DigitOnes"), (0, u "[B"), (2, u "DigitTens"), (10, .nameAndType 67 101), (0, u "()V"), (85, u "valueOf"), (0, u "(I)Ljava/lang/Integer;"), (0, .class_ 190), (0, u "java/lang/Integer$IntegerCache"), (0, .fieldref 189 192), (0, .nameAndType 193 194), (0, u "high"), (0, u "I"), (0, .fieldref 189 196), (0, .nameAndType 197 198), (0, u "cache"), (0, u "[Ljava/lang/Integer;"), (0, .methodref 1 200), (0, .nameAndType 67 201), (0, u "(I)V"), (0, .methodref 203 100), (0, .class_ 204), (0, u "java/lang/Number"), (0, .fieldref 1 206), (0, .nameAndType 207 194), (0, u "value"), (94, u "TYPE"), (0, u "Ljava/lang/Class;"), (0, .class_ 305), (0, u "java/lang/Comparable"), (0, .class_ 307), (0, u "java/lang/constant/Constable"), (0, .class_ 309), (0, u "java/lang/constant/ConstantDesc"), (0, u "MIN_VALUE"), (1, u "MAX_VALUE"), (3, u "SIZE"), (1, u "BYTES"), (1, u "serialVersionUID"), (0, u "J")] 131

def k10c0 : Code := { maxStack := 3, maxLocals := 1, code := jdk_33_method_22_code, exceptionTable := #[], attributes := #[] }
def k10m0 : Method := { name := "valueOf", desc := "(I)Ljava/lang/Integer;", sig := { parameters := [.int], returnType := some (.object "java/lang/Integer") }, accessFlags := 9, code := some k10c0 }
def k10c1 : Code := { maxStack := 2, maxLocals := 2, code := jdk_33_method_23_code, exceptionTable := #[], attributes := #[] }
def k10m1 : Method := { name := "<init>", desc := "(I)V", sig := { parameters := [.int], returnType := none }, accessFlags := 1, code := some k10c1 }
/-- java/lang/Integer -/
def k10 : Class := { plain "java/lang/Integer" (some 4) with
  accessFlags := 49
  interfaces := #[5, 6, 7]
  cf := some (fileOf pool10 1 #[.nestMembers #[189]] #[{ accessFlags := 9, nameIndex := 187, descriptorIndex := 188, attributes := #[] }, { accessFlags := 1, nameIndex := 67, descriptorIndex := 201, attributes := #[] }] 49 203 #[304, 306, 308] #[{ accessFlags := 25, nameIndex := 310, descriptorIndex := 194, attributes := #[] }, { accessFlags := 25, nameIndex := 312, descriptorIndex := 194, attributes := #[] }, { accessFlags := 25, nameIndex := 302, descriptorIndex := 303, attributes := #[] }, { accessFlags := 24, nameIndex := 19, descriptorIndex := 20, attributes := #[] }, { accessFlags := 24, nameIndex := 89, descriptorIndex := 86, attributes := #[] }, { accessFlags := 24, nameIndex := 85, descriptorIndex := 86, attributes := #[] }, { accessFlags := 18, nameIndex := 207, descriptorIndex := 194, attributes := #[] }, { accessFlags := 25, nameIndex := 316, descriptorIndex := 194, attributes := #[] }, { accessFlags := 25, nameIndex := 318, descriptorIndex := 194, attributes := #[] }, { accessFlags := 26, nameIndex := 320, descriptorIndex := 321, attributes := #[] }])
  fields := #[{ name := "MIN_VALUE", type := .int, accessFlags := 25, slot := 0, constantValue := 0 }, { name := "MAX_VALUE", type := .int, accessFlags := 25, slot := 1, constantValue := 0 }, { name := "TYPE", type := (.object "java/lang/Class"), accessFlags := 25, slot := 2, constantValue := 0 }, { name := "digits", type := (.array .char), accessFlags := 24, slot := 3, constantValue := 0 }, { name := "DigitTens", type := (.array .byte), accessFlags := 24, slot := 4, constantValue := 0 }, { name := "DigitOnes", type := (.array .byte), accessFlags := 24, slot := 5, constantValue := 0 }, { name := "value", type := .int, accessFlags := 18, slot := 0, constantValue := 0 }, { name := "SIZE", type := .int, accessFlags := 25, slot := 6, constantValue := 0 }, { name := "BYTES", type := .int, accessFlags := 25, slot := 7, constantValue := 0 }, { name := "serialVersionUID", type := .long, accessFlags := 26, slot := 8, constantValue := 0 }]
  methods := #[k10m0, k10m1]
  instanceTypes := #[.int]
  staticTypes := #[.int, .int, (.object "java/lang/Class"), (.array .char), (.array .byte), (.array .byte), .int, .int, .long]
  resolved := Array.replicate 453 none
  statics := none }

def pool11 : Array CpInfo := pool [(2, .class_ 4), (1, u "java/lang/Object"), (0, u "<init>"), (0, u "()V"), (0, .class_ 8), (0, u "java/lang/Integer"), (7, .class_ 18), (1, u "java/lang/Integer$IntegerCache"), (0, u "$assertionsDisabled"), (0, u "Z"), (26, u "high"), (0, u "I"), (8, u "archivedCache"), (0, u "[Ljava/lang/Integer;"), (12, u "cache"), (0, u "low")] 27

def k11m0 : Method := { name := "<init>", desc := "()V", sig := { parameters := [], returnType := none }, accessFlags := 2, code := none }
/-- java/lang/Integer$IntegerCache -/
def k11 : Class := { plain "java/lang/Integer$IntegerCache" (some 0) with
  accessFlags := 48
  interfaces := #[]
  cf := some (fileOf pool11 16 #[.nestHost 7] #[{ accessFlags := 2, nameIndex := 5, descriptorIndex := 6, attributes := #[] }] 48 2 #[] #[{ accessFlags := 24, nameIndex := 72, descriptorIndex := 48, attributes := #[] }, { accessFlags := 24, nameIndex := 47, descriptorIndex := 48, attributes := #[] }, { accessFlags := 24, nameIndex := 71, descriptorIndex := 58, attributes := #[] }, { accessFlags := 8, nameIndex := 57, descriptorIndex := 58, attributes := #[] }, { accessFlags := 4120, nameIndex := 19, descriptorIndex := 20, attributes := #[] }])
  fields := #[{ name := "low", type := .int, accessFlags := 24, slot := 0, constantValue := 0 }, { name := "high", type := .int, accessFlags := 24, slot := 1, constantValue := 0 }, { name := "cache", type := (.array (.object "java/lang/Integer")), accessFlags := 24, slot := 2, constantValue := 0 }, { name := "archivedCache", type := (.array (.object "java/lang/Integer")), accessFlags := 8, slot := 3, constantValue := 0 }, { name := "$assertionsDisabled", type := .boolean, accessFlags := 4120, slot := 4, constantValue := 0 }]
  methods := #[k11m0]
  instanceTypes := #[]
  staticTypes := #[.int, .int, (.array (.object "java/lang/Integer")), (.array (.object "java/lang/Integer")), .boolean]
  resolved := Array.replicate 100 none
  statics := some 0 }

def pool12 : Array CpInfo := pool [(1, u "java/lang/Cloneable"), (0, .class_ 1), (0, u "java/lang/Object"), (0, .class_ 3)] 3

/-- java/lang/Cloneable -/
def k12 : Class := { plain "java/lang/Cloneable" (some 0) with
  accessFlags := 1537
  interfaces := #[]
  cf := some (fileOf pool12 2 #[] #[] 1537 4 #[] #[])
  fields := #[]
  methods := #[]
  instanceTypes := #[]
  staticTypes := #[]
  resolved := Array.replicate 8 none
  statics := none }

/-- the primitive byte -/
def k13 : Class := { plain "byte" none with kind := .primitive 'B', accessFlags := 0x411 }
/-- [B -/
def k14 : Class := { plain "[B" (some 0) with kind := .array 13 .byte, interfaces := #[12, 3], accessFlags := 1041 }

/-- the primitive int -/
def k15 : Class := { plain "int" none with kind := .primitive 'I', accessFlags := 0x411 }
/-- [I -/
def k16 : Class := { plain "[I" (some 0) with kind := .array 15 .int, interfaces := #[12, 3], accessFlags := 1041 }

/-- [Ljava/lang/Integer; -/
def k17 : Class := { plain "[Ljava/lang/Integer;" (some 0) with kind := .array 10 (.object "java/lang/Integer"), interfaces := #[12, 3], accessFlags := 1041 }

def heap : Heap := #[{ cls := 11, slots := #[.int 0, .int 127, .ref 1, .null, .int 0], vm := .statics 11 },
  { cls := 17, slots := #[.ref 2, .ref 3, .ref 4, .ref 5, .ref 6, .ref 7, .ref 8, .ref 9, .ref 10, .ref 11, .ref 12, .ref 13, .ref 14, .ref 15, .ref 16, .ref 17, .ref 18, .ref 19, .ref 20, .ref 21, .ref 22, .ref 23, .ref 24, .ref 25, .ref 26, .ref 27, .ref 28, .ref 29, .ref 30, .ref 31, .ref 32, .ref 33, .ref 34, .ref 35, .ref 36, .ref 37, .ref 38, .ref 39, .ref 40, .ref 41, .ref 42, .ref 43, .ref 44, .ref 45, .ref 46, .ref 47, .ref 48, .ref 49, .ref 50, .ref 51, .ref 52, .ref 53, .ref 54, .ref 55, .ref 56, .ref 57, .ref 58, .ref 59, .ref 60, .ref 61, .ref 62, .ref 63, .ref 64, .ref 65, .ref 66, .ref 67, .ref 68, .ref 69, .ref 70, .ref 71, .ref 72, .ref 73, .ref 74, .ref 75, .ref 76, .ref 77, .ref 78, .ref 79, .ref 80, .ref 81, .ref 82, .ref 83, .ref 84, .ref 85, .ref 86, .ref 87, .ref 88, .ref 89, .ref 90, .ref 91, .ref 92, .ref 93, .ref 94, .ref 95, .ref 96, .ref 97, .ref 98, .ref 99, .ref 100, .ref 101, .ref 102, .ref 103, .ref 104, .ref 105, .ref 106, .ref 107, .ref 108, .ref 109, .ref 110, .ref 111, .ref 112, .ref 113, .ref 114, .ref 115, .ref 116, .ref 117, .ref 118, .ref 119, .ref 120, .ref 121, .ref 122, .ref 123, .ref 124, .ref 125, .ref 126, .ref 127, .ref 128, .ref 129, .ref 130, .ref 131, .ref 132, .ref 133, .ref 134, .ref 135, .ref 136, .ref 137, .ref 138, .ref 139, .ref 140, .ref 141, .ref 142, .ref 143, .ref 144, .ref 145, .ref 146, .ref 147, .ref 148, .ref 149, .ref 150, .ref 151, .ref 152, .ref 153, .ref 154, .ref 155, .ref 156, .ref 157, .ref 158, .ref 159, .ref 160, .ref 161, .ref 162, .ref 163, .ref 164, .ref 165, .ref 166, .ref 167, .ref 168, .ref 169, .ref 170, .ref 171, .ref 172, .ref 173, .ref 174, .ref 175, .ref 176, .ref 177, .ref 178, .ref 179, .ref 180, .ref 181, .ref 182, .ref 183, .ref 184, .ref 185, .ref 186, .ref 187, .ref 188, .ref 189, .ref 190, .ref 191, .ref 192, .ref 193, .ref 194, .ref 195, .ref 196, .ref 197, .ref 198, .ref 199, .ref 200, .ref 201, .ref 202, .ref 203, .ref 204, .ref 205, .ref 206, .ref 207, .ref 208, .ref 209, .ref 210, .ref 211, .ref 212, .ref 213, .ref 214, .ref 215, .ref 216, .ref 217, .ref 218, .ref 219, .ref 220, .ref 221, .ref 222, .ref 223, .ref 224, .ref 225, .ref 226, .ref 227, .ref 228, .ref 229, .ref 230, .ref 231, .ref 232, .ref 233, .ref 234, .ref 235, .ref 236, .ref 237, .ref 238, .ref 239, .ref 240, .ref 241, .ref 242, .ref 243, .ref 244, .ref 245, .ref 246, .ref 247, .ref 248, .ref 249, .ref 250, .ref 251, .ref 252, .ref 253, .ref 254, .ref 255, .ref 256, .ref 257], vm := .none },
  { cls := 10, slots := #[.int (-128)], vm := .none },
  { cls := 10, slots := #[.int (-127)], vm := .none },
  { cls := 10, slots := #[.int (-126)], vm := .none },
  { cls := 10, slots := #[.int (-125)], vm := .none },
  { cls := 10, slots := #[.int (-124)], vm := .none },
  { cls := 10, slots := #[.int (-123)], vm := .none },
  { cls := 10, slots := #[.int (-122)], vm := .none },
  { cls := 10, slots := #[.int (-121)], vm := .none },
  { cls := 10, slots := #[.int (-120)], vm := .none },
  { cls := 10, slots := #[.int (-119)], vm := .none },
  { cls := 10, slots := #[.int (-118)], vm := .none },
  { cls := 10, slots := #[.int (-117)], vm := .none },
  { cls := 10, slots := #[.int (-116)], vm := .none },
  { cls := 10, slots := #[.int (-115)], vm := .none },
  { cls := 10, slots := #[.int (-114)], vm := .none },
  { cls := 10, slots := #[.int (-113)], vm := .none },
  { cls := 10, slots := #[.int (-112)], vm := .none },
  { cls := 10, slots := #[.int (-111)], vm := .none },
  { cls := 10, slots := #[.int (-110)], vm := .none },
  { cls := 10, slots := #[.int (-109)], vm := .none },
  { cls := 10, slots := #[.int (-108)], vm := .none },
  { cls := 10, slots := #[.int (-107)], vm := .none },
  { cls := 10, slots := #[.int (-106)], vm := .none },
  { cls := 10, slots := #[.int (-105)], vm := .none },
  { cls := 10, slots := #[.int (-104)], vm := .none },
  { cls := 10, slots := #[.int (-103)], vm := .none },
  { cls := 10, slots := #[.int (-102)], vm := .none },
  { cls := 10, slots := #[.int (-101)], vm := .none },
  { cls := 10, slots := #[.int (-100)], vm := .none },
  { cls := 10, slots := #[.int (-99)], vm := .none },
  { cls := 10, slots := #[.int (-98)], vm := .none },
  { cls := 10, slots := #[.int (-97)], vm := .none },
  { cls := 10, slots := #[.int (-96)], vm := .none },
  { cls := 10, slots := #[.int (-95)], vm := .none },
  { cls := 10, slots := #[.int (-94)], vm := .none },
  { cls := 10, slots := #[.int (-93)], vm := .none },
  { cls := 10, slots := #[.int (-92)], vm := .none },
  { cls := 10, slots := #[.int (-91)], vm := .none },
  { cls := 10, slots := #[.int (-90)], vm := .none },
  { cls := 10, slots := #[.int (-89)], vm := .none },
  { cls := 10, slots := #[.int (-88)], vm := .none },
  { cls := 10, slots := #[.int (-87)], vm := .none },
  { cls := 10, slots := #[.int (-86)], vm := .none },
  { cls := 10, slots := #[.int (-85)], vm := .none },
  { cls := 10, slots := #[.int (-84)], vm := .none },
  { cls := 10, slots := #[.int (-83)], vm := .none },
  { cls := 10, slots := #[.int (-82)], vm := .none },
  { cls := 10, slots := #[.int (-81)], vm := .none },
  { cls := 10, slots := #[.int (-80)], vm := .none },
  { cls := 10, slots := #[.int (-79)], vm := .none },
  { cls := 10, slots := #[.int (-78)], vm := .none },
  { cls := 10, slots := #[.int (-77)], vm := .none },
  { cls := 10, slots := #[.int (-76)], vm := .none },
  { cls := 10, slots := #[.int (-75)], vm := .none },
  { cls := 10, slots := #[.int (-74)], vm := .none },
  { cls := 10, slots := #[.int (-73)], vm := .none },
  { cls := 10, slots := #[.int (-72)], vm := .none },
  { cls := 10, slots := #[.int (-71)], vm := .none },
  { cls := 10, slots := #[.int (-70)], vm := .none },
  { cls := 10, slots := #[.int (-69)], vm := .none },
  { cls := 10, slots := #[.int (-68)], vm := .none },
  { cls := 10, slots := #[.int (-67)], vm := .none },
  { cls := 10, slots := #[.int (-66)], vm := .none },
  { cls := 10, slots := #[.int (-65)], vm := .none },
  { cls := 10, slots := #[.int (-64)], vm := .none },
  { cls := 10, slots := #[.int (-63)], vm := .none },
  { cls := 10, slots := #[.int (-62)], vm := .none },
  { cls := 10, slots := #[.int (-61)], vm := .none },
  { cls := 10, slots := #[.int (-60)], vm := .none },
  { cls := 10, slots := #[.int (-59)], vm := .none },
  { cls := 10, slots := #[.int (-58)], vm := .none },
  { cls := 10, slots := #[.int (-57)], vm := .none },
  { cls := 10, slots := #[.int (-56)], vm := .none },
  { cls := 10, slots := #[.int (-55)], vm := .none },
  { cls := 10, slots := #[.int (-54)], vm := .none },
  { cls := 10, slots := #[.int (-53)], vm := .none },
  { cls := 10, slots := #[.int (-52)], vm := .none },
  { cls := 10, slots := #[.int (-51)], vm := .none },
  { cls := 10, slots := #[.int (-50)], vm := .none },
  { cls := 10, slots := #[.int (-49)], vm := .none },
  { cls := 10, slots := #[.int (-48)], vm := .none },
  { cls := 10, slots := #[.int (-47)], vm := .none },
  { cls := 10, slots := #[.int (-46)], vm := .none },
  { cls := 10, slots := #[.int (-45)], vm := .none },
  { cls := 10, slots := #[.int (-44)], vm := .none },
  { cls := 10, slots := #[.int (-43)], vm := .none },
  { cls := 10, slots := #[.int (-42)], vm := .none },
  { cls := 10, slots := #[.int (-41)], vm := .none },
  { cls := 10, slots := #[.int (-40)], vm := .none },
  { cls := 10, slots := #[.int (-39)], vm := .none },
  { cls := 10, slots := #[.int (-38)], vm := .none },
  { cls := 10, slots := #[.int (-37)], vm := .none },
  { cls := 10, slots := #[.int (-36)], vm := .none },
  { cls := 10, slots := #[.int (-35)], vm := .none },
  { cls := 10, slots := #[.int (-34)], vm := .none },
  { cls := 10, slots := #[.int (-33)], vm := .none },
  { cls := 10, slots := #[.int (-32)], vm := .none },
  { cls := 10, slots := #[.int (-31)], vm := .none },
  { cls := 10, slots := #[.int (-30)], vm := .none },
  { cls := 10, slots := #[.int (-29)], vm := .none },
  { cls := 10, slots := #[.int (-28)], vm := .none },
  { cls := 10, slots := #[.int (-27)], vm := .none },
  { cls := 10, slots := #[.int (-26)], vm := .none },
  { cls := 10, slots := #[.int (-25)], vm := .none },
  { cls := 10, slots := #[.int (-24)], vm := .none },
  { cls := 10, slots := #[.int (-23)], vm := .none },
  { cls := 10, slots := #[.int (-22)], vm := .none },
  { cls := 10, slots := #[.int (-21)], vm := .none },
  { cls := 10, slots := #[.int (-20)], vm := .none },
  { cls := 10, slots := #[.int (-19)], vm := .none },
  { cls := 10, slots := #[.int (-18)], vm := .none },
  { cls := 10, slots := #[.int (-17)], vm := .none },
  { cls := 10, slots := #[.int (-16)], vm := .none },
  { cls := 10, slots := #[.int (-15)], vm := .none },
  { cls := 10, slots := #[.int (-14)], vm := .none },
  { cls := 10, slots := #[.int (-13)], vm := .none },
  { cls := 10, slots := #[.int (-12)], vm := .none },
  { cls := 10, slots := #[.int (-11)], vm := .none },
  { cls := 10, slots := #[.int (-10)], vm := .none },
  { cls := 10, slots := #[.int (-9)], vm := .none },
  { cls := 10, slots := #[.int (-8)], vm := .none },
  { cls := 10, slots := #[.int (-7)], vm := .none },
  { cls := 10, slots := #[.int (-6)], vm := .none },
  { cls := 10, slots := #[.int (-5)], vm := .none },
  { cls := 10, slots := #[.int (-4)], vm := .none },
  { cls := 10, slots := #[.int (-3)], vm := .none },
  { cls := 10, slots := #[.int (-2)], vm := .none },
  { cls := 10, slots := #[.int (-1)], vm := .none },
  { cls := 10, slots := #[.int (0)], vm := .none },
  { cls := 10, slots := #[.int (1)], vm := .none },
  { cls := 10, slots := #[.int (2)], vm := .none },
  { cls := 10, slots := #[.int (3)], vm := .none },
  { cls := 10, slots := #[.int (4)], vm := .none },
  { cls := 10, slots := #[.int (5)], vm := .none },
  { cls := 10, slots := #[.int (6)], vm := .none },
  { cls := 10, slots := #[.int (7)], vm := .none },
  { cls := 10, slots := #[.int (8)], vm := .none },
  { cls := 10, slots := #[.int (9)], vm := .none },
  { cls := 10, slots := #[.int (10)], vm := .none },
  { cls := 10, slots := #[.int (11)], vm := .none },
  { cls := 10, slots := #[.int (12)], vm := .none },
  { cls := 10, slots := #[.int (13)], vm := .none },
  { cls := 10, slots := #[.int (14)], vm := .none },
  { cls := 10, slots := #[.int (15)], vm := .none },
  { cls := 10, slots := #[.int (16)], vm := .none },
  { cls := 10, slots := #[.int (17)], vm := .none },
  { cls := 10, slots := #[.int (18)], vm := .none },
  { cls := 10, slots := #[.int (19)], vm := .none },
  { cls := 10, slots := #[.int (20)], vm := .none },
  { cls := 10, slots := #[.int (21)], vm := .none },
  { cls := 10, slots := #[.int (22)], vm := .none },
  { cls := 10, slots := #[.int (23)], vm := .none },
  { cls := 10, slots := #[.int (24)], vm := .none },
  { cls := 10, slots := #[.int (25)], vm := .none },
  { cls := 10, slots := #[.int (26)], vm := .none },
  { cls := 10, slots := #[.int (27)], vm := .none },
  { cls := 10, slots := #[.int (28)], vm := .none },
  { cls := 10, slots := #[.int (29)], vm := .none },
  { cls := 10, slots := #[.int (30)], vm := .none },
  { cls := 10, slots := #[.int (31)], vm := .none },
  { cls := 10, slots := #[.int (32)], vm := .none },
  { cls := 10, slots := #[.int (33)], vm := .none },
  { cls := 10, slots := #[.int (34)], vm := .none },
  { cls := 10, slots := #[.int (35)], vm := .none },
  { cls := 10, slots := #[.int (36)], vm := .none },
  { cls := 10, slots := #[.int (37)], vm := .none },
  { cls := 10, slots := #[.int (38)], vm := .none },
  { cls := 10, slots := #[.int (39)], vm := .none },
  { cls := 10, slots := #[.int (40)], vm := .none },
  { cls := 10, slots := #[.int (41)], vm := .none },
  { cls := 10, slots := #[.int (42)], vm := .none },
  { cls := 10, slots := #[.int (43)], vm := .none },
  { cls := 10, slots := #[.int (44)], vm := .none },
  { cls := 10, slots := #[.int (45)], vm := .none },
  { cls := 10, slots := #[.int (46)], vm := .none },
  { cls := 10, slots := #[.int (47)], vm := .none },
  { cls := 10, slots := #[.int (48)], vm := .none },
  { cls := 10, slots := #[.int (49)], vm := .none },
  { cls := 10, slots := #[.int (50)], vm := .none },
  { cls := 10, slots := #[.int (51)], vm := .none },
  { cls := 10, slots := #[.int (52)], vm := .none },
  { cls := 10, slots := #[.int (53)], vm := .none },
  { cls := 10, slots := #[.int (54)], vm := .none },
  { cls := 10, slots := #[.int (55)], vm := .none },
  { cls := 10, slots := #[.int (56)], vm := .none },
  { cls := 10, slots := #[.int (57)], vm := .none },
  { cls := 10, slots := #[.int (58)], vm := .none },
  { cls := 10, slots := #[.int (59)], vm := .none },
  { cls := 10, slots := #[.int (60)], vm := .none },
  { cls := 10, slots := #[.int (61)], vm := .none },
  { cls := 10, slots := #[.int (62)], vm := .none },
  { cls := 10, slots := #[.int (63)], vm := .none },
  { cls := 10, slots := #[.int (64)], vm := .none },
  { cls := 10, slots := #[.int (65)], vm := .none },
  { cls := 10, slots := #[.int (66)], vm := .none },
  { cls := 10, slots := #[.int (67)], vm := .none },
  { cls := 10, slots := #[.int (68)], vm := .none },
  { cls := 10, slots := #[.int (69)], vm := .none },
  { cls := 10, slots := #[.int (70)], vm := .none },
  { cls := 10, slots := #[.int (71)], vm := .none },
  { cls := 10, slots := #[.int (72)], vm := .none },
  { cls := 10, slots := #[.int (73)], vm := .none },
  { cls := 10, slots := #[.int (74)], vm := .none },
  { cls := 10, slots := #[.int (75)], vm := .none },
  { cls := 10, slots := #[.int (76)], vm := .none },
  { cls := 10, slots := #[.int (77)], vm := .none },
  { cls := 10, slots := #[.int (78)], vm := .none },
  { cls := 10, slots := #[.int (79)], vm := .none },
  { cls := 10, slots := #[.int (80)], vm := .none },
  { cls := 10, slots := #[.int (81)], vm := .none },
  { cls := 10, slots := #[.int (82)], vm := .none },
  { cls := 10, slots := #[.int (83)], vm := .none },
  { cls := 10, slots := #[.int (84)], vm := .none },
  { cls := 10, slots := #[.int (85)], vm := .none },
  { cls := 10, slots := #[.int (86)], vm := .none },
  { cls := 10, slots := #[.int (87)], vm := .none },
  { cls := 10, slots := #[.int (88)], vm := .none },
  { cls := 10, slots := #[.int (89)], vm := .none },
  { cls := 10, slots := #[.int (90)], vm := .none },
  { cls := 10, slots := #[.int (91)], vm := .none },
  { cls := 10, slots := #[.int (92)], vm := .none },
  { cls := 10, slots := #[.int (93)], vm := .none },
  { cls := 10, slots := #[.int (94)], vm := .none },
  { cls := 10, slots := #[.int (95)], vm := .none },
  { cls := 10, slots := #[.int (96)], vm := .none },
  { cls := 10, slots := #[.int (97)], vm := .none },
  { cls := 10, slots := #[.int (98)], vm := .none },
  { cls := 10, slots := #[.int (99)], vm := .none },
  { cls := 10, slots := #[.int (100)], vm := .none },
  { cls := 10, slots := #[.int (101)], vm := .none },
  { cls := 10, slots := #[.int (102)], vm := .none },
  { cls := 10, slots := #[.int (103)], vm := .none },
  { cls := 10, slots := #[.int (104)], vm := .none },
  { cls := 10, slots := #[.int (105)], vm := .none },
  { cls := 10, slots := #[.int (106)], vm := .none },
  { cls := 10, slots := #[.int (107)], vm := .none },
  { cls := 10, slots := #[.int (108)], vm := .none },
  { cls := 10, slots := #[.int (109)], vm := .none },
  { cls := 10, slots := #[.int (110)], vm := .none },
  { cls := 10, slots := #[.int (111)], vm := .none },
  { cls := 10, slots := #[.int (112)], vm := .none },
  { cls := 10, slots := #[.int (113)], vm := .none },
  { cls := 10, slots := #[.int (114)], vm := .none },
  { cls := 10, slots := #[.int (115)], vm := .none },
  { cls := 10, slots := #[.int (116)], vm := .none },
  { cls := 10, slots := #[.int (117)], vm := .none },
  { cls := 10, slots := #[.int (118)], vm := .none },
  { cls := 10, slots := #[.int (119)], vm := .none },
  { cls := 10, slots := #[.int (120)], vm := .none },
  { cls := 10, slots := #[.int (121)], vm := .none },
  { cls := 10, slots := #[.int (122)], vm := .none },
  { cls := 10, slots := #[.int (123)], vm := .none },
  { cls := 10, slots := #[.int (124)], vm := .none },
  { cls := 10, slots := #[.int (125)], vm := .none },
  { cls := 10, slots := #[.int (126)], vm := .none },
  { cls := 10, slots := #[.int (127)], vm := .none }]
def classes : Array Class := #[k0, k1, k2, k3, k4, k5, k6, k7, k8, k9, k10, k11, k12, k13, k14, k15, k16, k17]
def interned : List (Array UInt16 × Addr) := []
def slotsUsed : Nat := 517
def theMethod : MethodId := ⟨1, 2⟩
def args0 : Array Value := #[.int 5, .int 5, .int 5, .int 5, .int 5]
def aboutOver (below : List Frame) : State where
  vm := { classes := classes, interned := interned.toArray }
  heap := heap
  slotsUsed := slotsUsed
  threads := #[{ frames := .invoking theMethod args0 :: below }]
def below0 : List Frame := [.native { method := ⟨0, 0⟩, args := #[] }]
def about1 : State := aboutOver below0
def p0 : Program := .bare "" "" ""
def e0 : Env := launch0.env 0 0 0
theorem w_frames : about1.frames = Frame.invoking theMethod args0 :: below0 := rfl
set_option maxRecDepth 65536 in
theorem w_args : argsFit about1.vm theMethod args0 = true := by decide +kernel
set_option maxRecDepth 65536 in
theorem w_heap : heapFits about1 = true := by decide +kernel
set_option maxRecDepth 65536 in
theorem w_runnable : about1.curStatus? = some .runnable := by decide +kernel
set_option maxRecDepth 65536 in
theorem w_alone : about1.alone = true := by decide +kernel
set_option maxRecDepth 65536 in
theorem w_named : about1.methodNamed? x = some theMethod := by decide +kernel
set_option maxRecDepth 65536 in
theorem w_hears : about1.hears theMethod below0 = true := by decide +kernel
set_option maxRecDepth 65536 in
theorem w_ripe : about1.ripe theMethod args0 below0 = true := by decide +kernel
theorem w_running : about1.status = .running := rfl
set_option maxRecDepth 65536 in
theorem w_room : about1.hasRoom e0.platform room_1 = true :=
  launch0.hasRoom_least _ room_1 (by decide +kernel) (by decide +kernel) (by decide +kernel) (by decide +kernel) (by decide +kernel) (by decide +kernel)
theorem allAtoms_all (ts : List Jvm.Cond) (a : Array Jvm.Value) (st : Jvm.State) : (allAtoms ts).before a st = ts.all (fun c => c.before a st) := by
  induction ts with
  | nil => rfl
  | cons c t ih =>
    show (Jvm.Cond.and c (allAtoms t)).before a st = _
    rw [Jvm.Cond.before_and, ih, List.all_cons]
def words1 : List Jvm.Cond := Jvm.Cond.code x code maxLocals ret :: tables_1
/-- a 'code' word, met by the world's own term for the bytes: nothing is compared byte by byte -/
theorem code_word {y : MethodName} {bytes : ByteArray} {mx : Nat} {rt : Option FieldType} {a : Array Value} {s : State} {m : MethodId} {meth : Method} {c : Code} (h1 : s.methodNamed? y = some m) (h2 : s.vm.method? m = some meth) (h3 : meth.code = some c) (h4 : c.code = bytes)
    (h5 : (c.maxLocals == mx && c.exceptionTable.isEmpty && decide (c.maxStack ≤ mostOperands) && decide (meth.sig.returnType = rt) && !meth.locks && decide (parseMethodDescriptor y.desc = some meth.sig)) = true) : (Jvm.Cond.code y bytes mx rt).before a s = true := by
  simp only [Bool.and_eq_true, beq_iff_eq, Bool.not_eq_true', decide_eq_true_eq] at h5
  obtain ⟨⟨⟨⟨⟨g1, g2⟩, g3⟩, g4⟩, g5⟩, g6⟩ := h5
  simp [Cond.before, Cond.holds, Cond.value, h1, h2, h3, h4, g1, g2, g3, g4, g5, g6]
def isCode : Jvm.Cond → Bool
  | .code _ _ _ _ => true
  | _ => false
theorem all_split {L : List Jvm.Cond} {P : Jvm.Cond → Bool} (h1 : L.all (fun c => isCode c || P c) = true) (h2 : ∀ c ∈ L.filter isCode, P c = true) : L.all P = true := by
  refine List.all_eq_true.mpr fun c hc => ?_
  have h := List.all_eq_true.mp h1 c hc
  rcases Bool.eq_false_or_eq_true (isCode c) with hi | hi
  · exact h2 c (List.mem_filter.mpr ⟨hc, hi⟩)
  · simpa [hi] using h
set_option maxRecDepth 65536 in
theorem w_c0 : (Jvm.Cond.code x code maxLocals ret).before args0 about1 = true := code_word (m := ⟨1, 2⟩) (meth := k1m2) (c := k1c2) (by decide +kernel) rfl rfl rfl (by decide +kernel)
set_option maxRecDepth 65536 in
theorem w_c1 : (Jvm.Cond.code ({ cls := "com/example/gaugefit/gaugefit/core/IntervalEqualsPinLaw", name := "time", desc := "(JZ)D" } : Jvm.MethodName) method_2_code (3 : Nat) (Option.some Jvm.ClassFile.FieldType.double)).before args0 about1 = true := code_word (m := ⟨1, 1⟩) (meth := k1m1) (c := k1c1) (by decide +kernel) rfl rfl rfl (by decide +kernel)
set_option maxRecDepth 65536 in
theorem w_c2 : (Jvm.Cond.code ({ cls := "com/example/gaugefit/gaugefit/core/Interval", name := "<init>", desc := "(DD)V" } : Jvm.MethodName) prog_9_method_1_code (5 : Nat) (Option.none : Option Jvm.ClassFile.FieldType)).before args0 about1 = true := code_word (m := ⟨2, 0⟩) (meth := k2m0) (c := k2c0) (by decide +kernel) rfl rfl rfl (by decide +kernel)
set_option maxRecDepth 65536 in
theorem w_c3 : (Jvm.Cond.code ({ cls := "java/lang/Object", name := "<init>", desc := "()V" } : Jvm.MethodName) object_method_1_code (1 : Nat) (Option.none : Option Jvm.ClassFile.FieldType)).before args0 about1 = true := code_word (m := ⟨0, 0⟩) (meth := k0m0) (c := k0c0) (by decide +kernel) rfl rfl rfl (by decide +kernel)
set_option maxRecDepth 65536 in
theorem w_c4 : (Jvm.Cond.code ({ cls := "java/lang/Double", name := "isFinite", desc := "(D)Z" } : Jvm.MethodName) jdk_117_method_8_code (2 : Nat) (Option.some Jvm.ClassFile.FieldType.boolean)).before args0 about1 = true := code_word (m := ⟨8, 1⟩) (meth := k8m1) (c := k8c1) (by decide +kernel) rfl rfl rfl (by decide +kernel)
set_option maxRecDepth 65536 in
theorem w_c5 : (Jvm.Cond.code ({ cls := "java/lang/Math", name := "abs", desc := "(D)D" } : Jvm.MethodName) jdk_29_method_64_code (2 : Nat) (Option.some Jvm.ClassFile.FieldType.double)).before args0 about1 = true := code_word (m := ⟨9, 1⟩) (meth := k9m1) (c := k9c1) (by decide +kernel) rfl rfl rfl (by decide +kernel)
set_option maxRecDepth 65536 in
theorem w_c6 : (Jvm.Cond.code ({ cls := "java/lang/Integer", name := "valueOf", desc := "(I)Ljava/lang/Integer;" } : Jvm.MethodName) jdk_33_method_22_code (1 : Nat) (Option.some (Jvm.ClassFile.FieldType.object "java/lang/Integer"))).before args0 about1 = true := code_word (m := ⟨10, 0⟩) (meth := k10m0) (c := k10c0) (by decide +kernel) rfl rfl rfl (by decide +kernel)
set_option maxRecDepth 65536 in
theorem w_c7 : (Jvm.Cond.code ({ cls := "com/example/gaugefit/gaugefit/core/Interval", name := "equals", desc := "(Ljava/lang/Object;)Z" } : Jvm.MethodName) prog_9_method_5_code (3 : Nat) (Option.some Jvm.ClassFile.FieldType.boolean)).before args0 about1 = true := code_word (m := ⟨2, 1⟩) (meth := k2m1) (c := k2c1) (by decide +kernel) rfl rfl rfl (by decide +kernel)
set_option maxRecDepth 65536 in
theorem w_c8 : (Jvm.Cond.code ({ cls := "java/lang/Double", name := "compare", desc := "(DD)I" } : Jvm.MethodName) jdk_117_method_27_code (8 : Nat) (Option.some Jvm.ClassFile.FieldType.int)).before args0 about1 = true := code_word (m := ⟨8, 4⟩) (meth := k8m4) (c := k8c4) (by decide +kernel) rfl rfl rfl (by decide +kernel)
set_option maxRecDepth 65536 in
theorem w_c9 : (Jvm.Cond.code ({ cls := "java/lang/Double", name := "doubleToLongBits", desc := "(D)J" } : Jvm.MethodName) jdk_117_method_23_code (2 : Nat) (Option.some Jvm.ClassFile.FieldType.long)).before args0 about1 = true := code_word (m := ⟨8, 2⟩) (meth := k8m2) (c := k8c2) (by decide +kernel) rfl rfl rfl (by decide +kernel)
set_option maxRecDepth 65536 in
theorem w_c10 : (Jvm.Cond.code ({ cls := "java/lang/Double", name := "isNaN", desc := "(D)Z" } : Jvm.MethodName) jdk_117_method_6_code (2 : Nat) (Option.some Jvm.ClassFile.FieldType.boolean)).before args0 about1 = true := code_word (m := ⟨8, 0⟩) (meth := k8m0) (c := k8c0) (by decide +kernel) rfl rfl rfl (by decide +kernel)
set_option maxRecDepth 65536 in
theorem w_c11 : (Jvm.Cond.code ({ cls := "java/lang/Integer", name := "<init>", desc := "(I)V" } : Jvm.MethodName) jdk_33_method_23_code (2 : Nat) (Option.none : Option Jvm.ClassFile.FieldType)).before args0 about1 = true := code_word (m := ⟨10, 1⟩) (meth := k10m1) (c := k10c1) (by decide +kernel) rfl rfl rfl (by decide +kernel)
set_option maxRecDepth 65536 in
theorem w_c12 : (Jvm.Cond.code ({ cls := "java/lang/Number", name := "<init>", desc := "()V" } : Jvm.MethodName) jdk_18_method_1_code (1 : Nat) (Option.none : Option Jvm.ClassFile.FieldType)).before args0 about1 = true := code_word (m := ⟨4, 0⟩) (meth := k4m0) (c := k4c0) (by decide +kernel) rfl rfl rfl (by decide +kernel)
def codes1 : List Jvm.Cond := [Jvm.Cond.code x code maxLocals ret, Jvm.Cond.code ({ cls := "com/example/gaugefit/gaugefit/core/IntervalEqualsPinLaw", name := "time", desc := "(JZ)D" } : Jvm.MethodName) method_2_code (3 : Nat) (Option.some Jvm.ClassFile.FieldType.double), Jvm.Cond.code ({ cls := "com/example/gaugefit/gaugefit/core/Interval", name := "<init>", desc := "(DD)V" } : Jvm.MethodName) prog_9_method_1_code (5 : Nat) (Option.none : Option Jvm.ClassFile.FieldType), Jvm.Cond.code ({ cls := "java/lang/Object", name := "<init>", desc := "()V" } : Jvm.MethodName) object_method_1_code (1 : Nat) (Option.none : Option Jvm.ClassFile.FieldType), Jvm.Cond.code ({ cls := "java/lang/Double", name := "isFinite", desc := "(D)Z" } : Jvm.MethodName) jdk_117_method_8_code (2 : Nat) (Option.some Jvm.ClassFile.FieldType.boolean), Jvm.Cond.code ({ cls := "java/lang/Math", name := "abs", desc := "(D)D" } : Jvm.MethodName) jdk_29_method_64_code (2 : Nat) (Option.some Jvm.ClassFile.FieldType.double), Jvm.Cond.code ({ cls := "java/lang/Integer", name := "valueOf", desc := "(I)Ljava/lang/Integer;" } : Jvm.MethodName) jdk_33_method_22_code (1 : Nat) (Option.some (Jvm.ClassFile.FieldType.object "java/lang/Integer")), Jvm.Cond.code ({ cls := "com/example/gaugefit/gaugefit/core/Interval", name := "equals", desc := "(Ljava/lang/Object;)Z" } : Jvm.MethodName) prog_9_method_5_code (3 : Nat) (Option.some Jvm.ClassFile.FieldType.boolean), Jvm.Cond.code ({ cls := "java/lang/Double", name := "compare", desc := "(DD)I" } : Jvm.MethodName) jdk_117_method_27_code (8 : Nat) (Option.some Jvm.ClassFile.FieldType.int), Jvm.Cond.code ({ cls := "java/lang/Double", name := "doubleToLongBits", desc := "(D)J" } : Jvm.MethodName) jdk_117_method_23_code (2 : Nat) (Option.some Jvm.ClassFile.FieldType.long), Jvm.Cond.code ({ cls := "java/lang/Double", name := "isNaN", desc := "(D)Z" } : Jvm.MethodName) jdk_117_method_6_code (2 : Nat) (Option.some Jvm.ClassFile.FieldType.boolean), Jvm.Cond.code ({ cls := "java/lang/Integer", name := "<init>", desc := "(I)V" } : Jvm.MethodName) jdk_33_method_23_code (2 : Nat) (Option.none : Option Jvm.ClassFile.FieldType), Jvm.Cond.code ({ cls := "java/lang/Number", name := "<init>", desc := "()V" } : Jvm.MethodName) jdk_18_method_1_code (1 : Nat) (Option.none : Option Jvm.ClassFile.FieldType)]
set_option maxRecDepth 65536 in
theorem codes_eq : words1.filter isCode = codes1 := rfl
theorem w_codes : ∀ c ∈ words1.filter isCode, c.before args0 about1 = true := by
  rw [codes_eq]
  intro c hc
  simp only [codes1, List.mem_cons, List.not_mem_nil, or_false] at hc
  rcases hc with rfl | rfl | rfl | rfl | rfl | rfl | rfl | rfl | rfl | rfl | rfl | rfl | rfl
  · exact w_c0
  · exact w_c1
  · exact w_c2
  · exact w_c3
  · exact w_c4
  · exact w_c5
  · exact w_c6
  · exact w_c7
  · exact w_c8
  · exact w_c9
  · exact w_c10
  · exact w_c11
  · exact w_c12
set_option maxRecDepth 65536 in
theorem w_t1 : (words1.take 24).all (fun c => isCode c || c.before args0 about1) = true := by decide +kernel
set_option maxRecDepth 65536 in
theorem w_t2 : ((words1.drop 24).take 24).all (fun c => isCode c || c.before args0 about1) = true := by decide +kernel
set_option maxRecDepth 65536 in
theorem w_t3 : ((words1.drop 24).drop 24).all (fun c => isCode c || c.before args0 about1) = true := by decide +kernel
theorem w_tables : (allAtoms (Jvm.Cond.code x code maxLocals ret :: tables_1)).before args0 about1 = true := by
  rw [allAtoms_all]
  show words1.all (fun c => c.before args0 about1) = true
  refine all_split ?_ w_codes
  rw [← List.take_append_drop 24 words1, List.all_append, w_t1, ← List.take_append_drop 24 (words1.drop 24), List.all_append, w_t2, w_t3]
  rfl
set_option maxRecDepth 65536 in
theorem w_rest : rest_1_c.before args0 about1 = true := by decide +kernel
set_option maxRecDepth 65536 in
theorem w_case : (Jvm.Cond.and given_1 narrow_1).before args0 about1 = true := by decide +kernel
theorem w_applies : (headSpec (Jvm.Cond.code x code maxLocals ret :: tables_1) room_1).applies x e0.platform about1 = true :=
  (Spec.applies_iff w_frames).mpr ⟨w_running, w_runnable, w_alone, w_named, w_hears, w_ripe, w_room, w_tables⟩
theorem atStart : AtStart classFile x code maxLocals ret World_1 tables_1 room_1 Calls_1 rest_1 Pre_1 launch0 p0 e0 about1 theMethod args0 below0 :=
  ⟨lists_1, trivial, launch0.admits_env _ _ _, launch0.least_env, fairChoices_fair.cas, fairChoices_fair.clock, w_frames, w_args, w_heap, w_applies, trivial, w_rest, w_case⟩
end start1
theorem witness_1 : WitnessClaimed_1 := ⟨start1.p0, start1.e0, start1.about1, start1.theMethod, start1.args0, start1.below0, start1.atStart⟩
end Jvm.Pilot.@@N@@
