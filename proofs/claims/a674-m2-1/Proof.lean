import JvmDerived
import JvmDerived.Pilot.@@N@@Statement
import JvmDerived.Pilot.@@N@@Code
set_option linter.unusedVariables false
set_option linter.unusedSimpArgs false
namespace Jvm.Pilot.@@N@@
open Jvm Jvm.ClassFile Sem Op Lib Jvm.Free Jvm.Stand Jvm.LawKit Jvm.RoadKit Bundle Jvm.Pilot.@@N@@.Jvm.D
section OwnKit
variable {p : Program} {l : Launch} {e : Env} {R : Room} {s : State} {m : MethodId} {args : Array Value} {below : List Frame} {meth : Method} {c : Code} {T : State} {locs : List Loc} {cells slots : Nat} {Z : State} {a0 : Array Value} {h h' : Heap}
/-- the run from t on comes to the method's end, and there Fin holds -/
def own_Run (p : Program) (e : Env) (below : List Frame) (Fin : Outcome → State → Prop) (t : State) : Prop :=
  ∃ s₂ o, Steps p.tables e below t s₂ ∧ s₂.status = .running ∧ Ended s₂ below o ∧ Fin o s₂
variable {Fin : Outcome → State → Prop}
theorem own_go {t t' : State} (st : ∀ target, Steps p.tables e below t' target → Steps p.tables e below t target) (k : own_Run p e below Fin t') : own_Run p e below Fin t := by
  obtain ⟨s₂, o, h1, h2⟩ := k
  exact ⟨s₂, o, st _ h1, h2⟩
def own_End (s : State) (R : Room) (Q : Option Value → Heap → List Loc → Prop) (o : Outcome) (U : State) : Prop :=
  ∃ v L, o = .returned v ∧ Q v U.heap L ∧ FrameEnd s o U L R.cells R.slots
/-- a body's contract: called with these arguments over the heap h0 it returns, and Q says what is left -/
def own_Met (l : Launch) (Z : State) (y : MethodName) (bytes : ByteArray) (maxL : Nat) (ret : Option FieldType) (rm : Room) (as : Array Value) (h0 : Heap) (Q : Option Value → Heap → List Loc → Prop) : Prop :=
  ∀ ws : List Jvm.Cond, MetFree l y (head1 (Jvm.Cond.code y bytes maxL ret :: ws) rm) (fun a U => a = as ∧ Z.Warmed39 U.vm ∧ U.heap = h0) (fun _ _ _ _ _ => True) (fun _ U o U' => own_End U rm Q o U')
theorem own_enter {y : MethodName} {bytes : ByteArray} {maxL : Nat} {ret : Option FieldType} {rm : Room} {as : Array Value} {h0 : Heap} {Q : Option Value → Heap → List Loc → Prop} {g0 : MethodId → JFrame} (hpl : plainFor y = true) (hg0 : ∀ m, entryFrame m as maxL = g0 m)
    (body : ∀ (p : Program) (e : Env) (s : State) (m : MethodId) (below : List Frame) (meth : Method) (c : Code) (T : State), p.tables.exec = Jvm.exec → c.code = bytes → c.maxLocals = maxL → s.vm.findClass y.cls = some m.cls → meth.name = y.name → Z.Warmed39 s.vm → meth.sig.returnType = ret → meth.locks = false →
      Stand p l e rm s m as below meth c T [] 0 0 → T.heap = h0 → own_Run p e below (own_End s rm Q) (T.setTop (g0 m))) : own_Met l Z y bytes maxL ret rm as h0 Q := by
  intro ws
  refine MetFree.of_bodySF hpl hisR ?_
  intro p e s m args below meth c s₁ Bd hml0 hP hK
  obtain ⟨rfl, hZ, hh⟩ := hP
  rw [hg0]
  exact body p e s m below meth c s₁ Bd.exec Bd.bytes hml0 (findClass_of_methodNamed Bd.named) (name_of_methodNamed Bd.named Bd.method).1 hZ Bd.returns Bd.notSynchronized (Stand.of_body Bd) (by rw [← hh, Bd.state]; rfl)
theorem own_ret (X : Stand p l e R s m args below meth c T locs cells slots) {g : JFrame} {v : Option Value} {Q : Option Value → Heap → List Loc → Prop} (hv : meth.sig.returnType = none → v = none) (hlk : meth.locks = false) (hc : cells ≤ R.cells) (hs : slots ≤ R.slots)
    (st : ∀ fs, (∀ (f : JFrame) (acts : List Action), f.method = m → f.locked = none → f.entered = [] → (doReturn e (T.setTop f) acts v).1 = T.setFrames fs) → Steps p.tables e below (T.setTop g) (T.setFrames fs)) (hq : Q v T.heap locs) : own_Run p e below (own_End s R Q) (T.setTop g) := by
  obtain ⟨fs, hr, hrun, hended, hW, hsame⟩ := X.leave (v := v) hv hlk
  exact ⟨_, _, st fs hr, hrun, hended, _, _, rfl, hq, ⟨_, rfl⟩, hW, hsame.mono hc hs⟩
theorem own_retN (X : Stand p l e R s m args below meth c T locs cells slots) (hx : p.tables.exec = Jvm.exec) {t : FieldType} (hret : meth.sig.returnType = some t) (hlk : meth.locks = false) (ht : t = .boolean ∨ t = .byte ∨ t = .char ∨ t = .short) {pc : Nat} {Ls : Array Slot} {z : Int32} {rest : List Value} (hd : decode c.code pc = .ok (.ireturn, 1)) {Q : Option Value → Heap → List Loc → Prop} (hc : cells ≤ R.cells) (hs : slots ≤ R.slots)
    (hq : Q (some (.int (nar t z))) T.heap locs) : own_Run p e below (own_End s R Q) (T.setTop (mkF m pc Ls (.int z :: rest))) :=
  own_ret X (fun q => by rw [hret] at q; cases q) hlk hc hs (fun fs hr => retN X hx hret ht hd hr) hq
theorem own_retI (X : Stand p l e R s m args below meth c T locs cells slots) (hx : p.tables.exec = Jvm.exec) (hret : meth.sig.returnType = some .int) (hlk : meth.locks = false) {pc : Nat} {Ls : Array Slot} {z : Int32} {rest : List Value} (hd : decode c.code pc = .ok (.ireturn, 1)) {Q : Option Value → Heap → List Loc → Prop} (hc : cells ≤ R.cells) (hs : slots ≤ R.slots)
    (hq : Q (some (.int z)) T.heap locs) : own_Run p e below (own_End s R Q) (T.setTop (mkF m pc Ls (.int z :: rest))) :=
  own_ret X (fun q => by rw [hret] at q; cases q) hlk hc hs (fun fs hr => retOut X hx hret rfl (Or.inl ⟨rfl, Or.inl rfl, z, rfl⟩) hd hr) hq
theorem own_retJ (X : Stand p l e R s m args below meth c T locs cells slots) (hx : p.tables.exec = Jvm.exec) (hret : meth.sig.returnType = some .long) (hlk : meth.locks = false) {pc : Nat} {Ls : Array Slot} {z : Int64} {rest : List Value} (hd : decode c.code pc = .ok (.lreturn, 1)) {Q : Option Value → Heap → List Loc → Prop} (hc : cells ≤ R.cells) (hs : slots ≤ R.slots)
    (hq : Q (some (.long z)) T.heap locs) : own_Run p e below (own_End s R Q) (T.setTop (mkF m pc Ls (.long z :: rest))) :=
  own_ret X (fun q => by rw [hret] at q; cases q) hlk hc hs (fun fs hr => retOut X hx hret rfl (Or.inr (Or.inl ⟨rfl, rfl, z, rfl⟩)) hd hr) hq
theorem own_retA (X : Stand p l e R s m args below meth c T locs cells slots) (hx : p.tables.exec = Jvm.exec) {t : FieldType} (hret : meth.sig.returnType = some t) (hlk : meth.locks = false) (ht : t.isReference = true) {pc : Nat} {Ls : Array Slot} {w : Value} (hw : w.isRef = true) {rest : List Value} (hn : narrow t w = w) (hd : decode c.code pc = .ok (.areturn, 1)) {Q : Option Value → Heap → List Loc → Prop} (hc : cells ≤ R.cells) (hs : slots ≤ R.slots)
    (hq : Q (some w) T.heap locs) : own_Run p e below (own_End s R Q) (T.setTop (mkF m pc Ls (w :: rest))) :=
  own_ret X (fun q => by rw [hret] at q; cases q) hlk hc hs (fun fs hr => retOut X hx hret hn (Or.inr (Or.inr (Or.inr (Or.inr ⟨rfl, ht, hw⟩)))) hd hr) hq
theorem own_retV (X : Stand p l e R s m args below meth c T locs cells slots) (hx : p.tables.exec = Jvm.exec) (hret : meth.sig.returnType = none) (hlk : meth.locks = false) {pc : Nat} {Ls : Array Slot} (hd : decode c.code pc = .ok (.return_, 1)) {Q : Option Value → Heap → List Loc → Prop} (hc : cells ≤ R.cells) (hs : slots ≤ R.slots)
    (hq : Q none T.heap locs) : own_Run p e below (own_End s R Q) (T.setTop (mkF m pc Ls [])) :=
  own_ret X (fun _ => rfl) hlk hc hs (fun fs hr => X.returnOut hx hret hd hr) hq
/-! calls -/
theorem own_callS (X : Stand p l e R s m args below meth c T locs cells slots) (hx : p.tables.exec = Jvm.exec) (hZ : Z.Warmed39 s.vm) (eT : T.heap = h) {own : String} (hown : s.vm.findClass own = some m.cls) {index : Nat} (y : MethodName) {bytes : ByteArray} {maxL : Nat} {ret : Option FieldType} {rm : Room} {Q : Option Value → Heap → List Loc → Prop}
    (w1 : (Jvm.Cond.methodLink own index y).before a0 Z = true) (w2 : (Jvm.Cond.static y).before a0 Z = true) (w3 : (Jvm.Cond.initialized y.cls).before a0 Z = true) (w4 : (Jvm.Cond.code y bytes maxL ret).before a0 Z = true) (hy : y.cls ≠ "java/lang/invoke/MethodHandle" ∧ y.cls ≠ "java/lang/invoke/VarHandle")
    (argsL rest : List Value) (hM : own_Met l Z y bytes maxL ret rm argsL.toArray h Q) (hf : rm.frames + 1 ≤ R.frames) (W : Nat) (hl : W + (maxL + 11) + rm.locals ≤ R.locals) (hc : cells + rm.cells ≤ R.cells) (hs : slots + rm.slots ≤ R.slots)
    {g : JFrame} (hg : g.method = m) (hsize : g.locals.size = c.maxLocals) (hlen : ∀ sig, parseMethodDescriptor y.desc = some sig → argsL.length = sig.parameters.length) (hstack : g.stack = argsL.reverse ++ rest) (hW : 2 * g.monitorRoom + (rest.map fun v => v.category).sum ≤ W) (hd : decode c.code g.pc = .ok (.invokestatic index, 3))
    (k : ∀ (v : Option Value) (h' : Heap) (L : List Loc) (T' : State), Q v h' L → Stand p l e R s m args below meth c T' (locs ++ L) (cells + rm.cells) (slots + rm.slots) → T'.heap = h' → own_Run p e below Fin (T'.setTop { g with pc := g.pc + 3, stack := v.toList ++ rest })) : own_Run p e below Fin (T.setTop g) := by
  obtain ⟨v, _, ⟨T', L', k', n'⟩, -, X', ⟨Lc, hQ, l1, y1, z1⟩, st⟩ := Jvm.LawKit.callS X hx (y := y) hown (mvT hZ w1) (mvT hZ w2) (mvT hZ w3) (mvT hZ w4) hy (backOf (W := W) (hM []) hZ w4 w3 hf hl) hg hsize (argsL := argsL) (rest := rest) hlen hstack hW hd (fun _ _ => ⟨rfl, eT, hc, hs⟩)
  dsimp only [Pt.U, Pt.locs, Pt.cells, Pt.slots] at X' l1 y1 z1 st hQ
  subst l1 y1 z1
  exact own_go st (k v T'.heap Lc T' hQ X' rfl)
theorem own_callN (X : Stand p l e R s m args below meth c T locs cells slots) (hx : p.tables.exec = Jvm.exec) (hZ : Z.Warmed39 s.vm) (eT : T.heap = h) {own : String} (hown : s.vm.findClass own = some m.cls) {index : Nat} (y : MethodName) (hy1 : y.name = "<init>") {bytes : ByteArray} {maxL : Nat} {rm : Room} {Q : Option Value → Heap → List Loc → Prop}
    (w1 : (Jvm.Cond.methodLink own index y).before a0 Z = true) (w2 : (Jvm.Cond.instanceMethod y).before a0 Z = true) (w3 : (Jvm.Cond.initialized y.cls).before a0 Z = true) (w4 : (Jvm.Cond.code y bytes maxL none).before a0 Z = true) (hy : y.cls ≠ "java/lang/invoke/MethodHandle" ∧ y.cls ≠ "java/lang/invoke/VarHandle")
    (a : Addr) (argsL rest : List Value) (hM : own_Met l Z y bytes maxL none rm (.ref a :: argsL).toArray h Q) (hf : rm.frames + 1 ≤ R.frames) (W : Nat) (hl : W + (maxL + 11) + rm.locals ≤ R.locals) (hc : cells + rm.cells ≤ R.cells) (hs : slots + rm.slots ≤ R.slots)
    {g : JFrame} (hg : g.method = m) (hsize : g.locals.size = c.maxLocals) (hlen : ∀ sig, parseMethodDescriptor y.desc = some sig → argsL.length = sig.parameters.length) (hstack : g.stack = argsL.reverse ++ .ref a :: rest) (hW : 2 * g.monitorRoom + (rest.map fun v => v.category).sum ≤ W) (hd : decode c.code g.pc = .ok (.invokespecial index, 3))
    (k : ∀ (v : Option Value) (h' : Heap) (L : List Loc) (T' : State), Q v h' L → Stand p l e R s m args below meth c T' (locs ++ L) (cells + rm.cells) (slots + rm.slots) → T'.heap = h' → own_Run p e below Fin (T'.setTop { g with pc := g.pc + 3, stack := v.toList ++ rest })) : own_Run p e below Fin (T.setTop g) := by
  obtain ⟨v, _, ⟨T', L', k', n'⟩, -, X', ⟨Lc, hQ, l1, y1, z1⟩, st⟩ := X.specialBack hx (y := y) hy1 hown (mvT hZ w1) (mvT hZ w2) (mvT hZ w4) hy (backOf (W := W) (hM []) hZ w4 w3 hf hl) hg hsize (Steps.refl _) (a := a) (argsL := argsL) (rest := rest) hlen hstack hW hd (fun _ _ => ⟨rfl, eT, hc, hs⟩)
  dsimp only [Pt.U, Pt.locs, Pt.cells, Pt.slots] at X' l1 y1 z1 st hQ
  subst l1 y1 z1
  exact own_go (fun _ q => st.trans q) (k v T'.heap Lc T' hQ X' rfl)
theorem own_callV (X : Stand p l e R s m args below meth c T locs cells slots) (hx : p.tables.exec = Jvm.exec) (hZ : Z.Warmed39 s.vm) (eT : T.heap = h) {own : String} (hown : s.vm.findClass own = some m.cls) {index : Nat} (y : MethodName) {C : String} {bytes : ByteArray} {maxL : Nat} {ret : Option FieldType} {rm : Room} {Q : Option Value → Heap → List Loc → Prop}
    (w1 : (Jvm.Cond.methodLink own index y).before a0 Z = true) (w5 : (Jvm.Cond.declares y).before a0 Z = true) (w6 : (Jvm.Cond.selects C y y).before a0 Z = true) (w2 : (Jvm.Cond.instanceMethod y).before a0 Z = true) (w3 : (Jvm.Cond.initialized y.cls).before a0 Z = true) (w4 : (Jvm.Cond.code y bytes maxL ret).before a0 Z = true) (hy : y.cls ≠ "java/lang/invoke/MethodHandle" ∧ y.cls ≠ "java/lang/invoke/VarHandle")
    (a : Addr) (E : Exa Z h a C) (argsL rest : List Value) (hM : own_Met l Z y bytes maxL ret rm (.ref a :: argsL).toArray h Q) (hf : rm.frames + 1 ≤ R.frames) (W : Nat) (hl : W + (maxL + 11) + rm.locals ≤ R.locals) (hc : cells + rm.cells ≤ R.cells) (hs : slots + rm.slots ≤ R.slots)
    {g : JFrame} (hg : g.method = m) (hsize : g.locals.size = c.maxLocals) (hlen : ∀ sig, parseMethodDescriptor y.desc = some sig → argsL.length = sig.parameters.length) (hstack : g.stack = argsL.reverse ++ .ref a :: rest) (hW : 2 * g.monitorRoom + (rest.map fun v => v.category).sum ≤ W) (hd : decode c.code g.pc = .ok (.invokevirtual index, 3))
    (k : ∀ (v : Option Value) (h' : Heap) (L : List Loc) (T' : State), Q v h' L → Stand p l e R s m args below meth c T' (locs ++ L) (cells + rm.cells) (slots + rm.slots) → T'.heap = h' → own_Run p e below Fin (T'.setTop { g with pc := g.pc + 3, stack := v.toList ++ rest })) : own_Run p e below Fin (T.setTop g) := by
  obtain ⟨cq, kq, qa, qb, qc⟩ := isOf hZ eT E
  obtain ⟨v, _, ⟨T', L', k', n'⟩, -, X', ⟨Lc, hQ, l1, y1, z1⟩, st⟩ := X.virtualBack hx (y := y) (z := y) hown (mvT hZ w1) (mvT hZ w5) (notFace_of_selects (args := #[]) (mvT hZ w6)) (mvT hZ w6) (mvT hZ w2) hy (backOf (W := W) (hM []) hZ w4 w3 hf hl) qa qc hg hsize (Steps.refl _) (argsL := argsL) (rest := rest) hlen hstack hW hd (fun _ _ => ⟨rfl, eT, hc, hs⟩)
  dsimp only [Pt.U, Pt.locs, Pt.cells, Pt.slots] at X' l1 y1 z1 st hQ
  subst l1 y1 z1
  exact own_go (fun _ q => st.trans q) (k v T'.heap Lc T' hQ X' rfl)
theorem own_initO (X : Stand p l e R s m args below meth c T locs cells slots) (hx : p.tables.exec = Jvm.exec) (hZ : Z.Warmed39 s.vm) (eT : T.heap = h) {own : String} (hown : s.vm.findClass own = some m.cls) {idx : Nat} (w1 : (Jvm.Cond.methodLink own idx Lib.objectInit).before a0 Z = true) (w2 : (Jvm.Cond.instanceMethod Lib.objectInit).before a0 Z = true)
    (w3 : (Jvm.Cond.code Lib.objectInit object_method_1_code 1 none).before a0 Z = true) {g : JFrame} (hg : g.method = m) (hsize : g.locals.size = c.maxLocals) {a : Addr} {rest : List Value} (hs : g.stack = .ref a :: rest) (hd : decode c.code g.pc = .ok (.invokespecial idx, 3))
    (hf : 1 ≤ R.frames) (W : Nat) (hW : 2 * g.monitorRoom + (rest.map fun v => v.category).sum ≤ W) (hl : W + 12 ≤ R.locals)
    (k : ∀ T' : State, Stand p l e R s m args below meth c T' locs cells slots → T'.heap = h → own_Run p e below Fin (T'.setTop { g with pc := g.pc + 3, stack := rest })) : own_Run p e below Fin (T.setTop g) := by
  obtain ⟨T', X', e', st⟩ := initO X hx hZ hown w1 w2 w3 eT hg hsize hs hd hf hW hl
  exact own_go st (k T' X' e')
/-! fields -/
theorem own_getF (X : Stand p l e R s m args below meth c T locs cells slots) (hx : p.tables.exec = Jvm.exec) (hZ : Z.Warmed39 s.vm) (eT : T.heap = h) {own O n d : String} (hown : s.vm.findClass own = some m.cls) {index : Nat} (w : (Jvm.Cond.fieldLink own index O n d).before a0 Z = true)
    {a : Addr} {v : Value} (F : Fld Z h a O n d v) {g : JFrame} (hg : g.method = m) {rest : List Value} (hs : g.stack = .ref a :: rest) (hd : decode c.code g.pc = .ok (.getfield index, 3))
    (k : ∀ T' : State, Stand p l e R s m args below meth c T' locs cells slots → T'.heap = h → own_Run p e below Fin (T'.setTop { g with pc := g.pc + 3, stack := v :: rest })) : own_Run p e below Fin (T.setTop g) := by
  obtain ⟨T', X', e', st⟩ := getF X hx hZ hown (host := "") (Or.inl w) Via.refl eT F hg hs hd
  exact own_go st (k T' X' e')
theorem own_putF (X : Stand p l e R s m args below meth c T locs cells slots) (hx : p.tables.exec = Jvm.exec) (hZ : Z.Warmed39 s.vm) (eT : T.heap = h) {own O n d C : String} (hown : s.vm.findClass own = some m.cls) {index kk : Nat} (ty : FieldType) (w : (Jvm.Cond.fieldLink own index O n d).before a0 Z = true)
    {a : Addr} {v v' old : Value} (F : Fld Z h a O n d old) (E : Exa Z h a C) (L : (Jvm.Cond.lays C O n d).before a0 Z = true ∨ ((Jvm.Cond.laysFinal C O n d).before a0 Z = true ∧ own = O ∧ meth.name = "<init>")) (wi : (Jvm.Cond.instantiable C kk).before a0 Z = true)
    (hty : parseFieldDescriptor d = some ty) (hn : narrow ty v = v') (hf : fits ty v' = true) {g : JFrame} (hg : g.method = m) {rest : List Value} (hs : g.stack = v :: .ref a :: rest) (hd : decode c.code g.pc = .ok (.putfield index, 3))
    (k : ∀ (T' : State) (h' : Heap), Stand p l e R s m args below meth c T' (locs ++ [⟨a, Jvm.RoadKit.slotOf Z O n d⟩]) cells slots → T'.heap = h' → Wr h h' a (Jvm.RoadKit.slotOf Z O n d) v' → own_Run p e below Fin (T'.setTop { g with pc := g.pc + 3, stack := rest })) : own_Run p e below Fin (T.setTop g) := by
  obtain ⟨T', h', X', e', W, st⟩ := putFN X hx hZ hown w Via.refl eT F E L wi hty hn hf hg hs hd
  exact own_go st (k T' h' X' e' W)
/-! fresh objects -/
theorem own_newO (X : Stand p l e R s m args below meth c T locs cells slots) (hx : p.tables.exec = Jvm.exec) (hZ : Z.Warmed39 s.vm) (eT : T.heap = h) {own C : String} {index n : Nat} (hown : s.vm.findClass own = some m.cls) (w : (Jvm.Cond.classLink own index C).before a0 Z = true) (wi : (Jvm.Cond.instantiable C n).before a0 Z = true) (wz : (Jvm.Cond.initialized C).before a0 Z = true)
    {g : JFrame} (hg : g.method = m) (hd : decode c.code g.pc = .ok (.new index, 3)) (hc : cells + 1 ≤ R.cells) (hl : slots + n ≤ R.slots)
    (k : ∀ (b : Addr) (T' : State) (h' : Heap), b = h.size → Stand p l e R s m args below meth c T' locs (cells + 1) (slots + n) → T'.heap = h' → Ext h h' → Exa Z h' b C → (∀ {O nm d : String} {ty : FieldType}, Laid Z a0 C O nm d → parseFieldDescriptor d = some ty → Fld Z h' b O nm d (defaultValue ty)) →
      own_Run p e below Fin (T'.setTop { g with pc := g.pc + 3, stack := .ref b :: g.stack })) : own_Run p e below Fin (T.setTop g) := by
  obtain ⟨T', h', X', e', E, A, D, -, st⟩ := newO X hx hZ hown w wi wz eT hg hd hc hl
  exact own_go st (k h.size T' h' rfl X' e' E A D)
/-! arrays: n places, place k holds f k -/
def own_Arr (Z : State) (h : Heap) (a : Addr) (ty : FieldType) (n : Nat) (f : Nat → Value) : Prop := ∃ cl : Cell, Arr Z h a cl ty ∧ cl.slots.size = n ∧ ∀ k, k < n → cl.slots[k]? = some (f k)
theorem own_Arr.lt {a : Addr} {ty : FieldType} {n : Nat} {f : Nat → Value} (F : own_Arr Z h a ty n f) : a < h.size := by obtain ⟨c, A, -⟩ := F; exact A.lt
theorem own_Arr.ext {a : Addr} {ty : FieldType} {n : Nat} {f : Nat → Value} (F : own_Arr Z h a ty n f) (E : Ext h h') : own_Arr Z h' a ty n f := by obtain ⟨c, A, r⟩ := F; exact ⟨c, A.ext E, r⟩
theorem own_Arr.other {a b : Addr} {sl : Nat} {v : Value} {ty : FieldType} {n : Nat} {f : Nat → Value} (F : own_Arr Z h b ty n f) (W : Wr h h' a sl v) (q : b ≠ a) : own_Arr Z h' b ty n f := by obtain ⟨c, A, r⟩ := F; exact ⟨c, A.other W q, r⟩
theorem own_Arr.keep {a : Addr} {ws : List Addr} {ty : FieldType} {n : Nat} {f : Nat → Value} (F : own_Arr Z h a ty n f) (K : Keep h h' ws) (q : a ∉ ws) : own_Arr Z h' a ty n f := by obtain ⟨c, A, r⟩ := F; exact ⟨c, ⟨K.2.1 a c A.1 q, A.2⟩, r⟩
theorem own_Arr.set {a : Addr} {j : Nat} {v : Value} {ty : FieldType} {n : Nat} {f : Nat → Value} (F : own_Arr Z h a ty n f) (W : Wr h h' a j v) (hj : j < n) : own_Arr Z h' a ty n (fun k => if k = j then v else f k) := by
  obtain ⟨cl, A, r1, r2⟩ := F
  refine ⟨_, A.same W, by rw [sz_set]; exact r1, fun k hk => ?_⟩
  by_cases q : k = j
  · subst q; simp [Cell.setSlot, r1, hj]
  · show (cl.setSlot j v).slots[k]? = some (if k = j then v else f k)
    rw [if_neg q]; exact (Array.getElem?_setIfInBounds_ne (Ne.symm q)).trans (r2 k hk)
theorem own_Arr.congr {a : Addr} {ty : FieldType} {n : Nat} {f f' : Nat → Value} (F : own_Arr Z h a ty n f) (q : ∀ k, k < n → f k = f' k) : own_Arr Z h a ty n f' := by
  obtain ⟨cl, A, r1, r2⟩ := F
  exact ⟨cl, A, r1, fun k hk => by rw [← q k hk]; exact r2 k hk⟩
theorem own_in {cl : Cell} {n : Nat} {j : Int32} (r : cl.slots.size = n) (hj : 0 ≤ j.toInt ∧ j.toInt < n) : ¬ (j < 0 ∨ cl.slots.size ≤ j.toNatClampNeg) := by
  have e0 : (0 : Int32).toInt = 0 := rfl
  simp only [Int32.lt_iff_toInt_lt, Int32.toNatClampNeg, r, e0]; omega
theorem own_idx {n : Nat} {j : Int32} (hj : 0 ≤ j.toInt ∧ j.toInt < n) : j.toNatClampNeg < n := by
  simp only [Int32.toNatClampNeg]; omega
theorem own_newP (X : Stand p l e R s m args below meth c T locs cells slots) (hx : p.tables.exec = Jvm.exec) (hZ : Z.Warmed39 s.vm) (eT : T.heap = h) {aty : ArrayType} (w : (Jvm.Cond.arrayClass (newarray.typeOf aty)).before a0 Z = true) {g : JFrame} (hg : g.method = m) (hd : decode c.code g.pc = .ok (.newarray aty, 2)) {z : Int32} {rest : List Value} (hs : g.stack = .int z :: rest)
    (n cap : Nat) (hn : z.toInt = n) (hcap : n ≤ cap) (hb : cap * 8 ≤ 536870912) (hc : cells + 1 ≤ R.cells) (hl : slots + cap ≤ R.slots) (ad : String) (had : "[" ++ (newarray.typeOf aty).toString = ad)
    (k : ∀ (b : Addr) (T' : State) (h' : Heap), b = h.size → Stand p l e R s m args below meth c T' locs (cells + 1) (slots + cap) → T'.heap = h' → Ext h h' → own_Arr Z h' b (newarray.typeOf aty) n (fun _ => defaultValue (newarray.typeOf aty)) → Exa Z h' b ad →
      own_Run p e below Fin (T'.setTop { g with pc := g.pc + 2, stack := .ref b :: rest })) : own_Run p e below Fin (T.setTop g) := by
  have hz : z.toNatClampNeg = n := by simp only [Int32.toNatClampNeg]; omega
  have e0 : (0 : Int32).toInt = 0 := rfl
  have hz0 : ¬ z < 0 := by rw [Int32.lt_iff_toInt_lt, e0]; omega
  obtain ⟨T', h', cA, X', e', E, A, Ex, st⟩ := newPE X hx hZ w eT hg hd hs (n := z) hz0 (cap := cap) (by omega) hb hc hl had
  exact own_go st (k h.size T' h' rfl X' e' E ⟨_, A, by rw [sz_new]; exact hz, fun i hi => by simp [newA, hz, hi]⟩ Ex)
theorem own_iastore (X : Stand p l e R s m args below meth c T locs cells slots) (hx : p.tables.exec = Jvm.exec) (hZ : Z.Warmed39 s.vm) (eT : T.heap = h) {a : Addr} {n : Nat} {f : Nat → Value} (A : own_Arr Z h a .int n f) {j x : Int32} (hj : 0 ≤ j.toInt ∧ j.toInt < n) {g : JFrame} (hg : g.method = m) {rest : List Value} (hs : g.stack = .int x :: .int j :: .ref a :: rest) (hd : decode c.code g.pc = .ok (.iastore, 1))
    (k : ∀ (T' : State) (h' : Heap), Stand p l e R s m args below meth c T' (locs ++ [⟨a, j.toNatClampNeg⟩]) cells slots → T'.heap = h' → Wr h h' a j.toNatClampNeg (.int x) → own_Arr Z h' a .int n (fun i => if i = j.toNatClampNeg then .int x else f i) → own_Run p e below Fin (T'.setTop { g with pc := g.pc + 1, stack := rest })) : own_Run p e below Fin (T.setTop g) := by
  obtain ⟨cl, A1, r1, r2⟩ := A
  obtain ⟨T', h', X', e', W, st⟩ := stI X hx hZ eT A1 (own_in r1 hj) hg hs hd
  exact own_go st (k T' h' X' e' W (own_Arr.set ⟨cl, A1, r1, r2⟩ W (own_idx hj)))
theorem own_bastore (X : Stand p l e R s m args below meth c T locs cells slots) (hx : p.tables.exec = Jvm.exec) (hZ : Z.Warmed39 s.vm) (eT : T.heap = h) {a : Addr} {n : Nat} {f : Nat → Value} (A : own_Arr Z h a .byte n f) {j x : Int32} (hj : 0 ≤ j.toInt ∧ j.toInt < n) {g : JFrame} (hg : g.method = m) {rest : List Value} (hs : g.stack = .int x :: .int j :: .ref a :: rest) (hd : decode c.code g.pc = .ok (.bastore, 1))
    (k : ∀ (T' : State) (h' : Heap), Stand p l e R s m args below meth c T' (locs ++ [⟨a, j.toNatClampNeg⟩]) cells slots → T'.heap = h' → Wr h h' a j.toNatClampNeg (.int (nar .byte x)) → own_Arr Z h' a .byte n (fun i => if i = j.toNatClampNeg then .int (nar .byte x) else f i) → own_Run p e below Fin (T'.setTop { g with pc := g.pc + 1, stack := rest })) : own_Run p e below Fin (T.setTop g) := by
  obtain ⟨cl, A1, r1, r2⟩ := A
  obtain ⟨T', h', X', e', W, st⟩ := stB X hx hZ eT A1 (own_in r1 hj) hg hs hd
  exact own_go st (k T' h' X' e' W (own_Arr.set ⟨cl, A1, r1, r2⟩ W (own_idx hj)))
theorem own_iaload (X : Stand p l e R s m args below meth c T locs cells slots) (hx : p.tables.exec = Jvm.exec) (hZ : Z.Warmed39 s.vm) (eT : T.heap = h) {a : Addr} {n : Nat} {f : Nat → Value} (A : own_Arr Z h a .int n f) {j : Int32} (v : Int32) (hj : 0 ≤ j.toInt ∧ j.toInt < n) (hv : f j.toNatClampNeg = .int v) {g : JFrame} (hg : g.method = m) {rest : List Value} (hs : g.stack = .int j :: .ref a :: rest) (hd : decode c.code g.pc = .ok (.iaload, 1))
    (k : own_Run p e below Fin (T.setTop { g with pc := g.pc + 1, stack := .int v :: rest })) : own_Run p e below Fin (T.setTop g) := by
  obtain ⟨cl, A1, r1, r2⟩ := A
  exact own_go (X.iaload hx (by rw [eT]; exact A1.1) (State.isArrayOf_alike hZ.alike A1.2.1) A1.2.2 (own_in r1 hj) ((r2 _ (own_idx hj)).trans (by rw [hv])) hg hs hd) k
theorem own_baload (X : Stand p l e R s m args below meth c T locs cells slots) (hx : p.tables.exec = Jvm.exec) (hZ : Z.Warmed39 s.vm) (eT : T.heap = h) {a : Addr} {n : Nat} {f : Nat → Value} (A : own_Arr Z h a .byte n f) {j : Int32} (v : Int32) (hj : 0 ≤ j.toInt ∧ j.toInt < n) (hv : f j.toNatClampNeg = .int v) {g : JFrame} (hg : g.method = m) {rest : List Value} (hs : g.stack = .int j :: .ref a :: rest) (hd : decode c.code g.pc = .ok (.baload, 1))
    (k : own_Run p e below Fin (T.setTop { g with pc := g.pc + 1, stack := .int v :: rest })) : own_Run p e below Fin (T.setTop g) := by
  obtain ⟨cl, A1, r1, r2⟩ := A
  exact own_go (X.baloadBytes hx (by rw [eT]; exact A1.1) (State.isArrayOf_alike hZ.alike A1.2.1) A1.2.2 (own_in r1 hj) ((r2 _ (own_idx hj)).trans (by rw [hv])) hg hs hd) k
theorem own_alen (X : Stand p l e R s m args below meth c T locs cells slots) (hx : p.tables.exec = Jvm.exec) (hZ : Z.Warmed39 s.vm) (eT : T.heap = h) {a : Addr} {ty : FieldType} {n : Nat} {f : Nat → Value} (A : own_Arr Z h a ty n f) (z : Int32) (hz : z.toInt = n) {g : JFrame} (hg : g.method = m) {rest : List Value} (hs : g.stack = .ref a :: rest) (hd : decode c.code g.pc = .ok (.arraylength, 1))
    (k : own_Run p e below Fin (T.setTop { g with pc := g.pc + 1, stack := .int z :: rest })) : own_Run p e below Fin (T.setTop g) := by
  obtain ⟨cl, A1, r1, r2⟩ := A
  have e0 : (0 : Int32).toInt = 0 := rfl
  have hz0 : ¬ z < 0 := by rw [Int32.lt_iff_toInt_lt, e0]; omega
  have q : cl.slots.size.toInt32 = z := len_of (by rw [r1]; simp only [Int32.toNatClampNeg]; omega) hz0
  exact own_go (X.arraylength hx (by rw [eT]; exact A1.1) (State.isArrayOf_alike hZ.alike A1.2.1) hg hs hd) (by rw [q]; exact k)
theorem own_clone (X : Stand p l e R s m args below meth c T locs cells slots) (hx : p.tables.exec = Jvm.exec) (hZ : Z.Warmed39 s.vm) (eT : T.heap = h) {own ad : String} {index : Nat} (hown : s.vm.findClass own = some m.cls)
    (w1 : (Jvm.Cond.methodLink own index ⟨ad, "clone", "()Ljava/lang/Object;"⟩).before a0 Z = true) (w2 : (Jvm.Cond.sameMethod ad "java/lang/Object" "clone" "()Ljava/lang/Object;").before a0 Z = true) (w3 : (Jvm.Cond.native ⟨"java/lang/Object", "clone", "()Ljava/lang/Object;"⟩).before a0 Z = true)
    (w4 : (Jvm.Cond.instanceMethod ⟨"java/lang/Object", "clone", "()Ljava/lang/Object;"⟩).before a0 Z = true) (w5 : (Jvm.Cond.selects ad ⟨ad, "clone", "()Ljava/lang/Object;"⟩ ⟨"java/lang/Object", "clone", "()Ljava/lang/Object;"⟩).before a0 Z = true) (w6 : (Jvm.Cond.castable ad "java/lang/Cloneable").before a0 Z = true)
    {a : Addr} {ty : FieldType} {n : Nat} {f : Nat → Value} (A : own_Arr Z h a ty n f) (E : Exa Z h a ad) (hfit : ∀ i, i < n → fits ty (f i) = true) {g : JFrame} (hg : g.method = m) (hsize : g.locals.size = c.maxLocals) {rest : List Value} (hs : g.stack = .ref a :: rest) (hd : decode c.code g.pc = .ok (.invokevirtual index, 3))
    (hf : 1 ≤ R.frames) (W cap : Nat) (hW : 2 * g.monitorRoom + (rest.map fun v => v.category).sum ≤ W) (hl : W + 14 ≤ R.locals) (hcap : n ≤ cap) (hc : cells + 1 ≤ R.cells) (hsl : slots + cap ≤ R.slots)
    (k : ∀ (b : Addr) (T' : State) (h' : Heap), b = h.size → Stand p l e R s m args below meth c T' locs (cells + 1) (slots + cap) → T'.heap = h' → Ext h h' → own_Arr Z h' b ty n f → Exa Z h' b ad → own_Run p e below Fin (T'.setTop { g with pc := g.pc + 3, stack := .ref b :: rest })) : own_Run p e below Fin (T.setTop g) := by
  obtain ⟨cl, A1, r1, r2⟩ := A
  have FC : FitC Z cl := fitC_of A1 fun i hi v hv => by
    rw [r2 i (by omega)] at hv; cases hv; exact hfit i (by omega)
  obtain ⟨T', h', X', e', ex, A', E', st⟩ := cloneA X hx hZ hown w1 w2 w3 w4 w5 w6 eT A1 E FC hg hsize hs hd hf hW hl (by omega) hc hsl
  exact own_go st (k h.size T' h' rfl X' e' ex ⟨cloneOf cl, A', r1, r2⟩ E')
theorem own_cast (X : Stand p l e R s m args below meth c T locs cells slots) (hx : p.tables.exec = Jvm.exec) (hZ : Z.Warmed39 s.vm) (eT : T.heap = h) {own K C : String} {index : Nat} (hown : s.vm.findClass own = some m.cls) (w : (Jvm.Cond.classLink own index K).before a0 Z = true) {a : Addr} (E : Exa Z h a C) (w2 : (Jvm.Cond.castable C K).before a0 Z = true)
    {g : JFrame} (hg : g.method = m) {rest : List Value} (hs : g.stack = .ref a :: rest) (hd : decode c.code g.pc = .ok (.checkcast index, 3))
    (k : ∀ T' : State, Stand p l e R s m args below meth c T' locs cells slots → T'.heap = h → own_Run p e below Fin (T'.setTop { g with pc := g.pc + 3 })) : own_Run p e below Fin (T.setTop g) := by
  obtain ⟨T', X', e', st⟩ := castY X hx hZ hown w eT (Ins.of_exa E w2) hg hs hd
  exact own_go st (k T' X' e')
/-! constants -/
theorem own_ldc (X : Stand p l e R s m args below meth c T locs cells slots) (hx : p.tables.exec = Jvm.exec) (hZ : Z.Warmed39 s.vm) {own : String} {index : Nat} {v : Int32} (hown : s.vm.findClass own = some m.cls) (w : (Jvm.Cond.constant own index v).before a0 Z = true) {g : JFrame} (hg : g.method = m) (hd : decode c.code g.pc = .ok (.ldc index, 2))
    (k : own_Run p e below Fin (T.setTop { g with pc := g.pc + 2, stack := .int v :: g.stack })) : own_Run p e below Fin (T.setTop g) := own_go (X.ldcInt hx hown (mvT hZ w) hg hd) k
theorem own_ldc2 (X : Stand p l e R s m args below meth c T locs cells slots) (hx : p.tables.exec = Jvm.exec) (hZ : Z.Warmed39 s.vm) {own : String} {index : Nat} {v : Int64} (hown : s.vm.findClass own = some m.cls) (w : (Jvm.Cond.constantLong own index v).before a0 Z = true) {g : JFrame} (hg : g.method = m) (hd : decode c.code g.pc = .ok (.ldc2_w index, 3))
    (k : own_Run p e below Fin (T.setTop { g with pc := g.pc + 3, stack := .long v :: g.stack })) : own_Run p e below Fin (T.setTop g) := own_go (X.ldc2Long hx hown (mvT hZ w) hg hd) k
theorem own_inj {x y : Int32} (q : x.toInt = y.toInt) : x = y := Int32.toInt_inj.mp q
theorem own_injL {x y : Int64} (q : x.toInt = y.toInt) : x = y := Int64.toInt_inj.mp q
end OwnKit
section OwnKitW
variable {p : Program} {l : Launch} {e : Env} {R : Room} {s : State} {m : MethodId} {args : Array Value} {below : List Frame} {meth : Method} {c : Code} {T : State} {locs : List Loc} {cells slots : Nat} {Z : State} {a0 : Array Value} {h h' : Heap} {Fin : Outcome → State → Prop}
/-! bodies that may load a String constant: the wide frame -/
def own_EndW (s : State) (R : Room) (Q : Option Value → Heap → List Loc → Prop) (o : Outcome) (U : State) : Prop :=
  ∃ v L, o = .returned v ∧ Q v U.heap L ∧ ReturnedEndW s o U L R.cells R.slots
def own_MetW (l : Launch) (Z : State) (y : MethodName) (bytes : ByteArray) (maxL : Nat) (ret : Option FieldType) (rm : Room) (as : Array Value) (h0 : Heap) (Q : Option Value → Heap → List Loc → Prop) : Prop :=
  ∀ ws : List Jvm.Cond, MetFree l y (head1 (Jvm.Cond.code y bytes maxL ret :: ws) rm) (fun a U => a = as ∧ Z.Warmed39 U.vm ∧ U.heap = h0) (fun _ _ _ _ _ => True) (fun _ U o U' => own_EndW U rm Q o U')
theorem own_enterW {y : MethodName} {bytes : ByteArray} {maxL : Nat} {ret : Option FieldType} {rm : Room} {as : Array Value} {h0 : Heap} {Q : Option Value → Heap → List Loc → Prop} {g0 : MethodId → JFrame} (hpl : plainFor y = true) (hg0 : ∀ m, entryFrame m as maxL = g0 m)
    (body : ∀ (p : Program) (e : Env) (s : State) (m : MethodId) (below : List Frame) (meth : Method) (c : Code) (T : State), p.tables.exec = Jvm.exec → c.code = bytes → c.maxLocals = maxL → s.vm.findClass y.cls = some m.cls → meth.name = y.name → Z.Warmed39 s.vm → meth.sig.returnType = ret → meth.locks = false →
      Stand p l e rm s m as below meth c T [] 0 0 → T.heap = h0 → own_Run p e below (own_EndW s rm Q) (T.setTop (g0 m))) : own_MetW l Z y bytes maxL ret rm as h0 Q := by
  intro ws
  refine MetFree.of_bodySF hpl hisR ?_
  intro p e s m args below meth c s₁ Bd hml0 hP hK
  obtain ⟨rfl, hZ, hh⟩ := hP
  rw [hg0]
  exact body p e s m below meth c s₁ Bd.exec Bd.bytes hml0 (findClass_of_methodNamed Bd.named) (name_of_methodNamed Bd.named Bd.method).1 hZ Bd.returns Bd.notSynchronized (Stand.of_body Bd) (by rw [← hh, Bd.state]; rfl)
theorem own_moreW {t : State} {o : Outcome} {L : List Loc} {k n k' n' : Nat} (q : ReturnedEndW s o t L k n) (hk : k ≤ k') (hn : n ≤ n') : ReturnedEndW s o t L k' n' := ⟨q.1, q.2.1, q.2.2.1, q.2.2.2.mono hk hn⟩
theorem own_retW {vm₁ : Vm} (X : Stand p l e R (s.setVm vm₁) m args below meth c T locs cells slots) (eT : T.heap = h) {n : Nat} (hS : s.Since vm₁ n) (hk : n ≤ h.size) {g : JFrame} {v : Option Value} {Q : Option Value → Heap → List Loc → Prop} (hv : meth.sig.returnType = none → v = none) (hlk : meth.locks = false) (hc : cells ≤ R.cells) (hs : slots ≤ R.slots)
    (st : ∀ fs, (∀ (f : JFrame) (acts : List Action), f.method = m → f.locked = none → f.entered = [] → (doReturn e (T.setTop f) acts v).1 = T.setFrames fs) → Steps p.tables e below (T.setTop g) (T.setFrames fs)) (hq : Q v T.heap locs) : own_Run p e below (own_EndW s R Q) (T.setTop g) := by
  obtain ⟨fs, hr, hrun, hended, hE⟩ := X.leaveW hS (by rw [eT]; exact hk) (v := v) hv hlk
  exact ⟨_, _, st fs hr, hrun, hended, _, _, rfl, hq, own_moreW hE hc hs⟩
theorem own_retNW {vm₁ : Vm} (X : Stand p l e R (s.setVm vm₁) m args below meth c T locs cells slots) (eT : T.heap = h) {n : Nat} (hS : s.Since vm₁ n) (hk : n ≤ h.size) (hx : p.tables.exec = Jvm.exec) {t : FieldType} (hret : meth.sig.returnType = some t) (hlk : meth.locks = false) (ht : t = .boolean ∨ t = .byte ∨ t = .char ∨ t = .short) {pc : Nat} {Ls : Array Slot} {z : Int32} {rest : List Value} (hd : decode c.code pc = .ok (.ireturn, 1)) {Q : Option Value → Heap → List Loc → Prop} (hc : cells ≤ R.cells) (hs : slots ≤ R.slots)
    (hq : Q (some (.int (nar t z))) T.heap locs) : own_Run p e below (own_EndW s R Q) (T.setTop (mkF m pc Ls (.int z :: rest))) :=
  own_retW X eT hS hk (fun q => by rw [hret] at q; cases q) hlk hc hs (fun fs hr => retN X hx hret ht hd hr) hq
theorem own_retAW {vm₁ : Vm} (X : Stand p l e R (s.setVm vm₁) m args below meth c T locs cells slots) (eT : T.heap = h) {n : Nat} (hS : s.Since vm₁ n) (hk : n ≤ h.size) (hx : p.tables.exec = Jvm.exec) {t : FieldType} (hret : meth.sig.returnType = some t) (hlk : meth.locks = false) (ht : t.isReference = true) {pc : Nat} {Ls : Array Slot} {w : Value} (hw : w.isRef = true) {rest : List Value} (hn : narrow t w = w) (hd : decode c.code pc = .ok (.areturn, 1)) {Q : Option Value → Heap → List Loc → Prop} (hc : cells ≤ R.cells) (hs : slots ≤ R.slots)
    (hq : Q (some w) T.heap locs) : own_Run p e below (own_EndW s R Q) (T.setTop (mkF m pc Ls (w :: rest))) :=
  own_retW X eT hS hk (fun q => by rw [hret] at q; cases q) hlk hc hs (fun fs hr => retOut X hx hret hn (Or.inr (Or.inr (Or.inr (Or.inr ⟨rfl, ht, hw⟩)))) hd hr) hq
theorem own_ldcS {vm0 : Vm} (X : Stand p l e R (s.setVm vm0) m args below meth c T locs cells slots) (hx : p.tables.exec = Jvm.exec) (hZ : Z.Warmed39 vm0) (eT : T.heap = h) {own text : String} {index : Nat} (hown : vm0.findClass own = some m.cls) (w : (Jvm.Cond.stringLink own index text).before a0 Z = true) (wS : ∀ a ∈ Bundle.stringAtoms, a.before a0 Z = true)
    {k0 : Nat} (hS : s.Since vm0 k0) (hk : k0 ≤ h.size) {g : JFrame} (hg : g.method = m) (hd : decode c.code g.pc = .ok (.ldc index, 2)) (n : Nat) (hn : 4 * text.toList.length ≤ n) (hbig : n ≤ 536870912) (hc : cells + 2 ≤ R.cells) (hl : slots + (n + 4) ≤ R.slots)
    (k : ∀ (a : Addr) (T' : State) (h' : Heap) (k1 : Nat), Stand p l e R (s.setVm T'.vm) m args below meth c T' locs (cells + 2) (slots + (n + 4)) → T'.heap = h' → Ext h h' → s.Since T'.vm k1 → k1 ≤ h'.size → Z.Warmed39 (s.setVm T'.vm).vm → (s.setVm T'.vm).vm.findClass own = some m.cls →
      own_Run p e below Fin (T'.setTop { g with pc := g.pc + 2, stack := .ref a :: g.stack })) : own_Run p e below Fin (T.setTop g) := by
  obtain ⟨a, T', h', k1, X', e', E, hS', hk', hZ', hown', st⟩ := Jvm.RoadKit.ldcS X hx hZ hown w wS eT hS hk hg hd hn hbig hc hl
  exact own_go st (k a T' h' k1 X' e' E hS' hk' hZ' hown')
theorem own_callSW (X : Stand p l e R s m args below meth c T locs cells slots) (hx : p.tables.exec = Jvm.exec) (hZ : Z.Warmed39 s.vm) (eT : T.heap = h) {own : String} (hown : s.vm.findClass own = some m.cls) {index : Nat} (y : MethodName) {bytes : ByteArray} {maxL : Nat} {ret : Option FieldType} {rm : Room} {Q : Option Value → Heap → List Loc → Prop}
    (w1 : (Jvm.Cond.methodLink own index y).before a0 Z = true) (w2 : (Jvm.Cond.static y).before a0 Z = true) (w3 : (Jvm.Cond.initialized y.cls).before a0 Z = true) (w4 : (Jvm.Cond.code y bytes maxL ret).before a0 Z = true) (hy : y.cls ≠ "java/lang/invoke/MethodHandle" ∧ y.cls ≠ "java/lang/invoke/VarHandle")
    (argsL rest : List Value) (hM : own_MetW l Z y bytes maxL ret rm argsL.toArray h Q) (hf : rm.frames + 1 ≤ R.frames) (W : Nat) (hl : W + (maxL + 11) + rm.locals ≤ R.locals) (hc : cells + rm.cells ≤ R.cells) (hs : slots + rm.slots ≤ R.slots)
    {g : JFrame} (hg : g.method = m) (hsize : g.locals.size = c.maxLocals) (hlen : ∀ sig, parseMethodDescriptor y.desc = some sig → argsL.length = sig.parameters.length) (hstack : g.stack = argsL.reverse ++ rest) (hW : 2 * g.monitorRoom + (rest.map fun v => v.category).sum ≤ W) (hd : decode c.code g.pc = .ok (.invokestatic index, 3))
    (k : ∀ (v : Option Value) (h' : Heap) (L : List Loc) (T' : State), Q v h' L → Stand p l e R (s.setVm T'.vm) m args below meth c T' (locs ++ L) (cells + rm.cells) (slots + rm.slots) → T'.heap = h' → s.Since T'.vm h'.size → Z.Warmed39 (s.setVm T'.vm).vm → (s.setVm T'.vm).vm.findClass own = some m.cls →
      own_Run p e below Fin (T'.setTop { g with pc := g.pc + 3, stack := v.toList ++ rest })) : own_Run p e below Fin (T.setTop g) := by
  obtain ⟨v, _, ⟨T', L', k', n'⟩, -, X', hS, -, ⟨Lc, hQ, l1, y1, z1⟩, st⟩ := callSS X hx (y := y) hown (mvT hZ w1) (mvT hZ w2) (mvT hZ w3) (mvT hZ w4) hy (backOfS (W := W) (hM []) hZ w4 w3 hf hl) hg hsize (argsL := argsL) (rest := rest) hlen hstack hW hd (fun _ _ => ⟨rfl, eT, hc, hs⟩)
  dsimp only [Pt.U, Pt.locs, Pt.cells, Pt.slots] at X' l1 y1 z1 st hQ hS
  subst l1 y1 z1
  exact own_go (fun _ q => st.trans q) (k v T'.heap Lc T' hQ X' rfl hS (State.Warmed39.trans (t := s) hZ hS.1) (by rw [show (s.setVm T'.vm).vm = T'.vm from rfl, hS.1.alike.findClass]; exact hown))
end OwnKitW
theorem own_narb (y : Int32) : nar .byte y.toInt8.toInt32 = y.toInt8.toInt32 := by
  show (y.toInt8.toInt32).toInt8.toInt32 = y.toInt8.toInt32
  rw [Int8.toInt8_toInt32]
theorem own_strs {Z : State} {a0 : Array Value} (hw : ∀ d ∈ tables_1, d.before a0 Z = true) : ∀ a ∈ Bundle.stringAtoms, a.before a0 Z = true := fun a ha => by
  simp only [Bundle.stringAtoms, List.mem_cons, List.not_mem_nil, or_false] at ha
  rcases ha with rfl | rfl | rfl | rfl | rfl | rfl | rfl
  · exact hw _ (List.mem_of_getElem? (i := 8) rfl)
  · exact hw _ (List.mem_of_getElem? (i := 9) rfl)
  · exact hw _ (List.mem_of_getElem? (i := 0) rfl)
  · exact hw _ (List.mem_of_getElem? (i := 10) rfl)
  · exact hw _ (List.mem_of_getElem? (i := 11) rfl)
  · exact hw _ (List.mem_of_getElem? (i := 12) rfl)
  · exact hw _ (List.mem_of_getElem? (i := 13) rfl)
theorem d0_0 : decode jdk_31_method_11_code 0 = .ok (.aload_n 0, 1) := by decide +kernel
theorem d0_1 : decode jdk_31_method_11_code 1 = .ok (.ifnonnull 12, 3) := by decide +kernel
theorem d0_13 : decode jdk_31_method_11_code 13 = .ok (.aload_n 0, 1) := by decide +kernel
theorem d0_14 : decode jdk_31_method_11_code 14 = .ok (.areturn, 1) := by decide +kernel
abbrev Q_rnn (Z : State) (r : Addr) (w : Addr) (h0 : Heap) : Option Value → Heap → List Loc → Prop := fun v h L => v = some (.ref r) ∧ h0 = h ∧ L = []
set_option maxRecDepth 65536 in
set_option maxHeartbeats 40000000 in
theorem rm_rnn (l : Launch) (Z : State) (a0 : Array Value) (hw : ∀ d ∈ tables_1, d.before a0 Z = true) (r : Addr) (w : Addr) (h0 : Heap)  :
    own_Met l Z (⟨"java/util/Objects", "requireNonNull", "(Ljava/lang/Object;Ljava/lang/String;)Ljava/lang/Object;"⟩ : MethodName) jdk_31_method_11_code 2 (some (.object "java/lang/Object")) ({ frames := 0, cells := 0, slots := 0, locals := 0 } : Room) #[(.ref r), (.ref w)] h0 (Q_rnn Z r w h0) := by
  refine own_enter (g0 := fun m => (mkF m 0 #[.val (.ref r), .val (.ref w)] [])) (plainFor_of_name (by first | (simp [plainName, overriddenIn]; done) | decide +kernel)) (fun m => by first | (simp [entryFrame, mkF, argsToLocals, Value.category]; done) | rfl) ?_
  intro p e s m below meth c T hx hby hml hown hnm hZ hret hlk X e0
  replace hown : s.vm.findClass "java/util/Objects" = some m.cls := hown
  show own_Run p e below _ (T.setTop (mkF m 0 #[.val (.ref r), .val (.ref w)] []))
  refine own_go (fun _ kS => XS.aloadN X.here hx rfl (hb hby d0_0) rfl rfl kS) ?_
  show own_Run p e below _ (T.setTop (mkF m 1 #[.val (.ref r), .val (.ref w)] [(.ref r)]))
  refine own_go (fun _ kS => XS.ifnonnullYes X.here hx rfl (pc0 := 1) (pc' := 13) rfl (hb hby d0_1) rfl (by decide) (by decide) kS) ?_
  show own_Run p e below _ (T.setTop (mkF m 13 #[.val (.ref r), .val (.ref w)] []))
  refine own_go (fun _ kS => XS.aloadN X.here hx rfl (hb hby d0_13) rfl rfl kS) ?_
  show own_Run p e below _ (T.setTop (mkF m 14 #[.val (.ref r), .val (.ref w)] [(.ref r)]))
  refine own_retA X hx hret hlk rfl rfl rfl (hb hby d0_14) (by decide) (by decide) ?_
  exact ⟨rfl, e0.symm, rfl⟩
theorem d1_0 : decode prog_8_method_1_code 0 = .ok (.aload_n 0, 1) := by decide +kernel
theorem d1_1 : decode prog_8_method_1_code 1 = .ok (.invokespecial 1, 3) := by decide +kernel
theorem d1_4 : decode prog_8_method_1_code 4 = .ok (.aload_n 0, 1) := by decide +kernel
theorem d1_5 : decode prog_8_method_1_code 5 = .ok (.lload_n 1, 1) := by decide +kernel
theorem d1_6 : decode prog_8_method_1_code 6 = .ok (.putfield 7, 3) := by decide +kernel
theorem d1_9 : decode prog_8_method_1_code 9 = .ok (.aload_n 0, 1) := by decide +kernel
theorem d1_10 : decode prog_8_method_1_code 10 = .ok (.aload_n 3, 1) := by decide +kernel
theorem d1_11 : decode prog_8_method_1_code 11 = .ok (.putfield 13, 3) := by decide +kernel
theorem d1_14 : decode prog_8_method_1_code 14 = .ok (.aload_n 0, 1) := by decide +kernel
theorem d1_15 : decode prog_8_method_1_code 15 = .ok (.iload 4, 2) := by decide +kernel
theorem d1_17 : decode prog_8_method_1_code 17 = .ok (.putfield 17, 3) := by decide +kernel
theorem d1_20 : decode prog_8_method_1_code 20 = .ok (.aload_n 0, 1) := by decide +kernel
theorem d1_21 : decode prog_8_method_1_code 21 = .ok (.lload 5, 2) := by decide +kernel
theorem d1_23 : decode prog_8_method_1_code 23 = .ok (.putfield 21, 3) := by decide +kernel
theorem d1_26 : decode prog_8_method_1_code 26 = .ok (.aload_n 0, 1) := by decide +kernel
theorem d1_27 : decode prog_8_method_1_code 27 = .ok (.iload 7, 2) := by decide +kernel
theorem d1_29 : decode prog_8_method_1_code 29 = .ok (.putfield 24, 3) := by decide +kernel
theorem d1_32 : decode prog_8_method_1_code 32 = .ok (.return_, 1) := by decide +kernel
abbrev Q_init (Z : State) (a : Addr) (q1 : Int64) (pb : Addr) (p2 : Int32) (q3 : Int64) (p4 : Int32) (n0 : Nat) (h0 : Heap) : Option Value → Heap → List Loc → Prop := fun v h L => v = none ∧ Fr n0 L ∧ Keep h0 h [a] ∧ Exa Z h a "com/example/narrow_gate/narrowgate/Item" ∧ Fld Z h a "com/example/narrow_gate/narrowgate/Item" "id" "J" (.long q1) ∧ Fld Z h a "com/example/narrow_gate/narrowgate/Item" "payload" "[B" (.ref pb) ∧ Fld Z h a "com/example/narrow_gate/narrowgate/Item" "payloadParts" "I" (.int p2) ∧ Fld Z h a "com/example/narrow_gate/narrowgate/Item" "fencingToken" "J" (.long q3) ∧ Fld Z h a "com/example/narrow_gate/narrowgate/Item" "attempt" "I" (.int p4)
set_option maxRecDepth 65536 in
set_option maxHeartbeats 40000000 in
theorem rm_init (l : Launch) (Z : State) (a0 : Array Value) (hw : ∀ d ∈ tables_1, d.before a0 Z = true) (a : Addr) (q1 : Int64) (pb : Addr) (p2 : Int32) (q3 : Int64) (p4 : Int32) (n0 : Nat) (h0 : Heap) (Z0 : n0 ≤ h0.size) (E_a : Exa Z h0 a "com/example/narrow_gate/narrowgate/Item") (g_a : n0 ≤ a) (F_id : Fld Z h0 a "com/example/narrow_gate/narrowgate/Item" "id" "J" (.long (0 : Int64))) (F_payload : Fld Z h0 a "com/example/narrow_gate/narrowgate/Item" "payload" "[B" .null) (F_payloadParts : Fld Z h0 a "com/example/narrow_gate/narrowgate/Item" "payloadParts" "I" (.int (0 : Int32))) (F_fencingToken : Fld Z h0 a "com/example/narrow_gate/narrowgate/Item" "fencingToken" "J" (.long (0 : Int64))) (F_attempt : Fld Z h0 a "com/example/narrow_gate/narrowgate/Item" "attempt" "I" (.int (0 : Int32))) :
    own_Met l Z (⟨"com/example/narrow_gate/narrowgate/Item", "<init>", "(J[BIJI)V"⟩ : MethodName) prog_8_method_1_code 8 none ({ frames := 1, cells := 0, slots := 0, locals := 12 } : Room) #[(.ref a), (.long q1), (.ref pb), (.int p2), (.long q3), (.int p4)] h0 (Q_init Z a q1 pb p2 q3 p4 n0 h0) := by
  refine own_enter (g0 := fun m => (mkF m 0 #[.val (.ref a), .val (.long q1), .second, .val (.ref pb), .val (.int p2), .val (.long q3), .second, .val (.int p4)] [])) (plainFor_of_name (by first | (simp [plainName, overriddenIn]; done) | decide +kernel)) (fun m => by first | (simp [entryFrame, mkF, argsToLocals, Value.category]; done) | rfl) ?_
  intro p e s m below meth c T hx hby hml hown hnm hZ hret hlk X e0
  replace hown : s.vm.findClass "com/example/narrow_gate/narrowgate/Item" = some m.cls := hown
  have N := Fr.nil n0
  have hz := Z0
  have K := Keep.refl h0 [a]
  show own_Run p e below _ (T.setTop (mkF m 0 #[.val (.ref a), .val (.long q1), .second, .val (.ref pb), .val (.int p2), .val (.long q3), .second, .val (.int p4)] []))
  refine own_go (fun _ kS => XS.aloadN X.here hx rfl (hb hby d1_0) rfl rfl kS) ?_
  show own_Run p e below _ (T.setTop (mkF m 1 #[.val (.ref a), .val (.long q1), .second, .val (.ref pb), .val (.int p2), .val (.long q3), .second, .val (.int p4)] [(.ref a)]))
  refine own_initO X hx hZ e0 hown (hw _ (List.mem_of_getElem? (i := 23) rfl)) (hw _ (List.mem_of_getElem? (i := 24) rfl)) (hw _ (List.mem_of_getElem? (i := 25) rfl)) rfl (by rw [hml]; rfl) rfl (hb hby d1_1) (by decide) 0 (by show 2 * 0 + _ ≤ _; exact Nat.le_of_eq rfl) (by decide) (fun T1 X1 e1 => ?_)
  show own_Run p e below _ (T1.setTop (mkF m 4 #[.val (.ref a), .val (.long q1), .second, .val (.ref pb), .val (.int p2), .val (.long q3), .second, .val (.int p4)] []))
  refine own_go (fun _ kS => XS.aloadN X1.here hx rfl (hb hby d1_4) rfl rfl kS) ?_
  show own_Run p e below _ (T1.setTop (mkF m 5 #[.val (.ref a), .val (.long q1), .second, .val (.ref pb), .val (.int p2), .val (.long q3), .second, .val (.int p4)] [(.ref a)]))
  refine own_go (fun _ kS => XS.lloadN X1.here hx rfl (hb hby d1_5) rfl kS) ?_
  show own_Run p e below _ (T1.setTop (mkF m 6 #[.val (.ref a), .val (.long q1), .second, .val (.ref pb), .val (.int p2), .val (.long q3), .second, .val (.int p4)] [(.long q1), (.ref a)]))
  refine own_putF X1 hx hZ e1 hown .long (hw _ (List.mem_of_getElem? (i := 26) rfl)) F_id E_a (Or.inr ⟨(hw _ (List.mem_of_getElem? (i := 27) rfl)), rfl, hnm⟩) (hw _ (List.mem_of_getElem? (i := 6) rfl)) (v' := (.long q1)) (by decide) rfl rfl rfl rfl (hb hby d1_6) (fun T2 h2 X2 e2 W2 => ?_)
  replace E_a := E_a.wr W2
  replace F_id := F_id.same W2
  replace F_payload := F_payload.other W2 (Or.inr (slot_ne (Or.inr (hw _ (List.mem_of_getElem? (i := 29) rfl))) (Or.inr (hw _ (List.mem_of_getElem? (i := 27) rfl))) (by decide) (t := (.array .byte)) (t' := .long) (by decide) (by decide)))
  replace F_payloadParts := F_payloadParts.other W2 (Or.inr (slot_ne (Or.inr (hw _ (List.mem_of_getElem? (i := 31) rfl))) (Or.inr (hw _ (List.mem_of_getElem? (i := 27) rfl))) (by decide) (t := .int) (t' := .long) (by decide) (by decide)))
  replace F_fencingToken := F_fencingToken.other W2 (Or.inr (slot_ne (Or.inr (hw _ (List.mem_of_getElem? (i := 33) rfl))) (Or.inr (hw _ (List.mem_of_getElem? (i := 27) rfl))) (by decide) (t := .long) (t' := .long) (by decide) (by decide)))
  replace F_attempt := F_attempt.other W2 (Or.inr (slot_ne (Or.inr (hw _ (List.mem_of_getElem? (i := 35) rfl))) (Or.inr (hw _ (List.mem_of_getElem? (i := 27) rfl))) (by decide) (t := .int) (t' := .long) (by decide) (by decide)))
  replace hz := Nat.le_trans hz (Nat.le_of_eq W2.size.symm)
  replace N := Fr.snoc X2 N g_a
  replace K := K.wr W2 (Or.inl (List.mem_of_getElem? (i := 0) rfl))
  show own_Run p e below _ (T2.setTop (mkF m 9 #[.val (.ref a), .val (.long q1), .second, .val (.ref pb), .val (.int p2), .val (.long q3), .second, .val (.int p4)] []))
  refine own_go (fun _ kS => XS.aloadN X2.here hx rfl (hb hby d1_9) rfl rfl kS) ?_
  show own_Run p e below _ (T2.setTop (mkF m 10 #[.val (.ref a), .val (.long q1), .second, .val (.ref pb), .val (.int p2), .val (.long q3), .second, .val (.int p4)] [(.ref a)]))
  refine own_go (fun _ kS => XS.aloadN X2.here hx rfl (hb hby d1_10) rfl rfl kS) ?_
  show own_Run p e below _ (T2.setTop (mkF m 11 #[.val (.ref a), .val (.long q1), .second, .val (.ref pb), .val (.int p2), .val (.long q3), .second, .val (.int p4)] [(.ref pb), (.ref a)]))
  refine own_putF X2 hx hZ e2 hown (.array .byte) (hw _ (List.mem_of_getElem? (i := 28) rfl)) F_payload E_a (Or.inr ⟨(hw _ (List.mem_of_getElem? (i := 29) rfl)), rfl, hnm⟩) (hw _ (List.mem_of_getElem? (i := 6) rfl)) (v' := (.ref pb)) (by decide) rfl rfl rfl rfl (hb hby d1_11) (fun T3 h3 X3 e3 W3 => ?_)
  replace E_a := E_a.wr W3
  replace F_id := F_id.other W3 (Or.inr (slot_ne (Or.inr (hw _ (List.mem_of_getElem? (i := 27) rfl))) (Or.inr (hw _ (List.mem_of_getElem? (i := 29) rfl))) (by decide) (t := .long) (t' := (.array .byte)) (by decide) (by decide)))
  replace F_payload := F_payload.same W3
  replace F_payloadParts := F_payloadParts.other W3 (Or.inr (slot_ne (Or.inr (hw _ (List.mem_of_getElem? (i := 31) rfl))) (Or.inr (hw _ (List.mem_of_getElem? (i := 29) rfl))) (by decide) (t := .int) (t' := (.array .byte)) (by decide) (by decide)))
  replace F_fencingToken := F_fencingToken.other W3 (Or.inr (slot_ne (Or.inr (hw _ (List.mem_of_getElem? (i := 33) rfl))) (Or.inr (hw _ (List.mem_of_getElem? (i := 29) rfl))) (by decide) (t := .long) (t' := (.array .byte)) (by decide) (by decide)))
  replace F_attempt := F_attempt.other W3 (Or.inr (slot_ne (Or.inr (hw _ (List.mem_of_getElem? (i := 35) rfl))) (Or.inr (hw _ (List.mem_of_getElem? (i := 29) rfl))) (by decide) (t := .int) (t' := (.array .byte)) (by decide) (by decide)))
  replace hz := Nat.le_trans hz (Nat.le_of_eq W3.size.symm)
  replace N := Fr.snoc X3 N g_a
  replace K := K.wr W3 (Or.inl (List.mem_of_getElem? (i := 0) rfl))
  show own_Run p e below _ (T3.setTop (mkF m 14 #[.val (.ref a), .val (.long q1), .second, .val (.ref pb), .val (.int p2), .val (.long q3), .second, .val (.int p4)] []))
  refine own_go (fun _ kS => XS.aloadN X3.here hx rfl (hb hby d1_14) rfl rfl kS) ?_
  show own_Run p e below _ (T3.setTop (mkF m 15 #[.val (.ref a), .val (.long q1), .second, .val (.ref pb), .val (.int p2), .val (.long q3), .second, .val (.int p4)] [(.ref a)]))
  refine own_go (fun _ kS => XS.iload X3.here hx rfl (hb hby d1_15) rfl kS) ?_
  show own_Run p e below _ (T3.setTop (mkF m 17 #[.val (.ref a), .val (.long q1), .second, .val (.ref pb), .val (.int p2), .val (.long q3), .second, .val (.int p4)] [(.int p2), (.ref a)]))
  refine own_putF X3 hx hZ e3 hown .int (hw _ (List.mem_of_getElem? (i := 30) rfl)) F_payloadParts E_a (Or.inr ⟨(hw _ (List.mem_of_getElem? (i := 31) rfl)), rfl, hnm⟩) (hw _ (List.mem_of_getElem? (i := 6) rfl)) (v' := (.int p2)) (by decide) rfl rfl rfl rfl (hb hby d1_17) (fun T4 h4 X4 e4 W4 => ?_)
  replace E_a := E_a.wr W4
  replace F_id := F_id.other W4 (Or.inr (slot_ne (Or.inr (hw _ (List.mem_of_getElem? (i := 27) rfl))) (Or.inr (hw _ (List.mem_of_getElem? (i := 31) rfl))) (by decide) (t := .long) (t' := .int) (by decide) (by decide)))
  replace F_payload := F_payload.other W4 (Or.inr (slot_ne (Or.inr (hw _ (List.mem_of_getElem? (i := 29) rfl))) (Or.inr (hw _ (List.mem_of_getElem? (i := 31) rfl))) (by decide) (t := (.array .byte)) (t' := .int) (by decide) (by decide)))
  replace F_payloadParts := F_payloadParts.same W4
  replace F_fencingToken := F_fencingToken.other W4 (Or.inr (slot_ne (Or.inr (hw _ (List.mem_of_getElem? (i := 33) rfl))) (Or.inr (hw _ (List.mem_of_getElem? (i := 31) rfl))) (by decide) (t := .long) (t' := .int) (by decide) (by decide)))
  replace F_attempt := F_attempt.other W4 (Or.inr (slot_ne (Or.inr (hw _ (List.mem_of_getElem? (i := 35) rfl))) (Or.inr (hw _ (List.mem_of_getElem? (i := 31) rfl))) (by decide) (t := .int) (t' := .int) (by decide) (by decide)))
  replace hz := Nat.le_trans hz (Nat.le_of_eq W4.size.symm)
  replace N := Fr.snoc X4 N g_a
  replace K := K.wr W4 (Or.inl (List.mem_of_getElem? (i := 0) rfl))
  show own_Run p e below _ (T4.setTop (mkF m 20 #[.val (.ref a), .val (.long q1), .second, .val (.ref pb), .val (.int p2), .val (.long q3), .second, .val (.int p4)] []))
  refine own_go (fun _ kS => XS.aloadN X4.here hx rfl (hb hby d1_20) rfl rfl kS) ?_
  show own_Run p e below _ (T4.setTop (mkF m 21 #[.val (.ref a), .val (.long q1), .second, .val (.ref pb), .val (.int p2), .val (.long q3), .second, .val (.int p4)] [(.ref a)]))
  refine own_go (fun _ kS => XS.lload X4.here hx rfl (hb hby d1_21) rfl kS) ?_
  show own_Run p e below _ (T4.setTop (mkF m 23 #[.val (.ref a), .val (.long q1), .second, .val (.ref pb), .val (.int p2), .val (.long q3), .second, .val (.int p4)] [(.long q3), (.ref a)]))
  refine own_putF X4 hx hZ e4 hown .long (hw _ (List.mem_of_getElem? (i := 32) rfl)) F_fencingToken E_a (Or.inr ⟨(hw _ (List.mem_of_getElem? (i := 33) rfl)), rfl, hnm⟩) (hw _ (List.mem_of_getElem? (i := 6) rfl)) (v' := (.long q3)) (by decide) rfl rfl rfl rfl (hb hby d1_23) (fun T5 h5 X5 e5 W5 => ?_)
  replace E_a := E_a.wr W5
  replace F_id := F_id.other W5 (Or.inr (slot_ne (Or.inr (hw _ (List.mem_of_getElem? (i := 27) rfl))) (Or.inr (hw _ (List.mem_of_getElem? (i := 33) rfl))) (by decide) (t := .long) (t' := .long) (by decide) (by decide)))
  replace F_payload := F_payload.other W5 (Or.inr (slot_ne (Or.inr (hw _ (List.mem_of_getElem? (i := 29) rfl))) (Or.inr (hw _ (List.mem_of_getElem? (i := 33) rfl))) (by decide) (t := (.array .byte)) (t' := .long) (by decide) (by decide)))
  replace F_payloadParts := F_payloadParts.other W5 (Or.inr (slot_ne (Or.inr (hw _ (List.mem_of_getElem? (i := 31) rfl))) (Or.inr (hw _ (List.mem_of_getElem? (i := 33) rfl))) (by decide) (t := .int) (t' := .long) (by decide) (by decide)))
  replace F_fencingToken := F_fencingToken.same W5
  replace F_attempt := F_attempt.other W5 (Or.inr (slot_ne (Or.inr (hw _ (List.mem_of_getElem? (i := 35) rfl))) (Or.inr (hw _ (List.mem_of_getElem? (i := 33) rfl))) (by decide) (t := .int) (t' := .long) (by decide) (by decide)))
  replace hz := Nat.le_trans hz (Nat.le_of_eq W5.size.symm)
  replace N := Fr.snoc X5 N g_a
  replace K := K.wr W5 (Or.inl (List.mem_of_getElem? (i := 0) rfl))
  show own_Run p e below _ (T5.setTop (mkF m 26 #[.val (.ref a), .val (.long q1), .second, .val (.ref pb), .val (.int p2), .val (.long q3), .second, .val (.int p4)] []))
  refine own_go (fun _ kS => XS.aloadN X5.here hx rfl (hb hby d1_26) rfl rfl kS) ?_
  show own_Run p e below _ (T5.setTop (mkF m 27 #[.val (.ref a), .val (.long q1), .second, .val (.ref pb), .val (.int p2), .val (.long q3), .second, .val (.int p4)] [(.ref a)]))
  refine own_go (fun _ kS => XS.iload X5.here hx rfl (hb hby d1_27) rfl kS) ?_
  show own_Run p e below _ (T5.setTop (mkF m 29 #[.val (.ref a), .val (.long q1), .second, .val (.ref pb), .val (.int p2), .val (.long q3), .second, .val (.int p4)] [(.int p4), (.ref a)]))
  refine own_putF X5 hx hZ e5 hown .int (hw _ (List.mem_of_getElem? (i := 34) rfl)) F_attempt E_a (Or.inr ⟨(hw _ (List.mem_of_getElem? (i := 35) rfl)), rfl, hnm⟩) (hw _ (List.mem_of_getElem? (i := 6) rfl)) (v' := (.int p4)) (by decide) rfl rfl rfl rfl (hb hby d1_29) (fun T6 h6 X6 e6 W6 => ?_)
  replace E_a := E_a.wr W6
  replace F_id := F_id.other W6 (Or.inr (slot_ne (Or.inr (hw _ (List.mem_of_getElem? (i := 27) rfl))) (Or.inr (hw _ (List.mem_of_getElem? (i := 35) rfl))) (by decide) (t := .long) (t' := .int) (by decide) (by decide)))
  replace F_payload := F_payload.other W6 (Or.inr (slot_ne (Or.inr (hw _ (List.mem_of_getElem? (i := 29) rfl))) (Or.inr (hw _ (List.mem_of_getElem? (i := 35) rfl))) (by decide) (t := (.array .byte)) (t' := .int) (by decide) (by decide)))
  replace F_payloadParts := F_payloadParts.other W6 (Or.inr (slot_ne (Or.inr (hw _ (List.mem_of_getElem? (i := 31) rfl))) (Or.inr (hw _ (List.mem_of_getElem? (i := 35) rfl))) (by decide) (t := .int) (t' := .int) (by decide) (by decide)))
  replace F_fencingToken := F_fencingToken.other W6 (Or.inr (slot_ne (Or.inr (hw _ (List.mem_of_getElem? (i := 33) rfl))) (Or.inr (hw _ (List.mem_of_getElem? (i := 35) rfl))) (by decide) (t := .long) (t' := .int) (by decide) (by decide)))
  replace F_attempt := F_attempt.same W6
  replace hz := Nat.le_trans hz (Nat.le_of_eq W6.size.symm)
  replace N := Fr.snoc X6 N g_a
  replace K := K.wr W6 (Or.inl (List.mem_of_getElem? (i := 0) rfl))
  show own_Run p e below _ (T6.setTop (mkF m 32 #[.val (.ref a), .val (.long q1), .second, .val (.ref pb), .val (.int p2), .val (.long q3), .second, .val (.int p4)] []))
  refine own_retV X6 hx hret hlk (hb hby d1_32) (by decide) (by decide) ?_
  rw [e6]
  exact ⟨rfl, N, K, E_a, F_id, F_payload, F_payloadParts, F_fencingToken, F_attempt⟩
theorem own_pd0 : parseMethodDescriptor "(Ljava/lang/Object;Ljava/lang/String;)Ljava/lang/Object;" = some ⟨[(.object "java/lang/Object"), (.object "java/lang/String")], some (.object "java/lang/Object")⟩ := by decide +kernel
theorem own_pd1 : parseMethodDescriptor "(J[BIJI)V" = some ⟨[.long, (.array .byte), .int, .long, .int], none⟩ := by decide +kernel
theorem d2_0 : decode prog_8_method_2_code 0 = .ok (.new 8, 3) := by decide +kernel
theorem d2_3 : decode prog_8_method_2_code 3 = .ok (.dup, 1) := by decide +kernel
theorem d2_4 : decode prog_8_method_2_code 4 = .ok (.lload_n 0, 1) := by decide +kernel
theorem d2_5 : decode prog_8_method_2_code 5 = .ok (.aload_n 2, 1) := by decide +kernel
theorem d2_6 : decode prog_8_method_2_code 6 = .ok (.ldc 27, 2) := by decide +kernel
theorem d2_8 : decode prog_8_method_2_code 8 = .ok (.invokestatic 28, 3) := by decide +kernel
theorem d2_11 : decode prog_8_method_2_code 11 = .ok (.checkcast 34, 3) := by decide +kernel
theorem d2_14 : decode prog_8_method_2_code 14 = .ok (.iconst 0, 1) := by decide +kernel
theorem d2_15 : decode prog_8_method_2_code 15 = .ok (.lload_n 3, 1) := by decide +kernel
theorem d2_16 : decode prog_8_method_2_code 16 = .ok (.iload 5, 2) := by decide +kernel
theorem d2_18 : decode prog_8_method_2_code 18 = .ok (.invokespecial 35, 3) := by decide +kernel
theorem d2_21 : decode prog_8_method_2_code 21 = .ok (.areturn, 1) := by decide +kernel
abbrev Q_claimed (Z : State) (q1 : Int64) (pb : Addr) (q3 : Int64) (p4 : Int32) (n0 : Nat) (h0 : Heap) : Option Value → Heap → List Loc → Prop := fun v h L => ∃ b : Addr, v = some (.ref b) ∧ Fr n0 L ∧ n0 ≤ b ∧ Keep h0 h [] ∧ Exa Z h b "com/example/narrow_gate/narrowgate/Item" ∧ Fld Z h b "com/example/narrow_gate/narrowgate/Item" "id" "J" (.long q1) ∧ Fld Z h b "com/example/narrow_gate/narrowgate/Item" "payload" "[B" (.ref pb) ∧ Fld Z h b "com/example/narrow_gate/narrowgate/Item" "payloadParts" "I" (.int (0 : Int32)) ∧ Fld Z h b "com/example/narrow_gate/narrowgate/Item" "fencingToken" "J" (.long q3) ∧ Fld Z h b "com/example/narrow_gate/narrowgate/Item" "attempt" "I" (.int p4)
set_option maxRecDepth 65536 in
set_option maxHeartbeats 40000000 in
theorem rm_claimed (l : Launch) (Z : State) (a0 : Array Value) (hw : ∀ d ∈ tables_1, d.before a0 Z = true) (q1 : Int64) (pb : Addr) (q3 : Int64) (p4 : Int32) (n0 : Nat) (h0 : Heap) (Z0 : n0 ≤ h0.size) (E_p : Exa Z h0 pb "[B") :
    own_MetW l Z (⟨"com/example/narrow_gate/narrowgate/Item", "claimed", "(J[BJI)Lcom/example/narrow_gate/narrowgate/Item;"⟩ : MethodName) prog_8_method_2_code 6 (some (.object "com/example/narrow_gate/narrowgate/Item")) ({ frames := 2, cells := 3, slots := 37, locals := 32 } : Room) #[(.long q1), (.ref pb), (.long q3), (.int p4)] h0 (Q_claimed Z q1 pb q3 p4 n0 h0) := by
  refine own_enterW (g0 := fun m => (mkF m 0 #[.val (.long q1), .second, .val (.ref pb), .val (.long q3), .second, .val (.int p4)] [])) (plainFor_of_name (by first | (simp [plainName, overriddenIn]; done) | decide +kernel)) (fun m => by first | (simp [entryFrame, mkF, argsToLocals, Value.category]; done) | rfl) ?_
  intro p e s m below meth c T hx hby hml hown hnm hZ hret hlk X e0
  replace hown : s.vm.findClass "com/example/narrow_gate/narrowgate/Item" = some m.cls := hown
  have N := Fr.nil n0
  have hz := Z0
  have hS : s.Since s.vm h0.size := (State.WarmedH.refl s).since _
  have hk : h0.size ≤ h0.size := Nat.le_refl _
  have K := Keep.refl h0 []
  show own_Run p e below _ (T.setTop (mkF m 0 #[.val (.long q1), .second, .val (.ref pb), .val (.long q3), .second, .val (.int p4)] []))
  refine own_newO X hx hZ e0 hown (hw _ (List.mem_of_getElem? (i := 5) rfl)) (hw _ (List.mem_of_getElem? (i := 6) rfl)) (hw _ (List.mem_of_getElem? (i := 3) rfl)) rfl (hb hby d2_0) (by decide) (by decide) (fun b1 T1 h1 gb1 X1 e1 E1 A1 D1 => ?_)
  have ne_pb_b1 : pb ≠ b1 := Nat.ne_of_lt (Nat.lt_of_lt_of_le E_p.lt (Nat.le_of_eq gb1.symm))
  have g_b1 : n0 ≤ b1 := Nat.le_trans hz (Nat.le_of_eq gb1.symm)
  have z_b1 : h0.size ≤ b1 := Nat.le_trans K.1 (Nat.le_of_eq gb1.symm)
  replace E_p := E_p.ext E1
  replace hz := Nat.le_trans hz E1.1
  replace hk := Nat.le_trans hk E1.1
  replace K := K.ext E1
  have F1_id : Fld Z h1 b1 "com/example/narrow_gate/narrowgate/Item" "id" "J" (.long (0 : Int64)) := D1 (Or.inr (hw _ (List.mem_of_getElem? (i := 27) rfl))) (ty := .long) (by decide)
  have F1_payload : Fld Z h1 b1 "com/example/narrow_gate/narrowgate/Item" "payload" "[B" .null := D1 (Or.inr (hw _ (List.mem_of_getElem? (i := 29) rfl))) (ty := (.array .byte)) (by decide)
  have F1_payloadParts : Fld Z h1 b1 "com/example/narrow_gate/narrowgate/Item" "payloadParts" "I" (.int (0 : Int32)) := D1 (Or.inr (hw _ (List.mem_of_getElem? (i := 31) rfl))) (ty := .int) (by decide)
  have F1_fencingToken : Fld Z h1 b1 "com/example/narrow_gate/narrowgate/Item" "fencingToken" "J" (.long (0 : Int64)) := D1 (Or.inr (hw _ (List.mem_of_getElem? (i := 33) rfl))) (ty := .long) (by decide)
  have F1_attempt : Fld Z h1 b1 "com/example/narrow_gate/narrowgate/Item" "attempt" "I" (.int (0 : Int32)) := D1 (Or.inr (hw _ (List.mem_of_getElem? (i := 35) rfl))) (ty := .int) (by decide)
  show own_Run p e below _ (T1.setTop (mkF m 3 #[.val (.long q1), .second, .val (.ref pb), .val (.long q3), .second, .val (.int p4)] [(.ref b1)]))
  refine own_go (fun _ kS => XS.dup X1.here hx rfl (hb hby d2_3) rfl rfl kS) ?_
  show own_Run p e below _ (T1.setTop (mkF m 4 #[.val (.long q1), .second, .val (.ref pb), .val (.long q3), .second, .val (.int p4)] [(.ref b1), (.ref b1)]))
  refine own_go (fun _ kS => XS.lloadN X1.here hx rfl (hb hby d2_4) rfl kS) ?_
  show own_Run p e below _ (T1.setTop (mkF m 5 #[.val (.long q1), .second, .val (.ref pb), .val (.long q3), .second, .val (.int p4)] [(.long q1), (.ref b1), (.ref b1)]))
  refine own_go (fun _ kS => XS.aloadN X1.here hx rfl (hb hby d2_5) rfl rfl kS) ?_
  show own_Run p e below _ (T1.setTop (mkF m 6 #[.val (.long q1), .second, .val (.ref pb), .val (.long q3), .second, .val (.int p4)] [(.ref pb), (.long q1), (.ref b1), (.ref b1)]))
  refine own_ldcS (vm0 := s.vm) X1 hx hZ e1 hown (hw _ (List.mem_of_getElem? (i := 7) rfl)) (own_strs hw) hS hk rfl (hb hby d2_6) 28 (by decide) (by decide) (by decide) (by decide) (fun b2 T2 h2 k2 X2 e2 E2 hS2 hk2 hZ2 hown2 => ?_)
  replace hk := hk2
  replace hS := hS2
  replace hZ := hZ2
  replace hown := hown2
  replace E_p := E_p.ext E2
  replace A1 := A1.ext E2
  replace F1_id := F1_id.ext E2
  replace F1_payload := F1_payload.ext E2
  replace F1_payloadParts := F1_payloadParts.ext E2
  replace F1_fencingToken := F1_fencingToken.ext E2
  replace F1_attempt := F1_attempt.ext E2
  replace hz := Nat.le_trans hz E2.1
  replace K := K.ext E2
  show own_Run p e below _ (T2.setTop (mkF m 8 #[.val (.long q1), .second, .val (.ref pb), .val (.long q3), .second, .val (.int p4)] [(.ref b2), (.ref pb), (.long q1), (.ref b1), (.ref b1)]))
  refine own_callS X2 hx hZ e2 hown (⟨"java/util/Objects", "requireNonNull", "(Ljava/lang/Object;Ljava/lang/String;)Ljava/lang/Object;"⟩ : MethodName) (hw _ (List.mem_of_getElem? (i := 14) rfl)) (hw _ (List.mem_of_getElem? (i := 15) rfl)) (hw _ (List.mem_of_getElem? (i := 16) rfl)) (hw _ (List.mem_of_getElem? (i := 17) rfl)) (by decide) [(.ref pb), (.ref b2)] [(.long q1), (.ref b1), (.ref b1)] (rm_rnn l Z a0 hw pb b2 h2) (by decide) 4 (by decide) (by decide) (by decide) rfl (by rw [hml]; rfl) (lenOf own_pd0 rfl) rfl (by show 2 * 0 + _ ≤ _; exact Nat.le_of_eq rfl) (hb hby d2_8) (fun v3 h3 L3 T3 Q3 X3 e3 => ?_)
  obtain ⟨rfl, rfl, rfl⟩ := Q3
  replace N := N.app (Fr.nil n0)
  show own_Run p e below _ (T3.setTop (mkF m 11 #[.val (.long q1), .second, .val (.ref pb), .val (.long q3), .second, .val (.int p4)] [(.ref pb), (.long q1), (.ref b1), (.ref b1)]))
  refine own_cast X3 hx hZ e3 hown (hw _ (List.mem_of_getElem? (i := 18) rfl)) E_p (hw _ (List.mem_of_getElem? (i := 19) rfl)) rfl rfl (hb hby d2_11) (fun T4 X4 e4 => ?_)
  show own_Run p e below _ (T4.setTop (mkF m 14 #[.val (.long q1), .second, .val (.ref pb), .val (.long q3), .second, .val (.int p4)] [(.ref pb), (.long q1), (.ref b1), (.ref b1)]))
  refine own_go (fun _ kS => XS.iconst X4.here hx rfl (hb hby d2_14) kS) ?_
  show own_Run p e below _ (T4.setTop (mkF m 15 #[.val (.long q1), .second, .val (.ref pb), .val (.long q3), .second, .val (.int p4)] [(.int (0 : Int32)), (.ref pb), (.long q1), (.ref b1), (.ref b1)]))
  refine own_go (fun _ kS => XS.lloadN X4.here hx rfl (hb hby d2_15) rfl kS) ?_
  show own_Run p e below _ (T4.setTop (mkF m 16 #[.val (.long q1), .second, .val (.ref pb), .val (.long q3), .second, .val (.int p4)] [(.long q3), (.int (0 : Int32)), (.ref pb), (.long q1), (.ref b1), (.ref b1)]))
  refine own_go (fun _ kS => XS.iload X4.here hx rfl (hb hby d2_16) rfl kS) ?_
  show own_Run p e below _ (T4.setTop (mkF m 18 #[.val (.long q1), .second, .val (.ref pb), .val (.long q3), .second, .val (.int p4)] [(.int p4), (.long q3), (.int (0 : Int32)), (.ref pb), (.long q1), (.ref b1), (.ref b1)]))
  refine own_callN X4 hx hZ e4 hown (⟨"com/example/narrow_gate/narrowgate/Item", "<init>", "(J[BIJI)V"⟩ : MethodName) rfl (hw _ (List.mem_of_getElem? (i := 20) rfl)) (hw _ (List.mem_of_getElem? (i := 21) rfl)) (hw _ (List.mem_of_getElem? (i := 3) rfl)) (hw _ (List.mem_of_getElem? (i := 22) rfl)) (by decide) b1 [(.long q1), (.ref pb), (.int (0 : Int32)), (.long q3), (.int p4)] [(.ref b1)] (rm_init l Z a0 hw b1 q1 pb (0 : Int32) q3 p4 n0 h2 hz A1 g_b1 F1_id F1_payload F1_payloadParts F1_fencingToken F1_attempt) (by decide) 1 (by decide) (by decide) (by decide) rfl (by rw [hml]; rfl) (lenOf own_pd1 rfl) rfl (by show 2 * 0 + _ ≤ _; exact Nat.le_of_eq rfl) (hb hby d2_18) (fun v5 h5 L5 T5 Q5 X5 e5 => ?_)
  obtain ⟨rfl, Nq5, Kq5, A5, F5_id, F5_payload, F5_payloadParts, F5_fencingToken, F5_attempt⟩ := Q5
  replace E_p := E_p.keep Kq5
  replace hz := Nat.le_trans hz Kq5.1
  replace hk := Nat.le_trans hk Kq5.1
  replace N := N.app Nq5
  replace K := K.trans Kq5 (allS (Or.inr z_b1) all0)
  show own_Run p e below _ (T5.setTop (mkF m 21 #[.val (.long q1), .second, .val (.ref pb), .val (.long q3), .second, .val (.int p4)] [(.ref b1)]))
  refine own_retAW (vm₁ := T2.vm) X5 e5 hS hk hx hret hlk rfl rfl rfl (hb hby d2_21) (by decide) (by decide) ?_
  rw [e5]
  exact ⟨_, rfl, N, g_b1, K, A5, F5_id, F5_payload, F5_payloadParts, F5_fencingToken, F5_attempt⟩
theorem d3_0 : decode prog_8_method_5_code 0 = .ok (.aload_n 0, 1) := by decide +kernel
theorem d3_1 : decode prog_8_method_5_code 1 = .ok (.getfield 7, 3) := by decide +kernel
theorem d3_4 : decode prog_8_method_5_code 4 = .ok (.lreturn, 1) := by decide +kernel
abbrev Q_id (Z : State) (a : Addr) (w : Int64) (h0 : Heap) : Option Value → Heap → List Loc → Prop := fun v h L => v = some (.long w) ∧ h0 = h ∧ L = []
set_option maxRecDepth 65536 in
set_option maxHeartbeats 40000000 in
theorem rm_id (l : Launch) (Z : State) (a0 : Array Value) (hw : ∀ d ∈ tables_1, d.before a0 Z = true) (a : Addr) (w : Int64) (h0 : Heap) (F_a : Fld Z h0 a "com/example/narrow_gate/narrowgate/Item" "id" "J" (.long w)) :
    own_Met l Z (⟨"com/example/narrow_gate/narrowgate/Item", "id", "()J"⟩ : MethodName) prog_8_method_5_code 1 (some .long) ({ frames := 0, cells := 0, slots := 0, locals := 0 } : Room) #[(.ref a)] h0 (Q_id Z a w h0) := by
  refine own_enter (g0 := fun m => (mkF m 0 #[.val (.ref a)] [])) (plainFor_of_name (by first | (simp [plainName, overriddenIn]; done) | decide +kernel)) (fun m => by first | (simp [entryFrame, mkF, argsToLocals, Value.category]; done) | rfl) ?_
  intro p e s m below meth c T hx hby hml hown hnm hZ hret hlk X e0
  replace hown : s.vm.findClass "com/example/narrow_gate/narrowgate/Item" = some m.cls := hown
  show own_Run p e below _ (T.setTop (mkF m 0 #[.val (.ref a)] []))
  refine own_go (fun _ kS => XS.aloadN X.here hx rfl (hb hby d3_0) rfl rfl kS) ?_
  show own_Run p e below _ (T.setTop (mkF m 1 #[.val (.ref a)] [(.ref a)]))
  refine own_getF X hx hZ e0 hown (hw _ (List.mem_of_getElem? (i := 26) rfl)) F_a rfl rfl (hb hby d3_1) (fun T1 X1 e1 => ?_)
  show own_Run p e below _ (T1.setTop (mkF m 4 #[.val (.ref a)] [(.long w)]))
  refine own_retJ X1 hx hret hlk (hb hby d3_4) (by decide) (by decide) ?_
  exact ⟨rfl, e1.symm, rfl⟩
theorem d4_0 : decode prog_8_method_6_code 0 = .ok (.aload_n 0, 1) := by decide +kernel
theorem d4_1 : decode prog_8_method_6_code 1 = .ok (.getfield 13, 3) := by decide +kernel
theorem d4_4 : decode prog_8_method_6_code 4 = .ok (.areturn, 1) := by decide +kernel
abbrev Q_payload (Z : State) (a : Addr) (w : Addr) (h0 : Heap) : Option Value → Heap → List Loc → Prop := fun v h L => v = some (.ref w) ∧ h0 = h ∧ L = []
set_option maxRecDepth 65536 in
set_option maxHeartbeats 40000000 in
theorem rm_payload (l : Launch) (Z : State) (a0 : Array Value) (hw : ∀ d ∈ tables_1, d.before a0 Z = true) (a : Addr) (w : Addr) (h0 : Heap) (F_a : Fld Z h0 a "com/example/narrow_gate/narrowgate/Item" "payload" "[B" (.ref w)) :
    own_Met l Z (⟨"com/example/narrow_gate/narrowgate/Item", "payload", "()[B"⟩ : MethodName) prog_8_method_6_code 1 (some (.array .byte)) ({ frames := 0, cells := 0, slots := 0, locals := 0 } : Room) #[(.ref a)] h0 (Q_payload Z a w h0) := by
  refine own_enter (g0 := fun m => (mkF m 0 #[.val (.ref a)] [])) (plainFor_of_name (by first | (simp [plainName, overriddenIn]; done) | decide +kernel)) (fun m => by first | (simp [entryFrame, mkF, argsToLocals, Value.category]; done) | rfl) ?_
  intro p e s m below meth c T hx hby hml hown hnm hZ hret hlk X e0
  replace hown : s.vm.findClass "com/example/narrow_gate/narrowgate/Item" = some m.cls := hown
  show own_Run p e below _ (T.setTop (mkF m 0 #[.val (.ref a)] []))
  refine own_go (fun _ kS => XS.aloadN X.here hx rfl (hb hby d4_0) rfl rfl kS) ?_
  show own_Run p e below _ (T.setTop (mkF m 1 #[.val (.ref a)] [(.ref a)]))
  refine own_getF X hx hZ e0 hown (hw _ (List.mem_of_getElem? (i := 28) rfl)) F_a rfl rfl (hb hby d4_1) (fun T1 X1 e1 => ?_)
  show own_Run p e below _ (T1.setTop (mkF m 4 #[.val (.ref a)] [(.ref w)]))
  refine own_retA X1 hx hret hlk rfl rfl rfl (hb hby d4_4) (by decide) (by decide) ?_
  exact ⟨rfl, e1.symm, rfl⟩
theorem d5_0 : decode prog_8_method_7_code 0 = .ok (.aload_n 0, 1) := by decide +kernel
theorem d5_1 : decode prog_8_method_7_code 1 = .ok (.getfield 17, 3) := by decide +kernel
theorem d5_4 : decode prog_8_method_7_code 4 = .ok (.ireturn, 1) := by decide +kernel
abbrev Q_payloadParts (Z : State) (a : Addr) (w : Int32) (h0 : Heap) : Option Value → Heap → List Loc → Prop := fun v h L => v = some (.int w) ∧ h0 = h ∧ L = []
set_option maxRecDepth 65536 in
set_option maxHeartbeats 40000000 in
theorem rm_payloadParts (l : Launch) (Z : State) (a0 : Array Value) (hw : ∀ d ∈ tables_1, d.before a0 Z = true) (a : Addr) (w : Int32) (h0 : Heap) (F_a : Fld Z h0 a "com/example/narrow_gate/narrowgate/Item" "payloadParts" "I" (.int w)) :
    own_Met l Z (⟨"com/example/narrow_gate/narrowgate/Item", "payloadParts", "()I"⟩ : MethodName) prog_8_method_7_code 1 (some .int) ({ frames := 0, cells := 0, slots := 0, locals := 0 } : Room) #[(.ref a)] h0 (Q_payloadParts Z a w h0) := by
  refine own_enter (g0 := fun m => (mkF m 0 #[.val (.ref a)] [])) (plainFor_of_name (by first | (simp [plainName, overriddenIn]; done) | decide +kernel)) (fun m => by first | (simp [entryFrame, mkF, argsToLocals, Value.category]; done) | rfl) ?_
  intro p e s m below meth c T hx hby hml hown hnm hZ hret hlk X e0
  replace hown : s.vm.findClass "com/example/narrow_gate/narrowgate/Item" = some m.cls := hown
  show own_Run p e below _ (T.setTop (mkF m 0 #[.val (.ref a)] []))
  refine own_go (fun _ kS => XS.aloadN X.here hx rfl (hb hby d5_0) rfl rfl kS) ?_
  show own_Run p e below _ (T.setTop (mkF m 1 #[.val (.ref a)] [(.ref a)]))
  refine own_getF X hx hZ e0 hown (hw _ (List.mem_of_getElem? (i := 30) rfl)) F_a rfl rfl (hb hby d5_1) (fun T1 X1 e1 => ?_)
  show own_Run p e below _ (T1.setTop (mkF m 4 #[.val (.ref a)] [(.int w)]))
  refine own_retI X1 hx hret hlk (hb hby d5_4) (by decide) (by decide) ?_
  exact ⟨rfl, e1.symm, rfl⟩
theorem d6_0 : decode prog_8_method_8_code 0 = .ok (.aload_n 0, 1) := by decide +kernel
theorem d6_1 : decode prog_8_method_8_code 1 = .ok (.getfield 21, 3) := by decide +kernel
theorem d6_4 : decode prog_8_method_8_code 4 = .ok (.lreturn, 1) := by decide +kernel
abbrev Q_fencingToken (Z : State) (a : Addr) (w : Int64) (h0 : Heap) : Option Value → Heap → List Loc → Prop := fun v h L => v = some (.long w) ∧ h0 = h ∧ L = []
set_option maxRecDepth 65536 in
set_option maxHeartbeats 40000000 in
theorem rm_fencingToken (l : Launch) (Z : State) (a0 : Array Value) (hw : ∀ d ∈ tables_1, d.before a0 Z = true) (a : Addr) (w : Int64) (h0 : Heap) (F_a : Fld Z h0 a "com/example/narrow_gate/narrowgate/Item" "fencingToken" "J" (.long w)) :
    own_Met l Z (⟨"com/example/narrow_gate/narrowgate/Item", "fencingToken", "()J"⟩ : MethodName) prog_8_method_8_code 1 (some .long) ({ frames := 0, cells := 0, slots := 0, locals := 0 } : Room) #[(.ref a)] h0 (Q_fencingToken Z a w h0) := by
  refine own_enter (g0 := fun m => (mkF m 0 #[.val (.ref a)] [])) (plainFor_of_name (by first | (simp [plainName, overriddenIn]; done) | decide +kernel)) (fun m => by first | (simp [entryFrame, mkF, argsToLocals, Value.category]; done) | rfl) ?_
  intro p e s m below meth c T hx hby hml hown hnm hZ hret hlk X e0
  replace hown : s.vm.findClass "com/example/narrow_gate/narrowgate/Item" = some m.cls := hown
  show own_Run p e below _ (T.setTop (mkF m 0 #[.val (.ref a)] []))
  refine own_go (fun _ kS => XS.aloadN X.here hx rfl (hb hby d6_0) rfl rfl kS) ?_
  show own_Run p e below _ (T.setTop (mkF m 1 #[.val (.ref a)] [(.ref a)]))
  refine own_getF X hx hZ e0 hown (hw _ (List.mem_of_getElem? (i := 32) rfl)) F_a rfl rfl (hb hby d6_1) (fun T1 X1 e1 => ?_)
  show own_Run p e below _ (T1.setTop (mkF m 4 #[.val (.ref a)] [(.long w)]))
  refine own_retJ X1 hx hret hlk (hb hby d6_4) (by decide) (by decide) ?_
  exact ⟨rfl, e1.symm, rfl⟩
theorem d7_0 : decode prog_8_method_9_code 0 = .ok (.aload_n 0, 1) := by decide +kernel
theorem d7_1 : decode prog_8_method_9_code 1 = .ok (.getfield 24, 3) := by decide +kernel
theorem d7_4 : decode prog_8_method_9_code 4 = .ok (.ireturn, 1) := by decide +kernel
abbrev Q_attempt (Z : State) (a : Addr) (w : Int32) (h0 : Heap) : Option Value → Heap → List Loc → Prop := fun v h L => v = some (.int w) ∧ h0 = h ∧ L = []
set_option maxRecDepth 65536 in
set_option maxHeartbeats 40000000 in
theorem rm_attempt (l : Launch) (Z : State) (a0 : Array Value) (hw : ∀ d ∈ tables_1, d.before a0 Z = true) (a : Addr) (w : Int32) (h0 : Heap) (F_a : Fld Z h0 a "com/example/narrow_gate/narrowgate/Item" "attempt" "I" (.int w)) :
    own_Met l Z (⟨"com/example/narrow_gate/narrowgate/Item", "attempt", "()I"⟩ : MethodName) prog_8_method_9_code 1 (some .int) ({ frames := 0, cells := 0, slots := 0, locals := 0 } : Room) #[(.ref a)] h0 (Q_attempt Z a w h0) := by
  refine own_enter (g0 := fun m => (mkF m 0 #[.val (.ref a)] [])) (plainFor_of_name (by first | (simp [plainName, overriddenIn]; done) | decide +kernel)) (fun m => by first | (simp [entryFrame, mkF, argsToLocals, Value.category]; done) | rfl) ?_
  intro p e s m below meth c T hx hby hml hown hnm hZ hret hlk X e0
  replace hown : s.vm.findClass "com/example/narrow_gate/narrowgate/Item" = some m.cls := hown
  show own_Run p e below _ (T.setTop (mkF m 0 #[.val (.ref a)] []))
  refine own_go (fun _ kS => XS.aloadN X.here hx rfl (hb hby d7_0) rfl rfl kS) ?_
  show own_Run p e below _ (T.setTop (mkF m 1 #[.val (.ref a)] [(.ref a)]))
  refine own_getF X hx hZ e0 hown (hw _ (List.mem_of_getElem? (i := 34) rfl)) F_a rfl rfl (hb hby d7_1) (fun T1 X1 e1 => ?_)
  show own_Run p e below _ (T1.setTop (mkF m 4 #[.val (.ref a)] [(.int w)]))
  refine own_retI X1 hx hret hlk (hb hby d7_4) (by decide) (by decide) ?_
  exact ⟨rfl, e1.symm, rfl⟩
theorem own_pd2 : parseMethodDescriptor "(J[BJI)Lcom/example/narrow_gate/narrowgate/Item;" = some ⟨[.long, (.array .byte), .long, .int], some (.object "com/example/narrow_gate/narrowgate/Item")⟩ := by decide +kernel
theorem own_pd3 : parseMethodDescriptor "()J" = some ⟨[], some .long⟩ := by decide +kernel
theorem own_pd4 : parseMethodDescriptor "()[B" = some ⟨[], some (.array .byte)⟩ := by decide +kernel
theorem own_pd5 : parseMethodDescriptor "()I" = some ⟨[], some .int⟩ := by decide +kernel
abbrev Q_law (Z : State) (q1 : Int64) (q2 : Int64) (p3 : Int32) (p4 : Int32) (n0 : Nat) (h0 : Heap) : Option Value → Heap → List Loc → Prop := fun v h L => v = some (.int 1) ∧ Fr n0 L
set_option maxRecDepth 65536 in
set_option maxHeartbeats 40000000 in
theorem rm_law (l : Launch) (Z : State) (a0 : Array Value) (hw : ∀ d ∈ tables_1, d.before a0 Z = true) (q1 : Int64) (q2 : Int64) (p3 : Int32) (p4 : Int32) (n0 : Nat) (h0 : Heap) (Z0 : n0 ≤ h0.size)  :
    own_MetW l Z x code maxLocals ret room_1 #[(.long q1), (.long q2), (.int p3), (.int p4)] h0 (Q_law Z q1 q2 p3 p4 n0 h0) := by
  refine own_enterW (g0 := fun m => (mkF m 0 #[.val (.long q1), .second, .val (.long q2), .second, .val (.int p3), .val (.int p4), .unset, .unset, .unset, .unset, .unset, .unset] [])) (plainFor_of_name (by first | (simp [plainName, overriddenIn]; done) | decide +kernel)) (fun m => by first | (simp [entryFrame, mkF, argsToLocals, Value.category, maxLocals]; done) | rfl) ?_
  intro p e s m below meth c T hx hby hml hown hnm hZ hret hlk X e0
  have hml : c.maxLocals = 12 := hml
  replace hown : s.vm.findClass "com/example/narrow_gate/narrowgate/ItemClaimedPinLaw" = some m.cls := hown
  have N := Fr.nil n0
  have hz := Z0
  have hS : s.Since s.vm h0.size := (State.WarmedH.refl s).since _
  have hk : h0.size ≤ h0.size := Nat.le_refl _
  show own_Run p e below _ (T.setTop (mkF m 0 #[.val (.long q1), .second, .val (.long q2), .second, .val (.int p3), .val (.int p4), .unset, .unset, .unset, .unset, .unset, .unset] []))
  refine own_go (fun _ kS => XS.iconst X.here hx rfl (hb hby at_0) kS) ?_
  show own_Run p e below _ (T.setTop (mkF m 1 #[.val (.long q1), .second, .val (.long q2), .second, .val (.int p3), .val (.int p4), .unset, .unset, .unset, .unset, .unset, .unset] [(.int (0 : Int32))]))
  refine own_newP X hx hZ e0 (hw _ (List.mem_of_getElem? (i := 0) rfl)) rfl (hb hby at_1) rfl 0 0 rfl (by decide) (by decide) (by decide) (by decide) "[B" rfl (fun b1 T1 h1 gb1 X1 e1 E1 A1 G1 => ?_)
  have g_b1 : n0 ≤ b1 := Nat.le_trans hz (Nat.le_of_eq gb1.symm)
  replace hz := Nat.le_trans hz E1.1
  replace hk := Nat.le_trans hk E1.1
  replace A1 : own_Arr Z h1 b1 .byte 0 (fun _ => (.int (0 : Int32))) := A1
  show own_Run p e below _ (T1.setTop (mkF m 3 #[.val (.long q1), .second, .val (.long q2), .second, .val (.int p3), .val (.int p4), .unset, .unset, .unset, .unset, .unset, .unset] [(.ref b1)]))
  refine own_go (fun _ kS => XS.astore X1.here hx rfl (hb hby at_3) rfl rfl (l' := #[.val (.long q1), .second, .val (.long q2), .second, .val (.int p3), .val (.int p4), .val (.ref b1), .unset, .unset, .unset, .unset, .unset]) rfl kS) ?_
  show own_Run p e below _ (T1.setTop (mkF m 5 #[.val (.long q1), .second, .val (.long q2), .second, .val (.int p3), .val (.int p4), .val (.ref b1), .unset, .unset, .unset, .unset, .unset] []))
  refine own_go (fun _ kS => XS.iconst X1.here hx rfl (hb hby at_5) kS) ?_
  show own_Run p e below _ (T1.setTop (mkF m 6 #[.val (.long q1), .second, .val (.long q2), .second, .val (.int p3), .val (.int p4), .val (.ref b1), .unset, .unset, .unset, .unset, .unset] [(.int (2 : Int32))]))
  refine own_newP X1 hx hZ e1 (hw _ (List.mem_of_getElem? (i := 0) rfl)) rfl (hb hby at_6) rfl 2 2 rfl (by decide) (by decide) (by decide) (by decide) "[B" rfl (fun b2 T2 h2 gb2 X2 e2 E2 A2 G2 => ?_)
  have ne_b1_b2 : b1 ≠ b2 := Nat.ne_of_lt (Nat.lt_of_lt_of_le A1.lt (Nat.le_of_eq gb2.symm))
  have g_b2 : n0 ≤ b2 := Nat.le_trans hz (Nat.le_of_eq gb2.symm)
  replace A1 := A1.ext E2
  replace G1 := G1.ext E2
  replace hz := Nat.le_trans hz E2.1
  replace hk := Nat.le_trans hk E2.1
  replace A2 : own_Arr Z h2 b2 .byte 2 (fun _ => (.int (0 : Int32))) := A2
  show own_Run p e below _ (T2.setTop (mkF m 8 #[.val (.long q1), .second, .val (.long q2), .second, .val (.int p3), .val (.int p4), .val (.ref b1), .unset, .unset, .unset, .unset, .unset] [(.ref b2)]))
  refine own_go (fun _ kS => XS.astore X2.here hx rfl (hb hby at_8) rfl rfl (l' := #[.val (.long q1), .second, .val (.long q2), .second, .val (.int p3), .val (.int p4), .val (.ref b1), .val (.ref b2), .unset, .unset, .unset, .unset]) rfl kS) ?_
  show own_Run p e below _ (T2.setTop (mkF m 10 #[.val (.long q1), .second, .val (.long q2), .second, .val (.int p3), .val (.int p4), .val (.ref b1), .val (.ref b2), .unset, .unset, .unset, .unset] []))
  refine own_go (fun _ kS => XS.aload X2.here hx rfl (hb hby at_10) rfl rfl kS) ?_
  show own_Run p e below _ (T2.setTop (mkF m 12 #[.val (.long q1), .second, .val (.long q2), .second, .val (.int p3), .val (.int p4), .val (.ref b1), .val (.ref b2), .unset, .unset, .unset, .unset] [(.ref b2)]))
  refine own_go (fun _ kS => XS.iconst X2.here hx rfl (hb hby at_12) kS) ?_
  show own_Run p e below _ (T2.setTop (mkF m 13 #[.val (.long q1), .second, .val (.long q2), .second, .val (.int p3), .val (.int p4), .val (.ref b1), .val (.ref b2), .unset, .unset, .unset, .unset] [(.int (0 : Int32)), (.ref b2)]))
  refine own_go (fun _ kS => XS.iload X2.here hx rfl (hb hby at_13) rfl kS) ?_
  show own_Run p e below _ (T2.setTop (mkF m 15 #[.val (.long q1), .second, .val (.long q2), .second, .val (.int p3), .val (.int p4), .val (.ref b1), .val (.ref b2), .unset, .unset, .unset, .unset] [(.int p4), (.int (0 : Int32)), (.ref b2)]))
  refine own_go (fun _ kS => XS.i2b X2.here hx rfl (hb hby at_15) rfl kS) ?_
  show own_Run p e below _ (T2.setTop (mkF m 16 #[.val (.long q1), .second, .val (.long q2), .second, .val (.int p3), .val (.int p4), .val (.ref b1), .val (.ref b2), .unset, .unset, .unset, .unset] [(.int p4.toInt8.toInt32), (.int (0 : Int32)), (.ref b2)]))
  refine own_bastore X2 hx hZ e2 A2 (j := (0 : Int32)) ⟨by decide, by decide⟩ rfl rfl (hb hby at_16) (fun T3 h3 X3 e3 W3 A3 => ?_)
  replace A1 := A1.other W3 ne_b1_b2
  replace G1 := G1.wr W3
  replace G2 := G2.wr W3
  replace hz := Nat.le_trans hz (Nat.le_of_eq W3.size.symm)
  replace N := Fr.snoc X3 N g_b2
  replace hk := Nat.le_trans hk (Nat.le_of_eq W3.size.symm)
  replace A3 : own_Arr Z h3 b2 .byte 2 (fun i => if i = 0 then (.int (nar .byte p4.toInt8.toInt32)) else (fun _ => (.int (0 : Int32))) i) := A3
  show own_Run p e below _ (T3.setTop (mkF m 17 #[.val (.long q1), .second, .val (.long q2), .second, .val (.int p3), .val (.int p4), .val (.ref b1), .val (.ref b2), .unset, .unset, .unset, .unset] []))
  refine own_go (fun _ kS => XS.aload X3.here hx rfl (hb hby at_17) rfl rfl kS) ?_
  show own_Run p e below _ (T3.setTop (mkF m 19 #[.val (.long q1), .second, .val (.long q2), .second, .val (.int p3), .val (.int p4), .val (.ref b1), .val (.ref b2), .unset, .unset, .unset, .unset] [(.ref b2)]))
  refine own_go (fun _ kS => XS.iconst X3.here hx rfl (hb hby at_19) kS) ?_
  show own_Run p e below _ (T3.setTop (mkF m 20 #[.val (.long q1), .second, .val (.long q2), .second, .val (.int p3), .val (.int p4), .val (.ref b1), .val (.ref b2), .unset, .unset, .unset, .unset] [(.int (1 : Int32)), (.ref b2)]))
  refine own_go (fun _ kS => XS.iload X3.here hx rfl (hb hby at_20) rfl kS) ?_
  show own_Run p e below _ (T3.setTop (mkF m 22 #[.val (.long q1), .second, .val (.long q2), .second, .val (.int p3), .val (.int p4), .val (.ref b1), .val (.ref b2), .unset, .unset, .unset, .unset] [(.int p4), (.int (1 : Int32)), (.ref b2)]))
  refine own_go (fun _ kS => XS.bipush X3.here hx rfl (hb hby at_22) kS) ?_
  show own_Run p e below _ (T3.setTop (mkF m 24 #[.val (.long q1), .second, .val (.long q2), .second, .val (.int p3), .val (.int p4), .val (.ref b1), .val (.ref b2), .unset, .unset, .unset, .unset] [(.int (8 : Int32)), (.int p4), (.int (1 : Int32)), (.ref b2)]))
  refine own_go (fun _ kS => XS.iushr X3.here hx rfl (hb hby at_24) rfl kS) ?_
  show own_Run p e below _ (T3.setTop (mkF m 25 #[.val (.long q1), .second, .val (.long q2), .second, .val (.int p3), .val (.int p4), .val (.ref b1), .val (.ref b2), .unset, .unset, .unset, .unset] [(.int ((p4.toUInt32 >>> ((8 : Int32) &&& 31).toUInt32).toInt32)), (.int (1 : Int32)), (.ref b2)]))
  refine own_go (fun _ kS => XS.i2b X3.here hx rfl (hb hby at_25) rfl kS) ?_
  show own_Run p e below _ (T3.setTop (mkF m 26 #[.val (.long q1), .second, .val (.long q2), .second, .val (.int p3), .val (.int p4), .val (.ref b1), .val (.ref b2), .unset, .unset, .unset, .unset] [(.int ((p4.toUInt32 >>> ((8 : Int32) &&& 31).toUInt32).toInt32).toInt8.toInt32), (.int (1 : Int32)), (.ref b2)]))
  refine own_bastore X3 hx hZ e3 A3 (j := (1 : Int32)) ⟨by decide, by decide⟩ rfl rfl (hb hby at_26) (fun T4 h4 X4 e4 W4 A4 => ?_)
  replace A1 := A1.other W4 ne_b1_b2
  replace G1 := G1.wr W4
  replace G2 := G2.wr W4
  replace hz := Nat.le_trans hz (Nat.le_of_eq W4.size.symm)
  replace N := Fr.snoc X4 N g_b2
  replace hk := Nat.le_trans hk (Nat.le_of_eq W4.size.symm)
  replace A4 : own_Arr Z h4 b2 .byte 2 (fun i => if i = 1 then (.int (nar .byte ((p4.toUInt32 >>> ((8 : Int32) &&& 31).toUInt32).toInt32).toInt8.toInt32)) else (fun i => if i = 0 then (.int (nar .byte p4.toInt8.toInt32)) else (fun _ => (.int (0 : Int32))) i) i) := A4
  show own_Run p e below _ (T4.setTop (mkF m 27 #[.val (.long q1), .second, .val (.long q2), .second, .val (.int p3), .val (.int p4), .val (.ref b1), .val (.ref b2), .unset, .unset, .unset, .unset] []))
  refine own_go (fun _ kS => XS.iload X4.here hx rfl (hb hby at_27) rfl kS) ?_
  show own_Run p e below _ (T4.setTop (mkF m 29 #[.val (.long q1), .second, .val (.long q2), .second, .val (.int p3), .val (.int p4), .val (.ref b1), .val (.ref b2), .unset, .unset, .unset, .unset] [(.int p4)]))
  refine own_go (fun _ kS => XS.bipush X4.here hx rfl (hb hby at_29) kS) ?_
  show own_Run p e below _ (T4.setTop (mkF m 31 #[.val (.long q1), .second, .val (.long q2), .second, .val (.int p3), .val (.int p4), .val (.ref b1), .val (.ref b2), .unset, .unset, .unset, .unset] [(.int (16 : Int32)), (.int p4)]))
  refine own_go (fun _ kS => XS.iushr X4.here hx rfl (hb hby at_31) rfl kS) ?_
  show own_Run p e below _ (T4.setTop (mkF m 32 #[.val (.long q1), .second, .val (.long q2), .second, .val (.int p3), .val (.int p4), .val (.ref b1), .val (.ref b2), .unset, .unset, .unset, .unset] [(.int ((p4.toUInt32 >>> ((16 : Int32) &&& 31).toUInt32).toInt32))]))
  refine own_go (fun _ kS => XS.iconst X4.here hx rfl (hb hby at_32) kS) ?_
  show own_Run p e below _ (T4.setTop (mkF m 33 #[.val (.long q1), .second, .val (.long q2), .second, .val (.int p3), .val (.int p4), .val (.ref b1), .val (.ref b2), .unset, .unset, .unset, .unset] [(.int (1 : Int32)), (.int ((p4.toUInt32 >>> ((16 : Int32) &&& 31).toUInt32).toInt32))]))
  refine own_go (fun _ kS => XS.iand X4.here hx rfl (hb hby at_33) rfl kS) ?_
  show own_Run p e below _ (T4.setTop (mkF m 34 #[.val (.long q1), .second, .val (.long q2), .second, .val (.int p3), .val (.int p4), .val (.ref b1), .val (.ref b2), .unset, .unset, .unset, .unset] [(.int (((p4.toUInt32 >>> ((16 : Int32) &&& 31).toUInt32).toInt32) &&& (1 : Int32)))]))
  by_cases hc34 : (((p4.toUInt32 >>> ((16 : Int32) &&& 31).toUInt32).toInt32) &&& (1 : Int32)) = (0 : Int32)
  · refine own_go (fun _ kS => XS.ifYes X4.here hx rfl (pc0 := 34) (pc' := 41) rfl (hb hby at_34) rfl ((if0 _ _).trans (teq hc34).1) (by decide) (by decide) kS) ?_
    show own_Run p e below _ (T4.setTop (mkF m 41 #[.val (.long q1), .second, .val (.long q2), .second, .val (.int p3), .val (.int p4), .val (.ref b1), .val (.ref b2), .unset, .unset, .unset, .unset] []))
    refine own_go (fun _ kS => XS.iconst X4.here hx rfl (hb hby at_41) kS) ?_
    show own_Run p e below _ (T4.setTop (mkF m 42 #[.val (.long q1), .second, .val (.long q2), .second, .val (.int p3), .val (.int p4), .val (.ref b1), .val (.ref b2), .unset, .unset, .unset, .unset] [(.int (0 : Int32))]))
    refine own_go (fun _ kS => XS.istore X4.here hx rfl (hb hby at_42) rfl (l' := #[.val (.long q1), .second, .val (.long q2), .second, .val (.int p3), .val (.int p4), .val (.ref b1), .val (.ref b2), .val (.int (0 : Int32)), .unset, .unset, .unset]) rfl kS) ?_
    show own_Run p e below _ (T4.setTop (mkF m 44 #[.val (.long q1), .second, .val (.long q2), .second, .val (.int p3), .val (.int p4), .val (.ref b1), .val (.ref b2), .val (.int (0 : Int32)), .unset, .unset, .unset] []))
    refine own_go (fun _ kS => XS.iload X4.here hx rfl (hb hby at_44) rfl kS) ?_
    show own_Run p e below _ (T4.setTop (mkF m 46 #[.val (.long q1), .second, .val (.long q2), .second, .val (.int p3), .val (.int p4), .val (.ref b1), .val (.ref b2), .val (.int (0 : Int32)), .unset, .unset, .unset] [(.int (0 : Int32))]))
    refine own_go (fun _ kS => XS.ifYes X4.here hx rfl (pc0 := 46) (pc' := 54) rfl (hb hby at_46) rfl ((if0 _ _).trans (teq (show (0 : Int32) = (0 : Int32) from (by decide))).1) (by decide) (by decide) kS) ?_
    show own_Run p e below _ (T4.setTop (mkF m 54 #[.val (.long q1), .second, .val (.long q2), .second, .val (.int p3), .val (.int p4), .val (.ref b1), .val (.ref b2), .val (.int (0 : Int32)), .unset, .unset, .unset] []))
    refine own_go (fun _ kS => XS.aload X4.here hx rfl (hb hby at_54) rfl rfl kS) ?_
    show own_Run p e below _ (T4.setTop (mkF m 56 #[.val (.long q1), .second, .val (.long q2), .second, .val (.int p3), .val (.int p4), .val (.ref b1), .val (.ref b2), .val (.int (0 : Int32)), .unset, .unset, .unset] [(.ref b1)]))
    refine own_go (fun _ kS => XS.astore X4.here hx rfl (hb hby at_56) rfl rfl (l' := #[.val (.long q1), .second, .val (.long q2), .second, .val (.int p3), .val (.int p4), .val (.ref b1), .val (.ref b2), .val (.int (0 : Int32)), .val (.ref b1), .unset, .unset]) rfl kS) ?_
    show own_Run p e below _ (T4.setTop (mkF m 58 #[.val (.long q1), .second, .val (.long q2), .second, .val (.int p3), .val (.int p4), .val (.ref b1), .val (.ref b2), .val (.int (0 : Int32)), .val (.ref b1), .unset, .unset] []))
    refine own_go (fun _ kS => XS.lloadN X4.here hx rfl (hb hby at_58) rfl kS) ?_
    show own_Run p e below _ (T4.setTop (mkF m 59 #[.val (.long q1), .second, .val (.long q2), .second, .val (.int p3), .val (.int p4), .val (.ref b1), .val (.ref b2), .val (.int (0 : Int32)), .val (.ref b1), .unset, .unset] [(.long q1)]))
    refine own_go (fun _ kS => XS.aload X4.here hx rfl (hb hby at_59) rfl rfl kS) ?_
    show own_Run p e below _ (T4.setTop (mkF m 61 #[.val (.long q1), .second, .val (.long q2), .second, .val (.int p3), .val (.int p4), .val (.ref b1), .val (.ref b2), .val (.int (0 : Int32)), .val (.ref b1), .unset, .unset] [(.ref b1), (.long q1)]))
    refine own_go (fun _ kS => XS.lloadN X4.here hx rfl (hb hby at_61) rfl kS) ?_
    show own_Run p e below _ (T4.setTop (mkF m 62 #[.val (.long q1), .second, .val (.long q2), .second, .val (.int p3), .val (.int p4), .val (.ref b1), .val (.ref b2), .val (.int (0 : Int32)), .val (.ref b1), .unset, .unset] [(.long q2), (.ref b1), (.long q1)]))
    refine own_go (fun _ kS => XS.iload X4.here hx rfl (hb hby at_62) rfl kS) ?_
    show own_Run p e below _ (T4.setTop (mkF m 64 #[.val (.long q1), .second, .val (.long q2), .second, .val (.int p3), .val (.int p4), .val (.ref b1), .val (.ref b2), .val (.int (0 : Int32)), .val (.ref b1), .unset, .unset] [(.int p3), (.long q2), (.ref b1), (.long q1)]))
    refine own_callSW X4 hx hZ e4 hown (⟨"com/example/narrow_gate/narrowgate/Item", "claimed", "(J[BJI)Lcom/example/narrow_gate/narrowgate/Item;"⟩ : MethodName) (hw _ (List.mem_of_getElem? (i := 1) rfl)) (hw _ (List.mem_of_getElem? (i := 2) rfl)) (hw _ (List.mem_of_getElem? (i := 3) rfl)) (hw _ (List.mem_of_getElem? (i := 4) rfl)) (by decide) [(.long q1), (.ref b1), (.long q2), (.int p3)] [] (rm_claimed l Z a0 hw q1 b1 q2 p3 n0 h4 hz G1) (by decide) 0 (by decide) (by decide) (by decide) rfl (by rw [hml]; rfl) (lenOf own_pd2 rfl) rfl (by show 2 * 0 + _ ≤ _; exact Nat.le_of_eq rfl) (hb hby at_64) (fun v5 h5 L5 T5 Q5 X5 e5 hS hZ5 hown5 => ?_)
    replace hZ := hZ5
    replace hown := hown5
    have hk : h5.size ≤ h5.size := Nat.le_refl _
    obtain ⟨b5, rfl, Nq5, g_b5, Kq5, A5, F5_id, F5_payload, F5_payloadParts, F5_fencingToken, F5_attempt⟩ := Q5
    replace A1 := A1.keep Kq5 nin0
    replace G1 := G1.keep Kq5
    replace G2 := G2.keep Kq5
    replace A4 := A4.keep Kq5 nin0
    replace hz := Nat.le_trans hz Kq5.1
    replace N := N.app Nq5
    show own_Run p e below _ (T5.setTop (mkF m 67 #[.val (.long q1), .second, .val (.long q2), .second, .val (.int p3), .val (.int p4), .val (.ref b1), .val (.ref b2), .val (.int (0 : Int32)), .val (.ref b1), .unset, .unset] [(.ref b5)]))
    refine own_go (fun _ kS => XS.astore X5.here hx rfl (hb hby at_67) rfl rfl (l' := #[.val (.long q1), .second, .val (.long q2), .second, .val (.int p3), .val (.int p4), .val (.ref b1), .val (.ref b2), .val (.int (0 : Int32)), .val (.ref b1), .val (.ref b5), .unset]) rfl kS) ?_
    show own_Run p e below _ (T5.setTop (mkF m 69 #[.val (.long q1), .second, .val (.long q2), .second, .val (.int p3), .val (.int p4), .val (.ref b1), .val (.ref b2), .val (.int (0 : Int32)), .val (.ref b1), .val (.ref b5), .unset] []))
    refine own_go (fun _ kS => XS.aload X5.here hx rfl (hb hby at_69) rfl rfl kS) ?_
    show own_Run p e below _ (T5.setTop (mkF m 71 #[.val (.long q1), .second, .val (.long q2), .second, .val (.int p3), .val (.int p4), .val (.ref b1), .val (.ref b2), .val (.int (0 : Int32)), .val (.ref b1), .val (.ref b5), .unset] [(.ref b2)]))
    refine own_go (fun _ kS => XS.iconst X5.here hx rfl (hb hby at_71) kS) ?_
    show own_Run p e below _ (T5.setTop (mkF m 72 #[.val (.long q1), .second, .val (.long q2), .second, .val (.int p3), .val (.int p4), .val (.ref b1), .val (.ref b2), .val (.int (0 : Int32)), .val (.ref b1), .val (.ref b5), .unset] [(.int (0 : Int32)), (.ref b2)]))
    refine own_baload X5 hx hZ e5 A4 (j := (0 : Int32)) (nar .byte p4.toInt8.toInt32) ⟨by decide, by decide⟩ rfl rfl rfl (hb hby at_72) ?_
    show own_Run p e below _ (T5.setTop (mkF m 73 #[.val (.long q1), .second, .val (.long q2), .second, .val (.int p3), .val (.int p4), .val (.ref b1), .val (.ref b2), .val (.int (0 : Int32)), .val (.ref b1), .val (.ref b5), .unset] [(.int (nar .byte p4.toInt8.toInt32))]))
    refine own_go (fun _ kS => XS.iload X5.here hx rfl (hb hby at_73) rfl kS) ?_
    show own_Run p e below _ (T5.setTop (mkF m 75 #[.val (.long q1), .second, .val (.long q2), .second, .val (.int p3), .val (.int p4), .val (.ref b1), .val (.ref b2), .val (.int (0 : Int32)), .val (.ref b1), .val (.ref b5), .unset] [(.int p4), (.int (nar .byte p4.toInt8.toInt32))]))
    refine own_go (fun _ kS => XS.i2b X5.here hx rfl (hb hby at_75) rfl kS) ?_
    show own_Run p e below _ (T5.setTop (mkF m 76 #[.val (.long q1), .second, .val (.long q2), .second, .val (.int p3), .val (.int p4), .val (.ref b1), .val (.ref b2), .val (.int (0 : Int32)), .val (.ref b1), .val (.ref b5), .unset] [(.int p4.toInt8.toInt32), (.int (nar .byte p4.toInt8.toInt32))]))
    refine own_go (fun _ kS => XS.icmpNo X5.here hx rfl (hb hby at_76) rfl (teq (show (nar .byte p4.toInt8.toInt32) = p4.toInt8.toInt32 from (own_narb _))).2 kS) ?_
    show own_Run p e below _ (T5.setTop (mkF m 79 #[.val (.long q1), .second, .val (.long q2), .second, .val (.int p3), .val (.int p4), .val (.ref b1), .val (.ref b2), .val (.int (0 : Int32)), .val (.ref b1), .val (.ref b5), .unset] []))
    refine own_go (fun _ kS => XS.aload X5.here hx rfl (hb hby at_79) rfl rfl kS) ?_
    show own_Run p e below _ (T5.setTop (mkF m 81 #[.val (.long q1), .second, .val (.long q2), .second, .val (.int p3), .val (.int p4), .val (.ref b1), .val (.ref b2), .val (.int (0 : Int32)), .val (.ref b1), .val (.ref b5), .unset] [(.ref b2)]))
    refine own_go (fun _ kS => XS.iconst X5.here hx rfl (hb hby at_81) kS) ?_
    show own_Run p e below _ (T5.setTop (mkF m 82 #[.val (.long q1), .second, .val (.long q2), .second, .val (.int p3), .val (.int p4), .val (.ref b1), .val (.ref b2), .val (.int (0 : Int32)), .val (.ref b1), .val (.ref b5), .unset] [(.int (1 : Int32)), (.ref b2)]))
    refine own_baload X5 hx hZ e5 A4 (j := (1 : Int32)) (nar .byte ((p4.toUInt32 >>> ((8 : Int32) &&& 31).toUInt32).toInt32).toInt8.toInt32) ⟨by decide, by decide⟩ rfl rfl rfl (hb hby at_82) ?_
    show own_Run p e below _ (T5.setTop (mkF m 83 #[.val (.long q1), .second, .val (.long q2), .second, .val (.int p3), .val (.int p4), .val (.ref b1), .val (.ref b2), .val (.int (0 : Int32)), .val (.ref b1), .val (.ref b5), .unset] [(.int (nar .byte ((p4.toUInt32 >>> ((8 : Int32) &&& 31).toUInt32).toInt32).toInt8.toInt32))]))
    refine own_go (fun _ kS => XS.iload X5.here hx rfl (hb hby at_83) rfl kS) ?_
    show own_Run p e below _ (T5.setTop (mkF m 85 #[.val (.long q1), .second, .val (.long q2), .second, .val (.int p3), .val (.int p4), .val (.ref b1), .val (.ref b2), .val (.int (0 : Int32)), .val (.ref b1), .val (.ref b5), .unset] [(.int p4), (.int (nar .byte ((p4.toUInt32 >>> ((8 : Int32) &&& 31).toUInt32).toInt32).toInt8.toInt32))]))
    refine own_go (fun _ kS => XS.bipush X5.here hx rfl (hb hby at_85) kS) ?_
    show own_Run p e below _ (T5.setTop (mkF m 87 #[.val (.long q1), .second, .val (.long q2), .second, .val (.int p3), .val (.int p4), .val (.ref b1), .val (.ref b2), .val (.int (0 : Int32)), .val (.ref b1), .val (.ref b5), .unset] [(.int (8 : Int32)), (.int p4), (.int (nar .byte ((p4.toUInt32 >>> ((8 : Int32) &&& 31).toUInt32).toInt32).toInt8.toInt32))]))
    refine own_go (fun _ kS => XS.iushr X5.here hx rfl (hb hby at_87) rfl kS) ?_
    show own_Run p e below _ (T5.setTop (mkF m 88 #[.val (.long q1), .second, .val (.long q2), .second, .val (.int p3), .val (.int p4), .val (.ref b1), .val (.ref b2), .val (.int (0 : Int32)), .val (.ref b1), .val (.ref b5), .unset] [(.int ((p4.toUInt32 >>> ((8 : Int32) &&& 31).toUInt32).toInt32)), (.int (nar .byte ((p4.toUInt32 >>> ((8 : Int32) &&& 31).toUInt32).toInt32).toInt8.toInt32))]))
    refine own_go (fun _ kS => XS.i2b X5.here hx rfl (hb hby at_88) rfl kS) ?_
    show own_Run p e below _ (T5.setTop (mkF m 89 #[.val (.long q1), .second, .val (.long q2), .second, .val (.int p3), .val (.int p4), .val (.ref b1), .val (.ref b2), .val (.int (0 : Int32)), .val (.ref b1), .val (.ref b5), .unset] [(.int ((p4.toUInt32 >>> ((8 : Int32) &&& 31).toUInt32).toInt32).toInt8.toInt32), (.int (nar .byte ((p4.toUInt32 >>> ((8 : Int32) &&& 31).toUInt32).toInt32).toInt8.toInt32))]))
    refine own_go (fun _ kS => XS.icmpNo X5.here hx rfl (hb hby at_89) rfl (teq (show (nar .byte ((p4.toUInt32 >>> ((8 : Int32) &&& 31).toUInt32).toInt32).toInt8.toInt32) = ((p4.toUInt32 >>> ((8 : Int32) &&& 31).toUInt32).toInt32).toInt8.toInt32 from (own_narb _))).2 kS) ?_
    show own_Run p e below _ (T5.setTop (mkF m 92 #[.val (.long q1), .second, .val (.long q2), .second, .val (.int p3), .val (.int p4), .val (.ref b1), .val (.ref b2), .val (.int (0 : Int32)), .val (.ref b1), .val (.ref b5), .unset] []))
    refine own_go (fun _ kS => XS.iconst X5.here hx rfl (hb hby at_92) kS) ?_
    show own_Run p e below _ (T5.setTop (mkF m 93 #[.val (.long q1), .second, .val (.long q2), .second, .val (.int p3), .val (.int p4), .val (.ref b1), .val (.ref b2), .val (.int (0 : Int32)), .val (.ref b1), .val (.ref b5), .unset] [(.int (1 : Int32))]))
    refine own_go (fun _ kS => XS.goto X5.here hx rfl (pc0 := 93) (pc' := 97) rfl (hb hby at_93) (by decide) (by decide) kS) ?_
    show own_Run p e below _ (T5.setTop (mkF m 97 #[.val (.long q1), .second, .val (.long q2), .second, .val (.int p3), .val (.int p4), .val (.ref b1), .val (.ref b2), .val (.int (0 : Int32)), .val (.ref b1), .val (.ref b5), .unset] [(.int (1 : Int32))]))
    refine own_go (fun _ kS => XS.istore X5.here hx rfl (hb hby at_97) rfl (l' := #[.val (.long q1), .second, .val (.long q2), .second, .val (.int p3), .val (.int p4), .val (.ref b1), .val (.ref b2), .val (.int (0 : Int32)), .val (.ref b1), .val (.ref b5), .val (.int (1 : Int32))]) rfl kS) ?_
    show own_Run p e below _ (T5.setTop (mkF m 99 #[.val (.long q1), .second, .val (.long q2), .second, .val (.int p3), .val (.int p4), .val (.ref b1), .val (.ref b2), .val (.int (0 : Int32)), .val (.ref b1), .val (.ref b5), .val (.int (1 : Int32))] []))
    refine own_go (fun _ kS => XS.aload X5.here hx rfl (hb hby at_99) rfl rfl kS) ?_
    show own_Run p e below _ (T5.setTop (mkF m 101 #[.val (.long q1), .second, .val (.long q2), .second, .val (.int p3), .val (.int p4), .val (.ref b1), .val (.ref b2), .val (.int (0 : Int32)), .val (.ref b1), .val (.ref b5), .val (.int (1 : Int32))] [(.ref b5)]))
    refine own_callV X5 hx hZ e5 hown (⟨"com/example/narrow_gate/narrowgate/Item", "id", "()J"⟩ : MethodName) (hw _ (List.mem_of_getElem? (i := 36) rfl)) (hw _ (List.mem_of_getElem? (i := 37) rfl)) (hw _ (List.mem_of_getElem? (i := 39) rfl)) (hw _ (List.mem_of_getElem? (i := 38) rfl)) (hw _ (List.mem_of_getElem? (i := 3) rfl)) (hw _ (List.mem_of_getElem? (i := 40) rfl)) (by decide) b5 A5 [] [] (rm_id l Z a0 hw b5 q1 h5 F5_id) (by decide) 0 (by decide) (by decide) (by decide) rfl (by rw [hml]; rfl) (lenOf own_pd3 rfl) rfl (by show 2 * 0 + _ ≤ _; exact Nat.le_of_eq rfl) (hb hby at_101) (fun v6 h6 L6 T6 Q6 X6 e6 => ?_)
    obtain ⟨rfl, rfl, rfl⟩ := Q6
    replace N := N.app (Fr.nil n0)
    show own_Run p e below _ (T6.setTop (mkF m 104 #[.val (.long q1), .second, .val (.long q2), .second, .val (.int p3), .val (.int p4), .val (.ref b1), .val (.ref b2), .val (.int (0 : Int32)), .val (.ref b1), .val (.ref b5), .val (.int (1 : Int32))] [(.long q1)]))
    refine own_go (fun _ kS => XS.lloadN X6.here hx rfl (hb hby at_104) rfl kS) ?_
    show own_Run p e below _ (T6.setTop (mkF m 105 #[.val (.long q1), .second, .val (.long q2), .second, .val (.int p3), .val (.int p4), .val (.ref b1), .val (.ref b2), .val (.int (0 : Int32)), .val (.ref b1), .val (.ref b5), .val (.int (1 : Int32))] [(.long q1), (.long q1)]))
    refine own_go (fun _ kS => XS.lcmp X6.here hx rfl (hb hby at_105) rfl kS) ?_
    show own_Run p e below _ (T6.setTop (mkF m 106 #[.val (.long q1), .second, .val (.long q2), .second, .val (.int p3), .val (.int p4), .val (.ref b1), .val (.ref b2), .val (.int (0 : Int32)), .val (.ref b1), .val (.ref b5), .val (.int (1 : Int32))] [(.int (lcmpW q1 q1))]))
    refine own_go (fun _ kS => XS.ifNo X6.here hx rfl (hb hby at_106) rfl ((if0 _ _).trans (teq ((lw_eq q1 q1).mpr (show q1 = q1 from (rfl)))).2) kS) ?_
    show own_Run p e below _ (T6.setTop (mkF m 109 #[.val (.long q1), .second, .val (.long q2), .second, .val (.int p3), .val (.int p4), .val (.ref b1), .val (.ref b2), .val (.int (0 : Int32)), .val (.ref b1), .val (.ref b5), .val (.int (1 : Int32))] []))
    refine own_go (fun _ kS => XS.aload X6.here hx rfl (hb hby at_109) rfl rfl kS) ?_
    show own_Run p e below _ (T6.setTop (mkF m 111 #[.val (.long q1), .second, .val (.long q2), .second, .val (.int p3), .val (.int p4), .val (.ref b1), .val (.ref b2), .val (.int (0 : Int32)), .val (.ref b1), .val (.ref b5), .val (.int (1 : Int32))] [(.ref b5)]))
    refine own_callV X6 hx hZ e6 hown (⟨"com/example/narrow_gate/narrowgate/Item", "payload", "()[B"⟩ : MethodName) (hw _ (List.mem_of_getElem? (i := 41) rfl)) (hw _ (List.mem_of_getElem? (i := 42) rfl)) (hw _ (List.mem_of_getElem? (i := 44) rfl)) (hw _ (List.mem_of_getElem? (i := 43) rfl)) (hw _ (List.mem_of_getElem? (i := 3) rfl)) (hw _ (List.mem_of_getElem? (i := 45) rfl)) (by decide) b5 A5 [] [] (rm_payload l Z a0 hw b5 b1 h5 F5_payload) (by decide) 0 (by decide) (by decide) (by decide) rfl (by rw [hml]; rfl) (lenOf own_pd4 rfl) rfl (by show 2 * 0 + _ ≤ _; exact Nat.le_of_eq rfl) (hb hby at_111) (fun v7 h7 L7 T7 Q7 X7 e7 => ?_)
    obtain ⟨rfl, rfl, rfl⟩ := Q7
    replace N := N.app (Fr.nil n0)
    show own_Run p e below _ (T7.setTop (mkF m 114 #[.val (.long q1), .second, .val (.long q2), .second, .val (.int p3), .val (.int p4), .val (.ref b1), .val (.ref b2), .val (.int (0 : Int32)), .val (.ref b1), .val (.ref b5), .val (.int (1 : Int32))] [(.ref b1)]))
    refine own_go (fun _ kS => XS.aload X7.here hx rfl (hb hby at_114) rfl rfl kS) ?_
    show own_Run p e below _ (T7.setTop (mkF m 116 #[.val (.long q1), .second, .val (.long q2), .second, .val (.int p3), .val (.int p4), .val (.ref b1), .val (.ref b2), .val (.int (0 : Int32)), .val (.ref b1), .val (.ref b5), .val (.int (1 : Int32))] [(.ref b1), (.ref b1)]))
    refine own_go (fun _ kS => Jvm.RoadKit.acmp (g := (mkF m 116 #[.val (.long q1), .second, .val (.long q2), .second, .val (.int p3), .val (.int p4), .val (.ref b1), .val (.ref b2), .val (.int (0 : Int32)), .val (.ref b1), .val (.ref b5), .val (.int (1 : Int32))] [(.ref b1), (.ref b1)])) X7 hx rfl rfl rfl (pc0 := 116) (pc' := 119) (same := true) rfl (hb hby at_116) rfl (decide_eq_true rfl) (by decide) (by decide) kS) ?_
    show own_Run p e below _ (T7.setTop (mkF m 119 #[.val (.long q1), .second, .val (.long q2), .second, .val (.int p3), .val (.int p4), .val (.ref b1), .val (.ref b2), .val (.int (0 : Int32)), .val (.ref b1), .val (.ref b5), .val (.int (1 : Int32))] []))
    refine own_go (fun _ kS => XS.aload X7.here hx rfl (hb hby at_119) rfl rfl kS) ?_
    show own_Run p e below _ (T7.setTop (mkF m 121 #[.val (.long q1), .second, .val (.long q2), .second, .val (.int p3), .val (.int p4), .val (.ref b1), .val (.ref b2), .val (.int (0 : Int32)), .val (.ref b1), .val (.ref b5), .val (.int (1 : Int32))] [(.ref b5)]))
    refine own_callV X7 hx hZ e7 hown (⟨"com/example/narrow_gate/narrowgate/Item", "payloadParts", "()I"⟩ : MethodName) (hw _ (List.mem_of_getElem? (i := 46) rfl)) (hw _ (List.mem_of_getElem? (i := 47) rfl)) (hw _ (List.mem_of_getElem? (i := 49) rfl)) (hw _ (List.mem_of_getElem? (i := 48) rfl)) (hw _ (List.mem_of_getElem? (i := 3) rfl)) (hw _ (List.mem_of_getElem? (i := 50) rfl)) (by decide) b5 A5 [] [] (rm_payloadParts l Z a0 hw b5 (0 : Int32) h5 F5_payloadParts) (by decide) 0 (by decide) (by decide) (by decide) rfl (by rw [hml]; rfl) (lenOf own_pd5 rfl) rfl (by show 2 * 0 + _ ≤ _; exact Nat.le_of_eq rfl) (hb hby at_121) (fun v8 h8 L8 T8 Q8 X8 e8 => ?_)
    obtain ⟨rfl, rfl, rfl⟩ := Q8
    replace N := N.app (Fr.nil n0)
    show own_Run p e below _ (T8.setTop (mkF m 124 #[.val (.long q1), .second, .val (.long q2), .second, .val (.int p3), .val (.int p4), .val (.ref b1), .val (.ref b2), .val (.int (0 : Int32)), .val (.ref b1), .val (.ref b5), .val (.int (1 : Int32))] [(.int (0 : Int32))]))
    refine own_go (fun _ kS => XS.ifNo X8.here hx rfl (hb hby at_124) rfl ((if0 _ _).trans (teq (show (0 : Int32) = (0 : Int32) from (by decide))).2) kS) ?_
    show own_Run p e below _ (T8.setTop (mkF m 127 #[.val (.long q1), .second, .val (.long q2), .second, .val (.int p3), .val (.int p4), .val (.ref b1), .val (.ref b2), .val (.int (0 : Int32)), .val (.ref b1), .val (.ref b5), .val (.int (1 : Int32))] []))
    refine own_go (fun _ kS => XS.aload X8.here hx rfl (hb hby at_127) rfl rfl kS) ?_
    show own_Run p e below _ (T8.setTop (mkF m 129 #[.val (.long q1), .second, .val (.long q2), .second, .val (.int p3), .val (.int p4), .val (.ref b1), .val (.ref b2), .val (.int (0 : Int32)), .val (.ref b1), .val (.ref b5), .val (.int (1 : Int32))] [(.ref b5)]))
    refine own_callV X8 hx hZ e8 hown (⟨"com/example/narrow_gate/narrowgate/Item", "fencingToken", "()J"⟩ : MethodName) (hw _ (List.mem_of_getElem? (i := 51) rfl)) (hw _ (List.mem_of_getElem? (i := 52) rfl)) (hw _ (List.mem_of_getElem? (i := 54) rfl)) (hw _ (List.mem_of_getElem? (i := 53) rfl)) (hw _ (List.mem_of_getElem? (i := 3) rfl)) (hw _ (List.mem_of_getElem? (i := 55) rfl)) (by decide) b5 A5 [] [] (rm_fencingToken l Z a0 hw b5 q2 h5 F5_fencingToken) (by decide) 0 (by decide) (by decide) (by decide) rfl (by rw [hml]; rfl) (lenOf own_pd3 rfl) rfl (by show 2 * 0 + _ ≤ _; exact Nat.le_of_eq rfl) (hb hby at_129) (fun v9 h9 L9 T9 Q9 X9 e9 => ?_)
    obtain ⟨rfl, rfl, rfl⟩ := Q9
    replace N := N.app (Fr.nil n0)
    show own_Run p e below _ (T9.setTop (mkF m 132 #[.val (.long q1), .second, .val (.long q2), .second, .val (.int p3), .val (.int p4), .val (.ref b1), .val (.ref b2), .val (.int (0 : Int32)), .val (.ref b1), .val (.ref b5), .val (.int (1 : Int32))] [(.long q2)]))
    refine own_go (fun _ kS => XS.lloadN X9.here hx rfl (hb hby at_132) rfl kS) ?_
    show own_Run p e below _ (T9.setTop (mkF m 133 #[.val (.long q1), .second, .val (.long q2), .second, .val (.int p3), .val (.int p4), .val (.ref b1), .val (.ref b2), .val (.int (0 : Int32)), .val (.ref b1), .val (.ref b5), .val (.int (1 : Int32))] [(.long q2), (.long q2)]))
    refine own_go (fun _ kS => XS.lcmp X9.here hx rfl (hb hby at_133) rfl kS) ?_
    show own_Run p e below _ (T9.setTop (mkF m 134 #[.val (.long q1), .second, .val (.long q2), .second, .val (.int p3), .val (.int p4), .val (.ref b1), .val (.ref b2), .val (.int (0 : Int32)), .val (.ref b1), .val (.ref b5), .val (.int (1 : Int32))] [(.int (lcmpW q2 q2))]))
    refine own_go (fun _ kS => XS.ifNo X9.here hx rfl (hb hby at_134) rfl ((if0 _ _).trans (teq ((lw_eq q2 q2).mpr (show q2 = q2 from (rfl)))).2) kS) ?_
    show own_Run p e below _ (T9.setTop (mkF m 137 #[.val (.long q1), .second, .val (.long q2), .second, .val (.int p3), .val (.int p4), .val (.ref b1), .val (.ref b2), .val (.int (0 : Int32)), .val (.ref b1), .val (.ref b5), .val (.int (1 : Int32))] []))
    refine own_go (fun _ kS => XS.aload X9.here hx rfl (hb hby at_137) rfl rfl kS) ?_
    show own_Run p e below _ (T9.setTop (mkF m 139 #[.val (.long q1), .second, .val (.long q2), .second, .val (.int p3), .val (.int p4), .val (.ref b1), .val (.ref b2), .val (.int (0 : Int32)), .val (.ref b1), .val (.ref b5), .val (.int (1 : Int32))] [(.ref b5)]))
    refine own_callV X9 hx hZ e9 hown (⟨"com/example/narrow_gate/narrowgate/Item", "attempt", "()I"⟩ : MethodName) (hw _ (List.mem_of_getElem? (i := 56) rfl)) (hw _ (List.mem_of_getElem? (i := 57) rfl)) (hw _ (List.mem_of_getElem? (i := 59) rfl)) (hw _ (List.mem_of_getElem? (i := 58) rfl)) (hw _ (List.mem_of_getElem? (i := 3) rfl)) (hw _ (List.mem_of_getElem? (i := 60) rfl)) (by decide) b5 A5 [] [] (rm_attempt l Z a0 hw b5 p3 h5 F5_attempt) (by decide) 0 (by decide) (by decide) (by decide) rfl (by rw [hml]; rfl) (lenOf own_pd5 rfl) rfl (by show 2 * 0 + _ ≤ _; exact Nat.le_of_eq rfl) (hb hby at_139) (fun v10 h10 L10 T10 Q10 X10 e10 => ?_)
    obtain ⟨rfl, rfl, rfl⟩ := Q10
    replace N := N.app (Fr.nil n0)
    show own_Run p e below _ (T10.setTop (mkF m 142 #[.val (.long q1), .second, .val (.long q2), .second, .val (.int p3), .val (.int p4), .val (.ref b1), .val (.ref b2), .val (.int (0 : Int32)), .val (.ref b1), .val (.ref b5), .val (.int (1 : Int32))] [(.int p3)]))
    refine own_go (fun _ kS => XS.iload X10.here hx rfl (hb hby at_142) rfl kS) ?_
    show own_Run p e below _ (T10.setTop (mkF m 144 #[.val (.long q1), .second, .val (.long q2), .second, .val (.int p3), .val (.int p4), .val (.ref b1), .val (.ref b2), .val (.int (0 : Int32)), .val (.ref b1), .val (.ref b5), .val (.int (1 : Int32))] [(.int p3), (.int p3)]))
    refine own_go (fun _ kS => XS.icmpNo X10.here hx rfl (hb hby at_144) rfl (teq (show p3 = p3 from (rfl))).2 kS) ?_
    show own_Run p e below _ (T10.setTop (mkF m 147 #[.val (.long q1), .second, .val (.long q2), .second, .val (.int p3), .val (.int p4), .val (.ref b1), .val (.ref b2), .val (.int (0 : Int32)), .val (.ref b1), .val (.ref b5), .val (.int (1 : Int32))] []))
    refine own_go (fun _ kS => XS.iload X10.here hx rfl (hb hby at_147) rfl kS) ?_
    show own_Run p e below _ (T10.setTop (mkF m 149 #[.val (.long q1), .second, .val (.long q2), .second, .val (.int p3), .val (.int p4), .val (.ref b1), .val (.ref b2), .val (.int (0 : Int32)), .val (.ref b1), .val (.ref b5), .val (.int (1 : Int32))] [(.int (1 : Int32))]))
    refine own_go (fun _ kS => XS.ifNo X10.here hx rfl (hb hby at_149) rfl ((if0 _ _).trans (feq (show ¬ ((1 : Int32) = (0 : Int32)) from (by decide))).1) kS) ?_
    show own_Run p e below _ (T10.setTop (mkF m 152 #[.val (.long q1), .second, .val (.long q2), .second, .val (.int p3), .val (.int p4), .val (.ref b1), .val (.ref b2), .val (.int (0 : Int32)), .val (.ref b1), .val (.ref b5), .val (.int (1 : Int32))] []))
    refine own_go (fun _ kS => XS.aload X10.here hx rfl (hb hby at_152) rfl rfl kS) ?_
    show own_Run p e below _ (T10.setTop (mkF m 154 #[.val (.long q1), .second, .val (.long q2), .second, .val (.int p3), .val (.int p4), .val (.ref b1), .val (.ref b2), .val (.int (0 : Int32)), .val (.ref b1), .val (.ref b5), .val (.int (1 : Int32))] [(.ref b1)]))
    refine own_alen X10 hx hZ e10 A1 (0 : Int32) rfl rfl rfl (hb hby at_154) ?_
    show own_Run p e below _ (T10.setTop (mkF m 155 #[.val (.long q1), .second, .val (.long q2), .second, .val (.int p3), .val (.int p4), .val (.ref b1), .val (.ref b2), .val (.int (0 : Int32)), .val (.ref b1), .val (.ref b5), .val (.int (1 : Int32))] [(.int (0 : Int32))]))
    refine own_go (fun _ kS => XS.iload X10.here hx rfl (hb hby at_155) rfl kS) ?_
    show own_Run p e below _ (T10.setTop (mkF m 157 #[.val (.long q1), .second, .val (.long q2), .second, .val (.int p3), .val (.int p4), .val (.ref b1), .val (.ref b2), .val (.int (0 : Int32)), .val (.ref b1), .val (.ref b5), .val (.int (1 : Int32))] [(.int (0 : Int32)), (.int (0 : Int32))]))
    refine own_go (fun _ kS => XS.ifYes X10.here hx rfl (pc0 := 157) (pc' := 164) rfl (hb hby at_157) rfl ((if0 _ _).trans (teq (show (0 : Int32) = (0 : Int32) from (by decide))).1) (by decide) (by decide) kS) ?_
    show own_Run p e below _ (T10.setTop (mkF m 164 #[.val (.long q1), .second, .val (.long q2), .second, .val (.int p3), .val (.int p4), .val (.ref b1), .val (.ref b2), .val (.int (0 : Int32)), .val (.ref b1), .val (.ref b5), .val (.int (1 : Int32))] [(.int (0 : Int32))]))
    refine own_go (fun _ kS => XS.iconst X10.here hx rfl (hb hby at_164) kS) ?_
    show own_Run p e below _ (T10.setTop (mkF m 165 #[.val (.long q1), .second, .val (.long q2), .second, .val (.int p3), .val (.int p4), .val (.ref b1), .val (.ref b2), .val (.int (0 : Int32)), .val (.ref b1), .val (.ref b5), .val (.int (1 : Int32))] [(.int (0 : Int32)), (.int (0 : Int32))]))
    refine own_go (fun _ kS => XS.icmpNo X10.here hx rfl (hb hby at_165) rfl (teq (show (0 : Int32) = (0 : Int32) from (by decide))).2 kS) ?_
    show own_Run p e below _ (T10.setTop (mkF m 168 #[.val (.long q1), .second, .val (.long q2), .second, .val (.int p3), .val (.int p4), .val (.ref b1), .val (.ref b2), .val (.int (0 : Int32)), .val (.ref b1), .val (.ref b5), .val (.int (1 : Int32))] []))
    refine own_go (fun _ kS => XS.iconst X10.here hx rfl (hb hby at_168) kS) ?_
    show own_Run p e below _ (T10.setTop (mkF m 169 #[.val (.long q1), .second, .val (.long q2), .second, .val (.int p3), .val (.int p4), .val (.ref b1), .val (.ref b2), .val (.int (0 : Int32)), .val (.ref b1), .val (.ref b5), .val (.int (1 : Int32))] [(.int (1 : Int32))]))
    refine own_go (fun _ kS => XS.goto X10.here hx rfl (pc0 := 169) (pc' := 173) rfl (hb hby at_169) (by decide) (by decide) kS) ?_
    show own_Run p e below _ (T10.setTop (mkF m 173 #[.val (.long q1), .second, .val (.long q2), .second, .val (.int p3), .val (.int p4), .val (.ref b1), .val (.ref b2), .val (.int (0 : Int32)), .val (.ref b1), .val (.ref b5), .val (.int (1 : Int32))] [(.int (1 : Int32))]))
    refine own_retNW (vm₁ := T5.vm) X10 e10 hS hk hx (t := .boolean) hret hlk (by simp) (hb hby at_173) (by decide) (by decide) ?_
    exact ⟨rfl, N⟩
  · refine own_go (fun _ kS => XS.ifNo X4.here hx rfl (hb hby at_34) rfl ((if0 _ _).trans (feq hc34).1) kS) ?_
    show own_Run p e below _ (T4.setTop (mkF m 37 #[.val (.long q1), .second, .val (.long q2), .second, .val (.int p3), .val (.int p4), .val (.ref b1), .val (.ref b2), .unset, .unset, .unset, .unset] []))
    refine own_go (fun _ kS => XS.iconst X4.here hx rfl (hb hby at_37) kS) ?_
    show own_Run p e below _ (T4.setTop (mkF m 38 #[.val (.long q1), .second, .val (.long q2), .second, .val (.int p3), .val (.int p4), .val (.ref b1), .val (.ref b2), .unset, .unset, .unset, .unset] [(.int (1 : Int32))]))
    refine own_go (fun _ kS => XS.goto X4.here hx rfl (pc0 := 38) (pc' := 42) rfl (hb hby at_38) (by decide) (by decide) kS) ?_
    show own_Run p e below _ (T4.setTop (mkF m 42 #[.val (.long q1), .second, .val (.long q2), .second, .val (.int p3), .val (.int p4), .val (.ref b1), .val (.ref b2), .unset, .unset, .unset, .unset] [(.int (1 : Int32))]))
    refine own_go (fun _ kS => XS.istore X4.here hx rfl (hb hby at_42) rfl (l' := #[.val (.long q1), .second, .val (.long q2), .second, .val (.int p3), .val (.int p4), .val (.ref b1), .val (.ref b2), .val (.int (1 : Int32)), .unset, .unset, .unset]) rfl kS) ?_
    show own_Run p e below _ (T4.setTop (mkF m 44 #[.val (.long q1), .second, .val (.long q2), .second, .val (.int p3), .val (.int p4), .val (.ref b1), .val (.ref b2), .val (.int (1 : Int32)), .unset, .unset, .unset] []))
    refine own_go (fun _ kS => XS.iload X4.here hx rfl (hb hby at_44) rfl kS) ?_
    show own_Run p e below _ (T4.setTop (mkF m 46 #[.val (.long q1), .second, .val (.long q2), .second, .val (.int p3), .val (.int p4), .val (.ref b1), .val (.ref b2), .val (.int (1 : Int32)), .unset, .unset, .unset] [(.int (1 : Int32))]))
    refine own_go (fun _ kS => XS.ifNo X4.here hx rfl (hb hby at_46) rfl ((if0 _ _).trans (feq (show ¬ ((1 : Int32) = (0 : Int32)) from (by decide))).1) kS) ?_
    show own_Run p e below _ (T4.setTop (mkF m 49 #[.val (.long q1), .second, .val (.long q2), .second, .val (.int p3), .val (.int p4), .val (.ref b1), .val (.ref b2), .val (.int (1 : Int32)), .unset, .unset, .unset] []))
    refine own_go (fun _ kS => XS.aload X4.here hx rfl (hb hby at_49) rfl rfl kS) ?_
    show own_Run p e below _ (T4.setTop (mkF m 51 #[.val (.long q1), .second, .val (.long q2), .second, .val (.int p3), .val (.int p4), .val (.ref b1), .val (.ref b2), .val (.int (1 : Int32)), .unset, .unset, .unset] [(.ref b2)]))
    refine own_go (fun _ kS => XS.goto X4.here hx rfl (pc0 := 51) (pc' := 56) rfl (hb hby at_51) (by decide) (by decide) kS) ?_
    show own_Run p e below _ (T4.setTop (mkF m 56 #[.val (.long q1), .second, .val (.long q2), .second, .val (.int p3), .val (.int p4), .val (.ref b1), .val (.ref b2), .val (.int (1 : Int32)), .unset, .unset, .unset] [(.ref b2)]))
    refine own_go (fun _ kS => XS.astore X4.here hx rfl (hb hby at_56) rfl rfl (l' := #[.val (.long q1), .second, .val (.long q2), .second, .val (.int p3), .val (.int p4), .val (.ref b1), .val (.ref b2), .val (.int (1 : Int32)), .val (.ref b2), .unset, .unset]) rfl kS) ?_
    show own_Run p e below _ (T4.setTop (mkF m 58 #[.val (.long q1), .second, .val (.long q2), .second, .val (.int p3), .val (.int p4), .val (.ref b1), .val (.ref b2), .val (.int (1 : Int32)), .val (.ref b2), .unset, .unset] []))
    refine own_go (fun _ kS => XS.lloadN X4.here hx rfl (hb hby at_58) rfl kS) ?_
    show own_Run p e below _ (T4.setTop (mkF m 59 #[.val (.long q1), .second, .val (.long q2), .second, .val (.int p3), .val (.int p4), .val (.ref b1), .val (.ref b2), .val (.int (1 : Int32)), .val (.ref b2), .unset, .unset] [(.long q1)]))
    refine own_go (fun _ kS => XS.aload X4.here hx rfl (hb hby at_59) rfl rfl kS) ?_
    show own_Run p e below _ (T4.setTop (mkF m 61 #[.val (.long q1), .second, .val (.long q2), .second, .val (.int p3), .val (.int p4), .val (.ref b1), .val (.ref b2), .val (.int (1 : Int32)), .val (.ref b2), .unset, .unset] [(.ref b2), (.long q1)]))
    refine own_go (fun _ kS => XS.lloadN X4.here hx rfl (hb hby at_61) rfl kS) ?_
    show own_Run p e below _ (T4.setTop (mkF m 62 #[.val (.long q1), .second, .val (.long q2), .second, .val (.int p3), .val (.int p4), .val (.ref b1), .val (.ref b2), .val (.int (1 : Int32)), .val (.ref b2), .unset, .unset] [(.long q2), (.ref b2), (.long q1)]))
    refine own_go (fun _ kS => XS.iload X4.here hx rfl (hb hby at_62) rfl kS) ?_
    show own_Run p e below _ (T4.setTop (mkF m 64 #[.val (.long q1), .second, .val (.long q2), .second, .val (.int p3), .val (.int p4), .val (.ref b1), .val (.ref b2), .val (.int (1 : Int32)), .val (.ref b2), .unset, .unset] [(.int p3), (.long q2), (.ref b2), (.long q1)]))
    refine own_callSW X4 hx hZ e4 hown (⟨"com/example/narrow_gate/narrowgate/Item", "claimed", "(J[BJI)Lcom/example/narrow_gate/narrowgate/Item;"⟩ : MethodName) (hw _ (List.mem_of_getElem? (i := 1) rfl)) (hw _ (List.mem_of_getElem? (i := 2) rfl)) (hw _ (List.mem_of_getElem? (i := 3) rfl)) (hw _ (List.mem_of_getElem? (i := 4) rfl)) (by decide) [(.long q1), (.ref b2), (.long q2), (.int p3)] [] (rm_claimed l Z a0 hw q1 b2 q2 p3 n0 h4 hz G2) (by decide) 0 (by decide) (by decide) (by decide) rfl (by rw [hml]; rfl) (lenOf own_pd2 rfl) rfl (by show 2 * 0 + _ ≤ _; exact Nat.le_of_eq rfl) (hb hby at_64) (fun v11 h11 L11 T11 Q11 X11 e11 hS hZ11 hown11 => ?_)
    replace hZ := hZ11
    replace hown := hown11
    have hk : h11.size ≤ h11.size := Nat.le_refl _
    obtain ⟨b11, rfl, Nq11, g_b11, Kq11, A11, F11_id, F11_payload, F11_payloadParts, F11_fencingToken, F11_attempt⟩ := Q11
    replace A1 := A1.keep Kq11 nin0
    replace G1 := G1.keep Kq11
    replace G2 := G2.keep Kq11
    replace A4 := A4.keep Kq11 nin0
    replace hz := Nat.le_trans hz Kq11.1
    replace N := N.app Nq11
    show own_Run p e below _ (T11.setTop (mkF m 67 #[.val (.long q1), .second, .val (.long q2), .second, .val (.int p3), .val (.int p4), .val (.ref b1), .val (.ref b2), .val (.int (1 : Int32)), .val (.ref b2), .unset, .unset] [(.ref b11)]))
    refine own_go (fun _ kS => XS.astore X11.here hx rfl (hb hby at_67) rfl rfl (l' := #[.val (.long q1), .second, .val (.long q2), .second, .val (.int p3), .val (.int p4), .val (.ref b1), .val (.ref b2), .val (.int (1 : Int32)), .val (.ref b2), .val (.ref b11), .unset]) rfl kS) ?_
    show own_Run p e below _ (T11.setTop (mkF m 69 #[.val (.long q1), .second, .val (.long q2), .second, .val (.int p3), .val (.int p4), .val (.ref b1), .val (.ref b2), .val (.int (1 : Int32)), .val (.ref b2), .val (.ref b11), .unset] []))
    refine own_go (fun _ kS => XS.aload X11.here hx rfl (hb hby at_69) rfl rfl kS) ?_
    show own_Run p e below _ (T11.setTop (mkF m 71 #[.val (.long q1), .second, .val (.long q2), .second, .val (.int p3), .val (.int p4), .val (.ref b1), .val (.ref b2), .val (.int (1 : Int32)), .val (.ref b2), .val (.ref b11), .unset] [(.ref b2)]))
    refine own_go (fun _ kS => XS.iconst X11.here hx rfl (hb hby at_71) kS) ?_
    show own_Run p e below _ (T11.setTop (mkF m 72 #[.val (.long q1), .second, .val (.long q2), .second, .val (.int p3), .val (.int p4), .val (.ref b1), .val (.ref b2), .val (.int (1 : Int32)), .val (.ref b2), .val (.ref b11), .unset] [(.int (0 : Int32)), (.ref b2)]))
    refine own_baload X11 hx hZ e11 A4 (j := (0 : Int32)) (nar .byte p4.toInt8.toInt32) ⟨by decide, by decide⟩ rfl rfl rfl (hb hby at_72) ?_
    show own_Run p e below _ (T11.setTop (mkF m 73 #[.val (.long q1), .second, .val (.long q2), .second, .val (.int p3), .val (.int p4), .val (.ref b1), .val (.ref b2), .val (.int (1 : Int32)), .val (.ref b2), .val (.ref b11), .unset] [(.int (nar .byte p4.toInt8.toInt32))]))
    refine own_go (fun _ kS => XS.iload X11.here hx rfl (hb hby at_73) rfl kS) ?_
    show own_Run p e below _ (T11.setTop (mkF m 75 #[.val (.long q1), .second, .val (.long q2), .second, .val (.int p3), .val (.int p4), .val (.ref b1), .val (.ref b2), .val (.int (1 : Int32)), .val (.ref b2), .val (.ref b11), .unset] [(.int p4), (.int (nar .byte p4.toInt8.toInt32))]))
    refine own_go (fun _ kS => XS.i2b X11.here hx rfl (hb hby at_75) rfl kS) ?_
    show own_Run p e below _ (T11.setTop (mkF m 76 #[.val (.long q1), .second, .val (.long q2), .second, .val (.int p3), .val (.int p4), .val (.ref b1), .val (.ref b2), .val (.int (1 : Int32)), .val (.ref b2), .val (.ref b11), .unset] [(.int p4.toInt8.toInt32), (.int (nar .byte p4.toInt8.toInt32))]))
    refine own_go (fun _ kS => XS.icmpNo X11.here hx rfl (hb hby at_76) rfl (teq (show (nar .byte p4.toInt8.toInt32) = p4.toInt8.toInt32 from (own_narb _))).2 kS) ?_
    show own_Run p e below _ (T11.setTop (mkF m 79 #[.val (.long q1), .second, .val (.long q2), .second, .val (.int p3), .val (.int p4), .val (.ref b1), .val (.ref b2), .val (.int (1 : Int32)), .val (.ref b2), .val (.ref b11), .unset] []))
    refine own_go (fun _ kS => XS.aload X11.here hx rfl (hb hby at_79) rfl rfl kS) ?_
    show own_Run p e below _ (T11.setTop (mkF m 81 #[.val (.long q1), .second, .val (.long q2), .second, .val (.int p3), .val (.int p4), .val (.ref b1), .val (.ref b2), .val (.int (1 : Int32)), .val (.ref b2), .val (.ref b11), .unset] [(.ref b2)]))
    refine own_go (fun _ kS => XS.iconst X11.here hx rfl (hb hby at_81) kS) ?_
    show own_Run p e below _ (T11.setTop (mkF m 82 #[.val (.long q1), .second, .val (.long q2), .second, .val (.int p3), .val (.int p4), .val (.ref b1), .val (.ref b2), .val (.int (1 : Int32)), .val (.ref b2), .val (.ref b11), .unset] [(.int (1 : Int32)), (.ref b2)]))
    refine own_baload X11 hx hZ e11 A4 (j := (1 : Int32)) (nar .byte ((p4.toUInt32 >>> ((8 : Int32) &&& 31).toUInt32).toInt32).toInt8.toInt32) ⟨by decide, by decide⟩ rfl rfl rfl (hb hby at_82) ?_
    show own_Run p e below _ (T11.setTop (mkF m 83 #[.val (.long q1), .second, .val (.long q2), .second, .val (.int p3), .val (.int p4), .val (.ref b1), .val (.ref b2), .val (.int (1 : Int32)), .val (.ref b2), .val (.ref b11), .unset] [(.int (nar .byte ((p4.toUInt32 >>> ((8 : Int32) &&& 31).toUInt32).toInt32).toInt8.toInt32))]))
    refine own_go (fun _ kS => XS.iload X11.here hx rfl (hb hby at_83) rfl kS) ?_
    show own_Run p e below _ (T11.setTop (mkF m 85 #[.val (.long q1), .second, .val (.long q2), .second, .val (.int p3), .val (.int p4), .val (.ref b1), .val (.ref b2), .val (.int (1 : Int32)), .val (.ref b2), .val (.ref b11), .unset] [(.int p4), (.int (nar .byte ((p4.toUInt32 >>> ((8 : Int32) &&& 31).toUInt32).toInt32).toInt8.toInt32))]))
    refine own_go (fun _ kS => XS.bipush X11.here hx rfl (hb hby at_85) kS) ?_
    show own_Run p e below _ (T11.setTop (mkF m 87 #[.val (.long q1), .second, .val (.long q2), .second, .val (.int p3), .val (.int p4), .val (.ref b1), .val (.ref b2), .val (.int (1 : Int32)), .val (.ref b2), .val (.ref b11), .unset] [(.int (8 : Int32)), (.int p4), (.int (nar .byte ((p4.toUInt32 >>> ((8 : Int32) &&& 31).toUInt32).toInt32).toInt8.toInt32))]))
    refine own_go (fun _ kS => XS.iushr X11.here hx rfl (hb hby at_87) rfl kS) ?_
    show own_Run p e below _ (T11.setTop (mkF m 88 #[.val (.long q1), .second, .val (.long q2), .second, .val (.int p3), .val (.int p4), .val (.ref b1), .val (.ref b2), .val (.int (1 : Int32)), .val (.ref b2), .val (.ref b11), .unset] [(.int ((p4.toUInt32 >>> ((8 : Int32) &&& 31).toUInt32).toInt32)), (.int (nar .byte ((p4.toUInt32 >>> ((8 : Int32) &&& 31).toUInt32).toInt32).toInt8.toInt32))]))
    refine own_go (fun _ kS => XS.i2b X11.here hx rfl (hb hby at_88) rfl kS) ?_
    show own_Run p e below _ (T11.setTop (mkF m 89 #[.val (.long q1), .second, .val (.long q2), .second, .val (.int p3), .val (.int p4), .val (.ref b1), .val (.ref b2), .val (.int (1 : Int32)), .val (.ref b2), .val (.ref b11), .unset] [(.int ((p4.toUInt32 >>> ((8 : Int32) &&& 31).toUInt32).toInt32).toInt8.toInt32), (.int (nar .byte ((p4.toUInt32 >>> ((8 : Int32) &&& 31).toUInt32).toInt32).toInt8.toInt32))]))
    refine own_go (fun _ kS => XS.icmpNo X11.here hx rfl (hb hby at_89) rfl (teq (show (nar .byte ((p4.toUInt32 >>> ((8 : Int32) &&& 31).toUInt32).toInt32).toInt8.toInt32) = ((p4.toUInt32 >>> ((8 : Int32) &&& 31).toUInt32).toInt32).toInt8.toInt32 from (own_narb _))).2 kS) ?_
    show own_Run p e below _ (T11.setTop (mkF m 92 #[.val (.long q1), .second, .val (.long q2), .second, .val (.int p3), .val (.int p4), .val (.ref b1), .val (.ref b2), .val (.int (1 : Int32)), .val (.ref b2), .val (.ref b11), .unset] []))
    refine own_go (fun _ kS => XS.iconst X11.here hx rfl (hb hby at_92) kS) ?_
    show own_Run p e below _ (T11.setTop (mkF m 93 #[.val (.long q1), .second, .val (.long q2), .second, .val (.int p3), .val (.int p4), .val (.ref b1), .val (.ref b2), .val (.int (1 : Int32)), .val (.ref b2), .val (.ref b11), .unset] [(.int (1 : Int32))]))
    refine own_go (fun _ kS => XS.goto X11.here hx rfl (pc0 := 93) (pc' := 97) rfl (hb hby at_93) (by decide) (by decide) kS) ?_
    show own_Run p e below _ (T11.setTop (mkF m 97 #[.val (.long q1), .second, .val (.long q2), .second, .val (.int p3), .val (.int p4), .val (.ref b1), .val (.ref b2), .val (.int (1 : Int32)), .val (.ref b2), .val (.ref b11), .unset] [(.int (1 : Int32))]))
    refine own_go (fun _ kS => XS.istore X11.here hx rfl (hb hby at_97) rfl (l' := #[.val (.long q1), .second, .val (.long q2), .second, .val (.int p3), .val (.int p4), .val (.ref b1), .val (.ref b2), .val (.int (1 : Int32)), .val (.ref b2), .val (.ref b11), .val (.int (1 : Int32))]) rfl kS) ?_
    show own_Run p e below _ (T11.setTop (mkF m 99 #[.val (.long q1), .second, .val (.long q2), .second, .val (.int p3), .val (.int p4), .val (.ref b1), .val (.ref b2), .val (.int (1 : Int32)), .val (.ref b2), .val (.ref b11), .val (.int (1 : Int32))] []))
    refine own_go (fun _ kS => XS.aload X11.here hx rfl (hb hby at_99) rfl rfl kS) ?_
    show own_Run p e below _ (T11.setTop (mkF m 101 #[.val (.long q1), .second, .val (.long q2), .second, .val (.int p3), .val (.int p4), .val (.ref b1), .val (.ref b2), .val (.int (1 : Int32)), .val (.ref b2), .val (.ref b11), .val (.int (1 : Int32))] [(.ref b11)]))
    refine own_callV X11 hx hZ e11 hown (⟨"com/example/narrow_gate/narrowgate/Item", "id", "()J"⟩ : MethodName) (hw _ (List.mem_of_getElem? (i := 36) rfl)) (hw _ (List.mem_of_getElem? (i := 37) rfl)) (hw _ (List.mem_of_getElem? (i := 39) rfl)) (hw _ (List.mem_of_getElem? (i := 38) rfl)) (hw _ (List.mem_of_getElem? (i := 3) rfl)) (hw _ (List.mem_of_getElem? (i := 40) rfl)) (by decide) b11 A11 [] [] (rm_id l Z a0 hw b11 q1 h11 F11_id) (by decide) 0 (by decide) (by decide) (by decide) rfl (by rw [hml]; rfl) (lenOf own_pd3 rfl) rfl (by show 2 * 0 + _ ≤ _; exact Nat.le_of_eq rfl) (hb hby at_101) (fun v12 h12 L12 T12 Q12 X12 e12 => ?_)
    obtain ⟨rfl, rfl, rfl⟩ := Q12
    replace N := N.app (Fr.nil n0)
    show own_Run p e below _ (T12.setTop (mkF m 104 #[.val (.long q1), .second, .val (.long q2), .second, .val (.int p3), .val (.int p4), .val (.ref b1), .val (.ref b2), .val (.int (1 : Int32)), .val (.ref b2), .val (.ref b11), .val (.int (1 : Int32))] [(.long q1)]))
    refine own_go (fun _ kS => XS.lloadN X12.here hx rfl (hb hby at_104) rfl kS) ?_
    show own_Run p e below _ (T12.setTop (mkF m 105 #[.val (.long q1), .second, .val (.long q2), .second, .val (.int p3), .val (.int p4), .val (.ref b1), .val (.ref b2), .val (.int (1 : Int32)), .val (.ref b2), .val (.ref b11), .val (.int (1 : Int32))] [(.long q1), (.long q1)]))
    refine own_go (fun _ kS => XS.lcmp X12.here hx rfl (hb hby at_105) rfl kS) ?_
    show own_Run p e below _ (T12.setTop (mkF m 106 #[.val (.long q1), .second, .val (.long q2), .second, .val (.int p3), .val (.int p4), .val (.ref b1), .val (.ref b2), .val (.int (1 : Int32)), .val (.ref b2), .val (.ref b11), .val (.int (1 : Int32))] [(.int (lcmpW q1 q1))]))
    refine own_go (fun _ kS => XS.ifNo X12.here hx rfl (hb hby at_106) rfl ((if0 _ _).trans (teq ((lw_eq q1 q1).mpr (show q1 = q1 from (rfl)))).2) kS) ?_
    show own_Run p e below _ (T12.setTop (mkF m 109 #[.val (.long q1), .second, .val (.long q2), .second, .val (.int p3), .val (.int p4), .val (.ref b1), .val (.ref b2), .val (.int (1 : Int32)), .val (.ref b2), .val (.ref b11), .val (.int (1 : Int32))] []))
    refine own_go (fun _ kS => XS.aload X12.here hx rfl (hb hby at_109) rfl rfl kS) ?_
    show own_Run p e below _ (T12.setTop (mkF m 111 #[.val (.long q1), .second, .val (.long q2), .second, .val (.int p3), .val (.int p4), .val (.ref b1), .val (.ref b2), .val (.int (1 : Int32)), .val (.ref b2), .val (.ref b11), .val (.int (1 : Int32))] [(.ref b11)]))
    refine own_callV X12 hx hZ e12 hown (⟨"com/example/narrow_gate/narrowgate/Item", "payload", "()[B"⟩ : MethodName) (hw _ (List.mem_of_getElem? (i := 41) rfl)) (hw _ (List.mem_of_getElem? (i := 42) rfl)) (hw _ (List.mem_of_getElem? (i := 44) rfl)) (hw _ (List.mem_of_getElem? (i := 43) rfl)) (hw _ (List.mem_of_getElem? (i := 3) rfl)) (hw _ (List.mem_of_getElem? (i := 45) rfl)) (by decide) b11 A11 [] [] (rm_payload l Z a0 hw b11 b2 h11 F11_payload) (by decide) 0 (by decide) (by decide) (by decide) rfl (by rw [hml]; rfl) (lenOf own_pd4 rfl) rfl (by show 2 * 0 + _ ≤ _; exact Nat.le_of_eq rfl) (hb hby at_111) (fun v13 h13 L13 T13 Q13 X13 e13 => ?_)
    obtain ⟨rfl, rfl, rfl⟩ := Q13
    replace N := N.app (Fr.nil n0)
    show own_Run p e below _ (T13.setTop (mkF m 114 #[.val (.long q1), .second, .val (.long q2), .second, .val (.int p3), .val (.int p4), .val (.ref b1), .val (.ref b2), .val (.int (1 : Int32)), .val (.ref b2), .val (.ref b11), .val (.int (1 : Int32))] [(.ref b2)]))
    refine own_go (fun _ kS => XS.aload X13.here hx rfl (hb hby at_114) rfl rfl kS) ?_
    show own_Run p e below _ (T13.setTop (mkF m 116 #[.val (.long q1), .second, .val (.long q2), .second, .val (.int p3), .val (.int p4), .val (.ref b1), .val (.ref b2), .val (.int (1 : Int32)), .val (.ref b2), .val (.ref b11), .val (.int (1 : Int32))] [(.ref b2), (.ref b2)]))
    refine own_go (fun _ kS => Jvm.RoadKit.acmp (g := (mkF m 116 #[.val (.long q1), .second, .val (.long q2), .second, .val (.int p3), .val (.int p4), .val (.ref b1), .val (.ref b2), .val (.int (1 : Int32)), .val (.ref b2), .val (.ref b11), .val (.int (1 : Int32))] [(.ref b2), (.ref b2)])) X13 hx rfl rfl rfl (pc0 := 116) (pc' := 119) (same := true) rfl (hb hby at_116) rfl (decide_eq_true rfl) (by decide) (by decide) kS) ?_
    show own_Run p e below _ (T13.setTop (mkF m 119 #[.val (.long q1), .second, .val (.long q2), .second, .val (.int p3), .val (.int p4), .val (.ref b1), .val (.ref b2), .val (.int (1 : Int32)), .val (.ref b2), .val (.ref b11), .val (.int (1 : Int32))] []))
    refine own_go (fun _ kS => XS.aload X13.here hx rfl (hb hby at_119) rfl rfl kS) ?_
    show own_Run p e below _ (T13.setTop (mkF m 121 #[.val (.long q1), .second, .val (.long q2), .second, .val (.int p3), .val (.int p4), .val (.ref b1), .val (.ref b2), .val (.int (1 : Int32)), .val (.ref b2), .val (.ref b11), .val (.int (1 : Int32))] [(.ref b11)]))
    refine own_callV X13 hx hZ e13 hown (⟨"com/example/narrow_gate/narrowgate/Item", "payloadParts", "()I"⟩ : MethodName) (hw _ (List.mem_of_getElem? (i := 46) rfl)) (hw _ (List.mem_of_getElem? (i := 47) rfl)) (hw _ (List.mem_of_getElem? (i := 49) rfl)) (hw _ (List.mem_of_getElem? (i := 48) rfl)) (hw _ (List.mem_of_getElem? (i := 3) rfl)) (hw _ (List.mem_of_getElem? (i := 50) rfl)) (by decide) b11 A11 [] [] (rm_payloadParts l Z a0 hw b11 (0 : Int32) h11 F11_payloadParts) (by decide) 0 (by decide) (by decide) (by decide) rfl (by rw [hml]; rfl) (lenOf own_pd5 rfl) rfl (by show 2 * 0 + _ ≤ _; exact Nat.le_of_eq rfl) (hb hby at_121) (fun v14 h14 L14 T14 Q14 X14 e14 => ?_)
    obtain ⟨rfl, rfl, rfl⟩ := Q14
    replace N := N.app (Fr.nil n0)
    show own_Run p e below _ (T14.setTop (mkF m 124 #[.val (.long q1), .second, .val (.long q2), .second, .val (.int p3), .val (.int p4), .val (.ref b1), .val (.ref b2), .val (.int (1 : Int32)), .val (.ref b2), .val (.ref b11), .val (.int (1 : Int32))] [(.int (0 : Int32))]))
    refine own_go (fun _ kS => XS.ifNo X14.here hx rfl (hb hby at_124) rfl ((if0 _ _).trans (teq (show (0 : Int32) = (0 : Int32) from (by decide))).2) kS) ?_
    show own_Run p e below _ (T14.setTop (mkF m 127 #[.val (.long q1), .second, .val (.long q2), .second, .val (.int p3), .val (.int p4), .val (.ref b1), .val (.ref b2), .val (.int (1 : Int32)), .val (.ref b2), .val (.ref b11), .val (.int (1 : Int32))] []))
    refine own_go (fun _ kS => XS.aload X14.here hx rfl (hb hby at_127) rfl rfl kS) ?_
    show own_Run p e below _ (T14.setTop (mkF m 129 #[.val (.long q1), .second, .val (.long q2), .second, .val (.int p3), .val (.int p4), .val (.ref b1), .val (.ref b2), .val (.int (1 : Int32)), .val (.ref b2), .val (.ref b11), .val (.int (1 : Int32))] [(.ref b11)]))
    refine own_callV X14 hx hZ e14 hown (⟨"com/example/narrow_gate/narrowgate/Item", "fencingToken", "()J"⟩ : MethodName) (hw _ (List.mem_of_getElem? (i := 51) rfl)) (hw _ (List.mem_of_getElem? (i := 52) rfl)) (hw _ (List.mem_of_getElem? (i := 54) rfl)) (hw _ (List.mem_of_getElem? (i := 53) rfl)) (hw _ (List.mem_of_getElem? (i := 3) rfl)) (hw _ (List.mem_of_getElem? (i := 55) rfl)) (by decide) b11 A11 [] [] (rm_fencingToken l Z a0 hw b11 q2 h11 F11_fencingToken) (by decide) 0 (by decide) (by decide) (by decide) rfl (by rw [hml]; rfl) (lenOf own_pd3 rfl) rfl (by show 2 * 0 + _ ≤ _; exact Nat.le_of_eq rfl) (hb hby at_129) (fun v15 h15 L15 T15 Q15 X15 e15 => ?_)
    obtain ⟨rfl, rfl, rfl⟩ := Q15
    replace N := N.app (Fr.nil n0)
    show own_Run p e below _ (T15.setTop (mkF m 132 #[.val (.long q1), .second, .val (.long q2), .second, .val (.int p3), .val (.int p4), .val (.ref b1), .val (.ref b2), .val (.int (1 : Int32)), .val (.ref b2), .val (.ref b11), .val (.int (1 : Int32))] [(.long q2)]))
    refine own_go (fun _ kS => XS.lloadN X15.here hx rfl (hb hby at_132) rfl kS) ?_
    show own_Run p e below _ (T15.setTop (mkF m 133 #[.val (.long q1), .second, .val (.long q2), .second, .val (.int p3), .val (.int p4), .val (.ref b1), .val (.ref b2), .val (.int (1 : Int32)), .val (.ref b2), .val (.ref b11), .val (.int (1 : Int32))] [(.long q2), (.long q2)]))
    refine own_go (fun _ kS => XS.lcmp X15.here hx rfl (hb hby at_133) rfl kS) ?_
    show own_Run p e below _ (T15.setTop (mkF m 134 #[.val (.long q1), .second, .val (.long q2), .second, .val (.int p3), .val (.int p4), .val (.ref b1), .val (.ref b2), .val (.int (1 : Int32)), .val (.ref b2), .val (.ref b11), .val (.int (1 : Int32))] [(.int (lcmpW q2 q2))]))
    refine own_go (fun _ kS => XS.ifNo X15.here hx rfl (hb hby at_134) rfl ((if0 _ _).trans (teq ((lw_eq q2 q2).mpr (show q2 = q2 from (rfl)))).2) kS) ?_
    show own_Run p e below _ (T15.setTop (mkF m 137 #[.val (.long q1), .second, .val (.long q2), .second, .val (.int p3), .val (.int p4), .val (.ref b1), .val (.ref b2), .val (.int (1 : Int32)), .val (.ref b2), .val (.ref b11), .val (.int (1 : Int32))] []))
    refine own_go (fun _ kS => XS.aload X15.here hx rfl (hb hby at_137) rfl rfl kS) ?_
    show own_Run p e below _ (T15.setTop (mkF m 139 #[.val (.long q1), .second, .val (.long q2), .second, .val (.int p3), .val (.int p4), .val (.ref b1), .val (.ref b2), .val (.int (1 : Int32)), .val (.ref b2), .val (.ref b11), .val (.int (1 : Int32))] [(.ref b11)]))
    refine own_callV X15 hx hZ e15 hown (⟨"com/example/narrow_gate/narrowgate/Item", "attempt", "()I"⟩ : MethodName) (hw _ (List.mem_of_getElem? (i := 56) rfl)) (hw _ (List.mem_of_getElem? (i := 57) rfl)) (hw _ (List.mem_of_getElem? (i := 59) rfl)) (hw _ (List.mem_of_getElem? (i := 58) rfl)) (hw _ (List.mem_of_getElem? (i := 3) rfl)) (hw _ (List.mem_of_getElem? (i := 60) rfl)) (by decide) b11 A11 [] [] (rm_attempt l Z a0 hw b11 p3 h11 F11_attempt) (by decide) 0 (by decide) (by decide) (by decide) rfl (by rw [hml]; rfl) (lenOf own_pd5 rfl) rfl (by show 2 * 0 + _ ≤ _; exact Nat.le_of_eq rfl) (hb hby at_139) (fun v16 h16 L16 T16 Q16 X16 e16 => ?_)
    obtain ⟨rfl, rfl, rfl⟩ := Q16
    replace N := N.app (Fr.nil n0)
    show own_Run p e below _ (T16.setTop (mkF m 142 #[.val (.long q1), .second, .val (.long q2), .second, .val (.int p3), .val (.int p4), .val (.ref b1), .val (.ref b2), .val (.int (1 : Int32)), .val (.ref b2), .val (.ref b11), .val (.int (1 : Int32))] [(.int p3)]))
    refine own_go (fun _ kS => XS.iload X16.here hx rfl (hb hby at_142) rfl kS) ?_
    show own_Run p e below _ (T16.setTop (mkF m 144 #[.val (.long q1), .second, .val (.long q2), .second, .val (.int p3), .val (.int p4), .val (.ref b1), .val (.ref b2), .val (.int (1 : Int32)), .val (.ref b2), .val (.ref b11), .val (.int (1 : Int32))] [(.int p3), (.int p3)]))
    refine own_go (fun _ kS => XS.icmpNo X16.here hx rfl (hb hby at_144) rfl (teq (show p3 = p3 from (rfl))).2 kS) ?_
    show own_Run p e below _ (T16.setTop (mkF m 147 #[.val (.long q1), .second, .val (.long q2), .second, .val (.int p3), .val (.int p4), .val (.ref b1), .val (.ref b2), .val (.int (1 : Int32)), .val (.ref b2), .val (.ref b11), .val (.int (1 : Int32))] []))
    refine own_go (fun _ kS => XS.iload X16.here hx rfl (hb hby at_147) rfl kS) ?_
    show own_Run p e below _ (T16.setTop (mkF m 149 #[.val (.long q1), .second, .val (.long q2), .second, .val (.int p3), .val (.int p4), .val (.ref b1), .val (.ref b2), .val (.int (1 : Int32)), .val (.ref b2), .val (.ref b11), .val (.int (1 : Int32))] [(.int (1 : Int32))]))
    refine own_go (fun _ kS => XS.ifNo X16.here hx rfl (hb hby at_149) rfl ((if0 _ _).trans (feq (show ¬ ((1 : Int32) = (0 : Int32)) from (by decide))).1) kS) ?_
    show own_Run p e below _ (T16.setTop (mkF m 152 #[.val (.long q1), .second, .val (.long q2), .second, .val (.int p3), .val (.int p4), .val (.ref b1), .val (.ref b2), .val (.int (1 : Int32)), .val (.ref b2), .val (.ref b11), .val (.int (1 : Int32))] []))
    refine own_go (fun _ kS => XS.aload X16.here hx rfl (hb hby at_152) rfl rfl kS) ?_
    show own_Run p e below _ (T16.setTop (mkF m 154 #[.val (.long q1), .second, .val (.long q2), .second, .val (.int p3), .val (.int p4), .val (.ref b1), .val (.ref b2), .val (.int (1 : Int32)), .val (.ref b2), .val (.ref b11), .val (.int (1 : Int32))] [(.ref b2)]))
    refine own_alen X16 hx hZ e16 A4 (2 : Int32) rfl rfl rfl (hb hby at_154) ?_
    show own_Run p e below _ (T16.setTop (mkF m 155 #[.val (.long q1), .second, .val (.long q2), .second, .val (.int p3), .val (.int p4), .val (.ref b1), .val (.ref b2), .val (.int (1 : Int32)), .val (.ref b2), .val (.ref b11), .val (.int (1 : Int32))] [(.int (2 : Int32))]))
    refine own_go (fun _ kS => XS.iload X16.here hx rfl (hb hby at_155) rfl kS) ?_
    show own_Run p e below _ (T16.setTop (mkF m 157 #[.val (.long q1), .second, .val (.long q2), .second, .val (.int p3), .val (.int p4), .val (.ref b1), .val (.ref b2), .val (.int (1 : Int32)), .val (.ref b2), .val (.ref b11), .val (.int (1 : Int32))] [(.int (1 : Int32)), (.int (2 : Int32))]))
    refine own_go (fun _ kS => XS.ifNo X16.here hx rfl (hb hby at_157) rfl ((if0 _ _).trans (feq (show ¬ ((1 : Int32) = (0 : Int32)) from (by decide))).1) kS) ?_
    show own_Run p e below _ (T16.setTop (mkF m 160 #[.val (.long q1), .second, .val (.long q2), .second, .val (.int p3), .val (.int p4), .val (.ref b1), .val (.ref b2), .val (.int (1 : Int32)), .val (.ref b2), .val (.ref b11), .val (.int (1 : Int32))] [(.int (2 : Int32))]))
    refine own_go (fun _ kS => XS.iconst X16.here hx rfl (hb hby at_160) kS) ?_
    show own_Run p e below _ (T16.setTop (mkF m 161 #[.val (.long q1), .second, .val (.long q2), .second, .val (.int p3), .val (.int p4), .val (.ref b1), .val (.ref b2), .val (.int (1 : Int32)), .val (.ref b2), .val (.ref b11), .val (.int (1 : Int32))] [(.int (2 : Int32)), (.int (2 : Int32))]))
    refine own_go (fun _ kS => XS.goto X16.here hx rfl (pc0 := 161) (pc' := 165) rfl (hb hby at_161) (by decide) (by decide) kS) ?_
    show own_Run p e below _ (T16.setTop (mkF m 165 #[.val (.long q1), .second, .val (.long q2), .second, .val (.int p3), .val (.int p4), .val (.ref b1), .val (.ref b2), .val (.int (1 : Int32)), .val (.ref b2), .val (.ref b11), .val (.int (1 : Int32))] [(.int (2 : Int32)), (.int (2 : Int32))]))
    refine own_go (fun _ kS => XS.icmpNo X16.here hx rfl (hb hby at_165) rfl (teq (show (2 : Int32) = (2 : Int32) from (by decide))).2 kS) ?_
    show own_Run p e below _ (T16.setTop (mkF m 168 #[.val (.long q1), .second, .val (.long q2), .second, .val (.int p3), .val (.int p4), .val (.ref b1), .val (.ref b2), .val (.int (1 : Int32)), .val (.ref b2), .val (.ref b11), .val (.int (1 : Int32))] []))
    refine own_go (fun _ kS => XS.iconst X16.here hx rfl (hb hby at_168) kS) ?_
    show own_Run p e below _ (T16.setTop (mkF m 169 #[.val (.long q1), .second, .val (.long q2), .second, .val (.int p3), .val (.int p4), .val (.ref b1), .val (.ref b2), .val (.int (1 : Int32)), .val (.ref b2), .val (.ref b11), .val (.int (1 : Int32))] [(.int (1 : Int32))]))
    refine own_go (fun _ kS => XS.goto X16.here hx rfl (pc0 := 169) (pc' := 173) rfl (hb hby at_169) (by decide) (by decide) kS) ?_
    show own_Run p e below _ (T16.setTop (mkF m 173 #[.val (.long q1), .second, .val (.long q2), .second, .val (.int p3), .val (.int p4), .val (.ref b1), .val (.ref b2), .val (.int (1 : Int32)), .val (.ref b2), .val (.ref b11), .val (.int (1 : Int32))] [(.int (1 : Int32))]))
    refine own_retNW (vm₁ := T11.vm) X16 e16 hS hk hx (t := .boolean) hret hlk (by simp) (hb hby at_173) (by decide) (by decide) ?_
    exact ⟨rfl, N⟩
set_option maxRecDepth 65536 in
set_option maxHeartbeats 40000000 in
theorem own_comes_1 {Post : Tables → Env → Array Value → State → Outcome → State → Prop} (hpost : ∀ tb e args s v u, (limb_1_1.after args s (.returned v) u = true ∧ limb_1_2.after args s (.returned v) u = true) → ReturnedEndW s (.returned v) u (Jvm.fieldLocs frame_1_writes args s ++ Jvm.arrayLocs frame_1_arrays args s ++ Jvm.staticLocs frame_1_statics s) 16 1152 → Post tb e args s (.returned v) u) :
    ArmFor flags0 classFile x code maxLocals ret World_1 tables_1 room_1 Calls_1 rest_1 Pre_1 Post := by
  intro l hfl _ _ p e ha hc hk s m args below hf hA hF happ hP
  obtain ⟨hcalls, hrest, hpre⟩ := hP
  obtain ⟨-, -, -, hnamed, -, -, -, hat⟩ := (Spec.applies_iff hf).mp happ
  obtain ⟨hg, hn⟩ := and_e (Cond.before_iff.mp (show (Jvm.Cond.and given_1 narrow_1).before args s = true from hpre))
  obtain ⟨g0, hg⟩ := and_e hg
  obtain ⟨k0, hg⟩ := and_e hg
  obtain ⟨k1, hg⟩ := and_e hg
  obtain ⟨k2, hg⟩ := and_e hg
  have k3 := hg
  obtain ⟨w0, w1, w2, w3, rfl⟩ : ∃ w0 w1 w2 w3 : Value, args = #[w0, w1, w2, w3] := by
    have hs : args.size = 4 := by simpa [Cond.value, given_1] using g0
    obtain ⟨L⟩ := args
    match L, hs with
    | [w0, w1, w2, w3], _ => exact ⟨w0, w1, w2, w3, rfl⟩
  have hw := fun d (hd : d ∈ tables_1) => atoms_spec (ws := Jvm.Cond.code x code maxLocals ret :: tables_1) hat d (List.mem_cons_of_mem _ hd)
  obtain ⟨i0, ei0⟩ := isL_v k0
  obtain rfl : w0 = (.long i0) := Option.some.inj ei0
  obtain ⟨i1, ei1⟩ := isL_v k1
  obtain rfl : w1 = (.long i1) := Option.some.inj ei1
  obtain ⟨i2, ei2⟩ := is_v k2
  obtain rfl : w2 = (.int i2) := Option.some.inj ei2
  obtain ⟨i3, ei3⟩ := is_v k3
  obtain rfl : w3 = (.int i3) := Option.some.inj ei3
  obtain ⟨n, o, h1, h2, h3, _, L, rfl, ⟨rfl, N⟩, hq⟩ := rm_law l s _ hw i0 i1 i2 i3 s.heap.size s.heap (Nat.le_refl _) tables_1 p e ha hc hk s m _ below hf ((Spec.applies_iff_loose hf).mp happ).1 ⟨rfl, State.Warmed39.refl s, rfl⟩ trivial
  refine ⟨n, _, h1, h2, h3, hpost _ _ _ _ _ _ ⟨Cond.after_iff.mpr rfl, Cond.after_iff.mpr (eq_i res_at (Term.int_eval (1)) rfl)⟩ ⟨hq.1, hq.2.1, hq.2.2.1, (hq.2.2.2.sift fun y hy => Or.inr (N y hy)).mono (by decide) (by decide)⟩⟩
theorem main_1_1 : Claimed_1_1 := own_comes_1 fun _ _ _ _ _ _ h hF => ⟨h.1, hF⟩
theorem main_1_2 : Claimed_1_2 := own_comes_1 fun _ _ _ _ _ _ h hF => ⟨h.2, hF⟩
end Jvm.Pilot.@@N@@
namespace Jvm.Pilot.@@N@@
open Jvm Jvm.ClassFile Sem Op Lib Jvm.Free Jvm.Stand Jvm.Pilot.@@N@@.Jvm.D
/-! MADE BY PROGRAM (witnessworld.py) out of the Statement's table words and the real class files: 15 classes; the members and pool entries that the words name. The judged class is class 1, her method 1. -/
namespace start1
open Jvm.ClassFile
def u (s : String) : CpInfo := .utf8 (stringToUtf16 s)
/-- a pool by its gaps: so many unusable entries, then the entry; so many at the end -/
def gap : Nat → List CpInfo → List CpInfo
  | 0, r => r
  | n + 1, r => .unusable :: gap n r
def poolList (es : List (Nat × CpInfo)) (last : Nat) : List CpInfo := es.foldr (fun e r => gap e.1 (e.2 :: r)) (gap last [])
def pool (es : List (Nat × CpInfo)) (last : Nat) : Array CpInfo := ⟨poolList es last⟩
def fileOf (pool : Array CpInfo) (this : Nat) (attrs : Array Attribute := #[]) (ms : Array MethodInfo := #[]) (fl : Nat := 33) (sup : Nat := 0) (ifs : Array Nat := #[]) (fds : Array FieldInfo := #[]) : ClassFile where
  minorVersion := 0
  majorVersion := 65
  constantPool := pool
  accessFlags := fl
  thisClass := this
  superClass := sup
  interfaces := ifs
  fields := fds
  methods := ms
  attributes := attrs
def plain (name : String) (sup : Option ClassId) : Class where
  name := name
  kind := .ordinary
  loader := none
  accessFlags := 33
  super := sup
  interfaces := #[]
  cf := none
  fields := #[]
  methods := #[]
  instanceTypes := #[]
  staticTypes := #[]
  resolved := #[]
  callSites := []
  init := .initialized
  statics := none
  mirror := none

def pool0 : Array CpInfo := pool [(5, u "<init>"), (0, u "()V"), (1, .class_ 10), (1, u "java/lang/Object")] 113

def k0c0 : Code := { maxStack := 0, maxLocals := 1, code := object_method_1_code, exceptionTable := #[], attributes := #[] }
def k0m0 : Method := { name := "<init>", desc := "()V", sig := { parameters := [], returnType := none }, accessFlags := 1, code := some k0c0 }
/-- java/lang/Object -/
def k0 : Class := { plain "java/lang/Object" none with
  accessFlags := 33
  interfaces := #[]
  cf := some (fileOf pool0 8 #[] #[{ accessFlags := 1, nameIndex := 5, descriptorIndex := 6, attributes := #[] }] 33 0 #[] #[])
  fields := #[]
  methods := #[k0m0]
  instanceTypes := #[]
  staticTypes := #[]
  resolved := Array.replicate 124 none
  statics := none }

def pool1 : Array CpInfo := pool [(2, .class_ 4), (1, u "java/lang/Object"), (0, u "<init>"), (0, u "()V"), (0, .methodref 8 9), (0, .class_ 10), (0, .nameAndType 11 12), (0, u "com/example/narrow_gate/narrowgate/Item"), (0, u "claimed"), (0, u "(J[BJI)Lcom/example/narrow_gate/narrowgate/Item;"), (0, .methodref 8 14), (0, .nameAndType 15 16), (0, u "id"), (0, u "()J"), (0, .methodref 8 18), (0, .nameAndType 19 20), (0, u "payload"), (0, u "()[B"), (0, .methodref 8 22), (0, .nameAndType 23 24), (0, u "payloadParts"), (0, u "()I"), (0, .methodref 8 26), (0, .nameAndType 27 16), (0, u "fencingToken"), (0, .methodref 8 29), (0, .nameAndType 30 24), (0, u "attempt"), (0, .class_ 32), (0, u "com/example/narrow_gate/narrowgate/ItemClaimedPinLaw"), (2, u "law"), (0, u "(JJII)Z")] 5

def k1m0 : Method := { name := "<init>", desc := "()V", sig := { parameters := [], returnType := none }, accessFlags := 1, code := none }
def k1c1 : Code := { maxStack := 6, maxLocals := 12, code := code, exceptionTable := #[], attributes := #[] }
def k1m1 : Method := { name := "law", desc := "(JJII)Z", sig := { parameters := [.long, .long, .int, .int], returnType := some .boolean }, accessFlags := 9, code := some k1c1 }
/-- com/example/narrow_gate/narrowgate/ItemClaimedPinLaw -/
def k1 : Class := { plain "com/example/narrow_gate/narrowgate/ItemClaimedPinLaw" (some 0) with
  accessFlags := 49
  interfaces := #[]
  cf := some (fileOf pool1 31 #[] #[{ accessFlags := 1, nameIndex := 5, descriptorIndex := 6, attributes := #[] }, { accessFlags := 9, nameIndex := 35, descriptorIndex := 36, attributes := #[] }] 49 2 #[] #[])
  fields := #[]
  methods := #[k1m0, k1m1]
  instanceTypes := #[]
  staticTypes := #[]
  resolved := Array.replicate 42 none
  statics := none }

def pool2 : Array CpInfo := pool [(1, .methodref 2 3), (0, .class_ 4), (0, .nameAndType 5 6), (0, u "java/lang/Object"), (0, u "<init>"), (0, u "()V"), (0, .fieldref 8 9), (0, .class_ 10), (0, .nameAndType 11 12), (0, u "com/example/narrow_gate/narrowgate/Item"), (0, u "id"), (0, u "J"), (0, .fieldref 8 14), (0, .nameAndType 15 16), (0, u "payload"), (0, u "[B"), (0, .fieldref 8 18), (0, .nameAndType 19 20), (0, u "payloadParts"), (0, u "I"), (0, .fieldref 8 22), (0, .nameAndType 23 12), (0, u "fencingToken"), (0, .fieldref 8 25), (0, .nameAndType 26 20), (0, u "attempt"), (0, .string 15), (0, .methodref 29 30), (0, .class_ 31), (0, .nameAndType 32 33), (0, u "java/util/Objects"), (0, u "requireNonNull"), (0, u "(Ljava/lang/Object;Ljava/lang/String;)Ljava/lang/Object;"), (0, .class_ 16), (0, .methodref 8 36), (0, .nameAndType 5 37), (0, u "(J[BIJI)V"), (4, u "claimed"), (0, u "(J[BJI)Lcom/example/narrow_gate/narrowgate/Item;"), (4, u "()J"), (0, u "()[B"), (0, u "()I")] 2

def k2c0 : Code := { maxStack := 3, maxLocals := 8, code := prog_8_method_1_code, exceptionTable := #[], attributes := #[] }
def k2m0 : Method := { name := "<init>", desc := "(J[BIJI)V", sig := { parameters := [.long, (.array .byte), .int, .long, .int], returnType := none }, accessFlags := 2, code := some k2c0 }
def k2c1 : Code := { maxStack := 9, maxLocals := 6, code := prog_8_method_2_code, exceptionTable := #[], attributes := #[] }
def k2m1 : Method := { name := "claimed", desc := "(J[BJI)Lcom/example/narrow_gate/narrowgate/Item;", sig := { parameters := [.long, (.array .byte), .long, .int], returnType := some (.object "com/example/narrow_gate/narrowgate/Item") }, accessFlags := 9, code := some k2c1 }
def k2c2 : Code := { maxStack := 2, maxLocals := 1, code := prog_8_method_5_code, exceptionTable := #[], attributes := #[] }
def k2m2 : Method := { name := "id", desc := "()J", sig := { parameters := [], returnType := some .long }, accessFlags := 1, code := some k2c2 }
def k2c3 : Code := { maxStack := 1, maxLocals := 1, code := prog_8_method_6_code, exceptionTable := #[], attributes := #[] }
def k2m3 : Method := { name := "payload", desc := "()[B", sig := { parameters := [], returnType := some (.array .byte) }, accessFlags := 1, code := some k2c3 }
def k2c4 : Code := { maxStack := 1, maxLocals := 1, code := prog_8_method_7_code, exceptionTable := #[], attributes := #[] }
def k2m4 : Method := { name := "payloadParts", desc := "()I", sig := { parameters := [], returnType := some .int }, accessFlags := 1, code := some k2c4 }
def k2c5 : Code := { maxStack := 2, maxLocals := 1, code := prog_8_method_8_code, exceptionTable := #[], attributes := #[] }
def k2m5 : Method := { name := "fencingToken", desc := "()J", sig := { parameters := [], returnType := some .long }, accessFlags := 1, code := some k2c5 }
def k2c6 : Code := { maxStack := 1, maxLocals := 1, code := prog_8_method_9_code, exceptionTable := #[], attributes := #[] }
def k2m6 : Method := { name := "attempt", desc := "()I", sig := { parameters := [], returnType := some .int }, accessFlags := 1, code := some k2c6 }
/-- com/example/narrow_gate/narrowgate/Item -/
def k2 : Class := { plain "com/example/narrow_gate/narrowgate/Item" (some 0) with
  accessFlags := 49
  interfaces := #[]
  cf := some (fileOf pool2 8 #[] #[{ accessFlags := 2, nameIndex := 5, descriptorIndex := 37, attributes := #[] }, { accessFlags := 9, nameIndex := 42, descriptorIndex := 43, attributes := #[] }, { accessFlags := 1, nameIndex := 11, descriptorIndex := 48, attributes := #[] }, { accessFlags := 1, nameIndex := 15, descriptorIndex := 49, attributes := #[] }, { accessFlags := 1, nameIndex := 19, descriptorIndex := 50, attributes := #[] }, { accessFlags := 1, nameIndex := 23, descriptorIndex := 48, attributes := #[] }, { accessFlags := 1, nameIndex := 26, descriptorIndex := 50, attributes := #[] }] 49 2 #[] #[{ accessFlags := 18, nameIndex := 11, descriptorIndex := 12, attributes := #[] }, { accessFlags := 18, nameIndex := 15, descriptorIndex := 16, attributes := #[] }, { accessFlags := 18, nameIndex := 19, descriptorIndex := 20, attributes := #[] }, { accessFlags := 18, nameIndex := 23, descriptorIndex := 12, attributes := #[] }, { accessFlags := 18, nameIndex := 26, descriptorIndex := 20, attributes := #[] }])
  fields := #[{ name := "id", type := .long, accessFlags := 18, slot := 0, constantValue := 0 }, { name := "payload", type := (.array .byte), accessFlags := 18, slot := 1, constantValue := 0 }, { name := "payloadParts", type := .int, accessFlags := 18, slot := 2, constantValue := 0 }, { name := "fencingToken", type := .long, accessFlags := 18, slot := 3, constantValue := 0 }, { name := "attempt", type := .int, accessFlags := 18, slot := 4, constantValue := 0 }]
  methods := #[k2m0, k2m1, k2m2, k2m3, k2m4, k2m5, k2m6]
  instanceTypes := #[.long, (.array .byte), .int, .long, .int]
  staticTypes := #[]
  resolved := Array.replicate 53 none
  statics := none }

def pool3 : Array CpInfo := pool [(1, .class_ 2), (0, u "java/io/Serializable"), (0, .class_ 4), (0, u "java/lang/Object")] 2

/-- java/io/Serializable -/
def k3 : Class := { plain "java/io/Serializable" (some 0) with
  accessFlags := 1537
  interfaces := #[]
  cf := some (fileOf pool3 1 #[] #[] 1537 3 #[] #[])
  fields := #[]
  methods := #[]
  instanceTypes := #[]
  staticTypes := #[]
  resolved := Array.replicate 7 none
  statics := none }

def pool4 : Array CpInfo := pool [(1, .class_ 2), (0, u "java/lang/Comparable"), (0, .class_ 4), (0, u "java/lang/Object")] 7

/-- java/lang/Comparable -/
def k4 : Class := { plain "java/lang/Comparable" (some 0) with
  accessFlags := 1537
  interfaces := #[]
  cf := some (fileOf pool4 1 #[] #[] 1537 3 #[] #[])
  fields := #[]
  methods := #[]
  instanceTypes := #[]
  staticTypes := #[]
  resolved := Array.replicate 12 none
  statics := none }

def pool5 : Array CpInfo := pool [(2, .class_ 4), (1, u "java/lang/CharSequence"), (42, .class_ 48), (0, u "java/lang/CharSequence$1CodePointIterator"), (10, .class_ 60), (0, u "java/lang/CharSequence$1CharIterator"), (5, .class_ 67), (0, u "java/lang/Object")] 63

/-- java/lang/CharSequence -/
def k5 : Class := { plain "java/lang/CharSequence" (some 0) with
  accessFlags := 1537
  interfaces := #[]
  cf := some (fileOf pool5 2 #[.nestMembers #[47, 59]] #[] 1537 66 #[] #[])
  fields := #[]
  methods := #[]
  instanceTypes := #[]
  staticTypes := #[]
  resolved := Array.replicate 131 none
  statics := none }

def pool6 : Array CpInfo := pool [(1, .class_ 2), (0, u "java/lang/constant/Constable"), (0, .class_ 4), (0, u "java/lang/Object")] 6

/-- java/lang/constant/Constable -/
def k6 : Class := { plain "java/lang/constant/Constable" (some 0) with
  accessFlags := 1537
  interfaces := #[]
  cf := some (fileOf pool6 1 #[] #[] 1537 3 #[] #[])
  fields := #[]
  methods := #[]
  instanceTypes := #[]
  staticTypes := #[]
  resolved := Array.replicate 11 none
  statics := none }

def pool7 : Array CpInfo := pool [(1, .class_ 2), (0, u "java/lang/constant/ConstantDesc"), (0, .class_ 4), (0, u "java/lang/Object")] 32

/-- java/lang/constant/ConstantDesc -/
def k7 : Class := { plain "java/lang/constant/ConstantDesc" (some 0) with
  accessFlags := 1537
  interfaces := #[]
  cf := some (fileOf pool7 1 #[] #[] 1537 3 #[] #[])
  fields := #[]
  methods := #[]
  instanceTypes := #[]
  staticTypes := #[]
  resolved := Array.replicate 37 none
  statics := none }

def pool8 : Array CpInfo := pool [(2, .class_ 4), (1, u "java/lang/Object"), (0, u "<init>"), (0, u "()V"), (3, .class_ 12), (1, u "java/lang/String"), (0, u "value"), (0, u "[B"), (2, u "coder"), (0, u "B"), (2, u "hash"), (0, u "I"), (2, u "hashIsZero"), (0, u "Z"), (13, u "COMPACT_STRINGS"), (534, .class_ 576), (0, u "java/lang/CharSequence"), (22, u "CASE_INSENSITIVE_ORDER"), (0, u "Ljava/util/Comparator;"), (500, u "serialPersistentFields"), (0, u "[Ljava/io/ObjectStreamField;"), (0, .class_ 1104), (0, u "java/lang/String$CaseInsensitiveComparator"), (1, .class_ 1107), (0, u "java/io/Serializable"), (0, .class_ 1109), (0, u "java/lang/Comparable"), (0, .class_ 1111), (0, u "java/lang/constant/Constable"), (0, .class_ 1113), (0, u "java/lang/constant/ConstantDesc"), (2, u "serialVersionUID"), (0, u "J"), (3, u "REPL"), (0, u "C"), (2, u "LATIN1"), (1, u "UTF16")] 323

def k8m0 : Method := { name := "<init>", desc := "()V", sig := { parameters := [], returnType := none }, accessFlags := 1, code := none }
/-- java/lang/String -/
def k8 : Class := { plain "java/lang/String" (some 0) with
  accessFlags := 49
  interfaces := #[3, 4, 5, 6, 7]
  cf := some (fileOf pool8 10 #[.nestMembers #[1103]] #[{ accessFlags := 1, nameIndex := 5, descriptorIndex := 6, attributes := #[] }] 49 2 #[1106, 1108, 575, 1110, 1112] #[{ accessFlags := 18, nameIndex := 13, descriptorIndex := 14, attributes := #[] }, { accessFlags := 18, nameIndex := 17, descriptorIndex := 18, attributes := #[] }, { accessFlags := 2, nameIndex := 21, descriptorIndex := 22, attributes := #[] }, { accessFlags := 2, nameIndex := 25, descriptorIndex := 26, attributes := #[] }, { accessFlags := 26, nameIndex := 1116, descriptorIndex := 1117, attributes := #[] }, { accessFlags := 24, nameIndex := 40, descriptorIndex := 26, attributes := #[] }, { accessFlags := 26, nameIndex := 1101, descriptorIndex := 1102, attributes := #[] }, { accessFlags := 26, nameIndex := 1121, descriptorIndex := 1122, attributes := #[] }, { accessFlags := 25, nameIndex := 599, descriptorIndex := 600, attributes := #[] }, { accessFlags := 24, nameIndex := 1125, descriptorIndex := 18, attributes := #[] }, { accessFlags := 24, nameIndex := 1127, descriptorIndex := 18, attributes := #[] }])
  fields := #[{ name := "value", type := (.array .byte), accessFlags := 18, slot := 0, constantValue := 0 }, { name := "coder", type := .byte, accessFlags := 18, slot := 1, constantValue := 0 }, { name := "hash", type := .int, accessFlags := 2, slot := 2, constantValue := 0 }, { name := "hashIsZero", type := .boolean, accessFlags := 2, slot := 3, constantValue := 0 }, { name := "serialVersionUID", type := .long, accessFlags := 26, slot := 0, constantValue := 0 }, { name := "COMPACT_STRINGS", type := .boolean, accessFlags := 24, slot := 1, constantValue := 0 }, { name := "serialPersistentFields", type := (.array (.object "java/io/ObjectStreamField")), accessFlags := 26, slot := 2, constantValue := 0 }, { name := "REPL", type := .char, accessFlags := 26, slot := 3, constantValue := 0 }, { name := "CASE_INSENSITIVE_ORDER", type := (.object "java/util/Comparator"), accessFlags := 25, slot := 4, constantValue := 0 }, { name := "LATIN1", type := .byte, accessFlags := 24, slot := 5, constantValue := 0 }, { name := "UTF16", type := .byte, accessFlags := 24, slot := 6, constantValue := 0 }]
  methods := #[k8m0]
  instanceTypes := #[(.array .byte), .byte, .int, .boolean]
  staticTypes := #[.long, .boolean, (.array (.object "java/io/ObjectStreamField")), .char, (.object "java/util/Comparator"), .byte, .byte]
  resolved := Array.replicate 1451 none
  statics := none }

def pool9 : Array CpInfo := pool [(2, .class_ 4), (1, u "java/lang/Object"), (0, u "<init>"), (0, u "()V"), (35, .class_ 44), (1, u "java/util/Objects"), (0, u "requireNonNull"), (48, u "(Ljava/lang/Object;Ljava/lang/String;)Ljava/lang/Object;")] 89

def k9m0 : Method := { name := "<init>", desc := "()V", sig := { parameters := [], returnType := none }, accessFlags := 2, code := none }
def k9c1 : Code := { maxStack := 3, maxLocals := 2, code := jdk_31_method_11_code, exceptionTable := #[], attributes := #[] }
def k9m1 : Method := { name := "requireNonNull", desc := "(Ljava/lang/Object;Ljava/lang/String;)Ljava/lang/Object;", sig := { parameters := [(.object "java/lang/Object"), (.object "java/lang/String")], returnType := some (.object "java/lang/Object") }, accessFlags := 9, code := some k9c1 }
/-- java/util/Objects -/
def k9 : Class := { plain "java/util/Objects" (some 0) with
  accessFlags := 49
  interfaces := #[]
  cf := some (fileOf pool9 42 #[] #[{ accessFlags := 2, nameIndex := 5, descriptorIndex := 6, attributes := #[] }, { accessFlags := 9, nameIndex := 45, descriptorIndex := 94, attributes := #[] }] 49 2 #[] #[])
  fields := #[]
  methods := #[k9m0, k9m1]
  instanceTypes := #[]
  staticTypes := #[]
  resolved := Array.replicate 184 none
  statics := none }

def pool10 : Array CpInfo := pool [(1, u "java/lang/Cloneable"), (0, .class_ 1), (0, u "java/lang/Object"), (0, .class_ 3)] 3

/-- java/lang/Cloneable -/
def k10 : Class := { plain "java/lang/Cloneable" (some 0) with
  accessFlags := 1537
  interfaces := #[]
  cf := some (fileOf pool10 2 #[] #[] 1537 4 #[] #[])
  fields := #[]
  methods := #[]
  instanceTypes := #[]
  staticTypes := #[]
  resolved := Array.replicate 8 none
  statics := none }

/-- the primitive byte -/
def k11 : Class := { plain "byte" none with kind := .primitive 'B', accessFlags := 0x411 }
/-- [B -/
def k12 : Class := { plain "[B" (some 0) with kind := .array 11 .byte, interfaces := #[10, 3], accessFlags := 1041 }

/-- the primitive int -/
def k13 : Class := { plain "int" none with kind := .primitive 'I', accessFlags := 0x411 }
/-- [I -/
def k14 : Class := { plain "[I" (some 0) with kind := .array 13 .int, interfaces := #[10, 3], accessFlags := 1041 }

def heap : Heap := #[]
def classes : Array Class := #[k0, k1, k2, k3, k4, k5, k6, k7, k8, k9, k10, k11, k12, k13, k14]
def interned : List (Array UInt16 × Addr) := []
def slotsUsed : Nat := 0
def theMethod : MethodId := ⟨1, 1⟩
def args0 : Array Value := #[.long 5, .long 7, .int 3, .int 2]
def aboutOver (below : List Frame) : State where
  vm := { classes := classes, interned := interned.toArray }
  heap := heap
  slotsUsed := slotsUsed
  threads := #[{ frames := .invoking theMethod args0 :: below }]
def below0 : List Frame := [.native { method := ⟨0, 0⟩, args := #[] }]
def about1 : State := aboutOver below0
def p0 : Program := .bare "" "" ""
def e0 : Env := launch0.env 0 0 0
theorem w_frames : about1.frames = Frame.invoking theMethod args0 :: below0 := rfl
set_option maxRecDepth 65536 in
theorem w_args : argsFit about1.vm theMethod args0 = true := by decide +kernel
set_option maxRecDepth 65536 in
theorem w_heap : heapFits about1 = true := by decide +kernel
set_option maxRecDepth 65536 in
theorem w_runnable : about1.curStatus? = some .runnable := by decide +kernel
set_option maxRecDepth 65536 in
theorem w_alone : about1.alone = true := by decide +kernel
set_option maxRecDepth 65536 in
theorem w_named : about1.methodNamed? x = some theMethod := by decide +kernel
set_option maxRecDepth 65536 in
theorem w_hears : about1.hears theMethod below0 = true := by decide +kernel
set_option maxRecDepth 65536 in
theorem w_ripe : about1.ripe theMethod args0 below0 = true := by decide +kernel
theorem w_running : about1.status = .running := rfl
set_option maxRecDepth 65536 in
theorem w_room : about1.hasRoom e0.platform room_1 = true :=
  launch0.hasRoom_least _ room_1 (by decide +kernel) (by decide +kernel) (by decide +kernel) (by decide +kernel) (by decide +kernel) (by decide +kernel)
theorem allAtoms_all (ts : List Jvm.Cond) (a : Array Jvm.Value) (st : Jvm.State) : (allAtoms ts).before a st = ts.all (fun c => c.before a st) := by
  induction ts with
  | nil => rfl
  | cons c t ih =>
    show (Jvm.Cond.and c (allAtoms t)).before a st = _
    rw [Jvm.Cond.before_and, ih, List.all_cons]
def words1 : List Jvm.Cond := Jvm.Cond.code x code maxLocals ret :: tables_1
/-- a 'code' word, met by the world's own term for the bytes: nothing is compared byte by byte -/
theorem code_word {y : MethodName} {bytes : ByteArray} {mx : Nat} {rt : Option FieldType} {a : Array Value} {s : State} {m : MethodId} {meth : Method} {c : Code} (h1 : s.methodNamed? y = some m) (h2 : s.vm.method? m = some meth) (h3 : meth.code = some c) (h4 : c.code = bytes)
    (h5 : (c.maxLocals == mx && c.exceptionTable.isEmpty && decide (c.maxStack ≤ mostOperands) && decide (meth.sig.returnType = rt) && !meth.locks && decide (parseMethodDescriptor y.desc = some meth.sig)) = true) : (Jvm.Cond.code y bytes mx rt).before a s = true := by
  simp only [Bool.and_eq_true, beq_iff_eq, Bool.not_eq_true', decide_eq_true_eq] at h5
  obtain ⟨⟨⟨⟨⟨g1, g2⟩, g3⟩, g4⟩, g5⟩, g6⟩ := h5
  simp [Cond.before, Cond.holds, Cond.value, h1, h2, h3, h4, g1, g2, g3, g4, g5, g6]
def isCode : Jvm.Cond → Bool
  | .code _ _ _ _ => true
  | _ => false
theorem all_split {L : List Jvm.Cond} {P : Jvm.Cond → Bool} (h1 : L.all (fun c => isCode c || P c) = true) (h2 : ∀ c ∈ L.filter isCode, P c = true) : L.all P = true := by
  refine List.all_eq_true.mpr fun c hc => ?_
  have h := List.all_eq_true.mp h1 c hc
  rcases Bool.eq_false_or_eq_true (isCode c) with hi | hi
  · exact h2 c (List.mem_filter.mpr ⟨hc, hi⟩)
  · simpa [hi] using h
set_option maxRecDepth 65536 in
theorem w_c0 : (Jvm.Cond.code x code maxLocals ret).before args0 about1 = true := code_word (m := ⟨1, 1⟩) (meth := k1m1) (c := k1c1) (by decide +kernel) rfl rfl rfl (by decide +kernel)
set_option maxRecDepth 65536 in
theorem w_c1 : (Jvm.Cond.code ({ cls := "com/example/narrow_gate/narrowgate/Item", name := "claimed", desc := "(J[BJI)Lcom/example/narrow_gate/narrowgate/Item;" } : Jvm.MethodName) prog_8_method_2_code (6 : Nat) (Option.some (Jvm.ClassFile.FieldType.object "com/example/narrow_gate/narrowgate/Item"))).before args0 about1 = true := code_word (m := ⟨2, 1⟩) (meth := k2m1) (c := k2c1) (by decide +kernel) rfl rfl rfl (by decide +kernel)
set_option maxRecDepth 65536 in
theorem w_c2 : (Jvm.Cond.code ({ cls := "java/util/Objects", name := "requireNonNull", desc := "(Ljava/lang/Object;Ljava/lang/String;)Ljava/lang/Object;" } : Jvm.MethodName) jdk_31_method_11_code (2 : Nat) (Option.some (Jvm.ClassFile.FieldType.object "java/lang/Object"))).before args0 about1 = true := code_word (m := ⟨9, 1⟩) (meth := k9m1) (c := k9c1) (by decide +kernel) rfl rfl rfl (by decide +kernel)
set_option maxRecDepth 65536 in
theorem w_c3 : (Jvm.Cond.code ({ cls := "com/example/narrow_gate/narrowgate/Item", name := "<init>", desc := "(J[BIJI)V" } : Jvm.MethodName) prog_8_method_1_code (8 : Nat) (Option.none : Option Jvm.ClassFile.FieldType)).before args0 about1 = true := code_word (m := ⟨2, 0⟩) (meth := k2m0) (c := k2c0) (by decide +kernel) rfl rfl rfl (by decide +kernel)
set_option maxRecDepth 65536 in
theorem w_c4 : (Jvm.Cond.code ({ cls := "java/lang/Object", name := "<init>", desc := "()V" } : Jvm.MethodName) object_method_1_code (1 : Nat) (Option.none : Option Jvm.ClassFile.FieldType)).before args0 about1 = true := code_word (m := ⟨0, 0⟩) (meth := k0m0) (c := k0c0) (by decide +kernel) rfl rfl rfl (by decide +kernel)
set_option maxRecDepth 65536 in
theorem w_c5 : (Jvm.Cond.code ({ cls := "com/example/narrow_gate/narrowgate/Item", name := "id", desc := "()J" } : Jvm.MethodName) prog_8_method_5_code (1 : Nat) (Option.some Jvm.ClassFile.FieldType.long)).before args0 about1 = true := code_word (m := ⟨2, 2⟩) (meth := k2m2) (c := k2c2) (by decide +kernel) rfl rfl rfl (by decide +kernel)
set_option maxRecDepth 65536 in
theorem w_c6 : (Jvm.Cond.code ({ cls := "com/example/narrow_gate/narrowgate/Item", name := "payload", desc := "()[B" } : Jvm.MethodName) prog_8_method_6_code (1 : Nat) (Option.some (Jvm.ClassFile.FieldType.array Jvm.ClassFile.FieldType.byte))).before args0 about1 = true := code_word (m := ⟨2, 3⟩) (meth := k2m3) (c := k2c3) (by decide +kernel) rfl rfl rfl (by decide +kernel)
set_option maxRecDepth 65536 in
theorem w_c7 : (Jvm.Cond.code ({ cls := "com/example/narrow_gate/narrowgate/Item", name := "payloadParts", desc := "()I" } : Jvm.MethodName) prog_8_method_7_code (1 : Nat) (Option.some Jvm.ClassFile.FieldType.int)).before args0 about1 = true := code_word (m := ⟨2, 4⟩) (meth := k2m4) (c := k2c4) (by decide +kernel) rfl rfl rfl (by decide +kernel)
set_option maxRecDepth 65536 in
theorem w_c8 : (Jvm.Cond.code ({ cls := "com/example/narrow_gate/narrowgate/Item", name := "fencingToken", desc := "()J" } : Jvm.MethodName) prog_8_method_8_code (1 : Nat) (Option.some Jvm.ClassFile.FieldType.long)).before args0 about1 = true := code_word (m := ⟨2, 5⟩) (meth := k2m5) (c := k2c5) (by decide +kernel) rfl rfl rfl (by decide +kernel)
set_option maxRecDepth 65536 in
theorem w_c9 : (Jvm.Cond.code ({ cls := "com/example/narrow_gate/narrowgate/Item", name := "attempt", desc := "()I" } : Jvm.MethodName) prog_8_method_9_code (1 : Nat) (Option.some Jvm.ClassFile.FieldType.int)).before args0 about1 = true := code_word (m := ⟨2, 6⟩) (meth := k2m6) (c := k2c6) (by decide +kernel) rfl rfl rfl (by decide +kernel)
def codes1 : List Jvm.Cond := [Jvm.Cond.code x code maxLocals ret, Jvm.Cond.code ({ cls := "com/example/narrow_gate/narrowgate/Item", name := "claimed", desc := "(J[BJI)Lcom/example/narrow_gate/narrowgate/Item;" } : Jvm.MethodName) prog_8_method_2_code (6 : Nat) (Option.some (Jvm.ClassFile.FieldType.object "com/example/narrow_gate/narrowgate/Item")), Jvm.Cond.code ({ cls := "java/util/Objects", name := "requireNonNull", desc := "(Ljava/lang/Object;Ljava/lang/String;)Ljava/lang/Object;" } : Jvm.MethodName) jdk_31_method_11_code (2 : Nat) (Option.some (Jvm.ClassFile.FieldType.object "java/lang/Object")), Jvm.Cond.code ({ cls := "com/example/narrow_gate/narrowgate/Item", name := "<init>", desc := "(J[BIJI)V" } : Jvm.MethodName) prog_8_method_1_code (8 : Nat) (Option.none : Option Jvm.ClassFile.FieldType), Jvm.Cond.code ({ cls := "java/lang/Object", name := "<init>", desc := "()V" } : Jvm.MethodName) object_method_1_code (1 : Nat) (Option.none : Option Jvm.ClassFile.FieldType), Jvm.Cond.code ({ cls := "com/example/narrow_gate/narrowgate/Item", name := "id", desc := "()J" } : Jvm.MethodName) prog_8_method_5_code (1 : Nat) (Option.some Jvm.ClassFile.FieldType.long), Jvm.Cond.code ({ cls := "com/example/narrow_gate/narrowgate/Item", name := "payload", desc := "()[B" } : Jvm.MethodName) prog_8_method_6_code (1 : Nat) (Option.some (Jvm.ClassFile.FieldType.array Jvm.ClassFile.FieldType.byte)), Jvm.Cond.code ({ cls := "com/example/narrow_gate/narrowgate/Item", name := "payloadParts", desc := "()I" } : Jvm.MethodName) prog_8_method_7_code (1 : Nat) (Option.some Jvm.ClassFile.FieldType.int), Jvm.Cond.code ({ cls := "com/example/narrow_gate/narrowgate/Item", name := "fencingToken", desc := "()J" } : Jvm.MethodName) prog_8_method_8_code (1 : Nat) (Option.some Jvm.ClassFile.FieldType.long), Jvm.Cond.code ({ cls := "com/example/narrow_gate/narrowgate/Item", name := "attempt", desc := "()I" } : Jvm.MethodName) prog_8_method_9_code (1 : Nat) (Option.some Jvm.ClassFile.FieldType.int)]
set_option maxRecDepth 65536 in
theorem codes_eq : words1.filter isCode = codes1 := rfl
theorem w_codes : ∀ c ∈ words1.filter isCode, c.before args0 about1 = true := by
  rw [codes_eq]
  intro c hc
  simp only [codes1, List.mem_cons, List.not_mem_nil, or_false] at hc
  rcases hc with rfl | rfl | rfl | rfl | rfl | rfl | rfl | rfl | rfl | rfl
  · exact w_c0
  · exact w_c1
  · exact w_c2
  · exact w_c3
  · exact w_c4
  · exact w_c5
  · exact w_c6
  · exact w_c7
  · exact w_c8
  · exact w_c9
set_option maxRecDepth 65536 in
theorem w_t1 : (words1.take 24).all (fun c => isCode c || c.before args0 about1) = true := by decide +kernel
set_option maxRecDepth 65536 in
theorem w_t2 : ((words1.drop 24).take 24).all (fun c => isCode c || c.before args0 about1) = true := by decide +kernel
set_option maxRecDepth 65536 in
theorem w_t3 : ((words1.drop 24).drop 24).all (fun c => isCode c || c.before args0 about1) = true := by decide +kernel
theorem w_tables : (allAtoms (Jvm.Cond.code x code maxLocals ret :: tables_1)).before args0 about1 = true := by
  rw [allAtoms_all]
  show words1.all (fun c => c.before args0 about1) = true
  refine all_split ?_ w_codes
  rw [← List.take_append_drop 24 words1, List.all_append, w_t1, ← List.take_append_drop 24 (words1.drop 24), List.all_append, w_t2, w_t3]
  rfl
set_option maxRecDepth 65536 in
theorem w_case : (Jvm.Cond.and given_1 narrow_1).before args0 about1 = true := by decide +kernel
theorem w_applies : (headSpec (Jvm.Cond.code x code maxLocals ret :: tables_1) room_1).applies x e0.platform about1 = true :=
  (Spec.applies_iff w_frames).mpr ⟨w_running, w_runnable, w_alone, w_named, w_hears, w_ripe, w_room, w_tables⟩
theorem atStart : AtStart classFile x code maxLocals ret World_1 tables_1 room_1 Calls_1 rest_1 Pre_1 launch0 p0 e0 about1 theMethod args0 below0 :=
  ⟨lists_1, trivial, launch0.admits_env _ _ _, launch0.least_env, fairChoices_fair.cas, fairChoices_fair.clock, w_frames, w_args, w_heap, w_applies, trivial, trivial, w_case⟩
end start1
theorem witness_1 : WitnessClaimed_1 := ⟨start1.p0, start1.e0, start1.about1, start1.theMethod, start1.args0, start1.below0, start1.atStart⟩
end Jvm.Pilot.@@N@@
