import JvmDerived
import JvmDerived.Pilot.@@N@@Statement
import JvmDerived.Pilot.@@N@@Code
set_option linter.unusedVariables false
set_option linter.unusedSimpArgs false
namespace Jvm.Pilot.@@N@@
open Jvm Jvm.ClassFile Sem Op Lib Jvm.Free Jvm.Stand Jvm.LawKit Jvm.RoadKit Bundle Jvm.Pilot.@@N@@.Jvm.D
section OwnKit
variable {p : Program} {l : Launch} {e : Env} {R : Room} {s : State} {m : MethodId} {args : Array Value} {below : List Frame} {meth : Method} {c : Code} {T : State} {locs : List Loc} {cells slots : Nat} {Z : State} {a0 : Array Value} {h h' : Heap}
/-- the run from t on comes to the method's end, and there Fin holds -/
def own_Run (p : Program) (e : Env) (below : List Frame) (Fin : Outcome → State → Prop) (t : State) : Prop :=
  ∃ s₂ o, Steps p.tables e below t s₂ ∧ s₂.status = .running ∧ Ended s₂ below o ∧ Fin o s₂
variable {Fin : Outcome → State → Prop}
theorem own_go {t t' : State} (st : ∀ target, Steps p.tables e below t' target → Steps p.tables e below t target) (k : own_Run p e below Fin t') : own_Run p e below Fin t := by
  obtain ⟨s₂, o, h1, h2⟩ := k
  exact ⟨s₂, o, st _ h1, h2⟩
def own_End (s : State) (R : Room) (Q : Option Value → Heap → List Loc → Prop) (o : Outcome) (U : State) : Prop :=
  ∃ v L, o = .returned v ∧ Q v U.heap L ∧ FrameEnd s o U L R.cells R.slots
/-- a body's contract: called with these arguments over the heap h0 it returns, and Q says what is left -/
def own_Met (l : Launch) (Z : State) (y : MethodName) (bytes : ByteArray) (maxL : Nat) (ret : Option FieldType) (rm : Room) (as : Array Value) (h0 : Heap) (Q : Option Value → Heap → List Loc → Prop) : Prop :=
  ∀ ws : List Jvm.Cond, MetFree l y (head1 (Jvm.Cond.code y bytes maxL ret :: ws) rm) (fun a U => a = as ∧ Z.Warmed39 U.vm ∧ U.heap = h0) (fun _ _ _ _ _ => True) (fun _ U o U' => own_End U rm Q o U')
theorem own_enter {y : MethodName} {bytes : ByteArray} {maxL : Nat} {ret : Option FieldType} {rm : Room} {as : Array Value} {h0 : Heap} {Q : Option Value → Heap → List Loc → Prop} {g0 : MethodId → JFrame} (hpl : plainFor y = true) (hg0 : ∀ m, entryFrame m as maxL = g0 m)
    (body : ∀ (p : Program) (e : Env) (s : State) (m : MethodId) (below : List Frame) (meth : Method) (c : Code) (T : State), p.tables.exec = Jvm.exec → c.code = bytes → c.maxLocals = maxL → s.vm.findClass y.cls = some m.cls → meth.name = y.name → Z.Warmed39 s.vm → meth.sig.returnType = ret → meth.locks = false →
      Stand p l e rm s m as below meth c T [] 0 0 → T.heap = h0 → own_Run p e below (own_End s rm Q) (T.setTop (g0 m))) : own_Met l Z y bytes maxL ret rm as h0 Q := by
  intro ws
  refine MetFree.of_bodySF hpl hisR ?_
  intro p e s m args below meth c s₁ Bd hml0 hP hK
  obtain ⟨rfl, hZ, hh⟩ := hP
  rw [hg0]
  exact body p e s m below meth c s₁ Bd.exec Bd.bytes hml0 (findClass_of_methodNamed Bd.named) (name_of_methodNamed Bd.named Bd.method).1 hZ Bd.returns Bd.notSynchronized (Stand.of_body Bd) (by rw [← hh, Bd.state]; rfl)
theorem own_ret (X : Stand p l e R s m args below meth c T locs cells slots) {g : JFrame} {v : Option Value} {Q : Option Value → Heap → List Loc → Prop} (hv : meth.sig.returnType = none → v = none) (hlk : meth.locks = false) (hc : cells ≤ R.cells) (hs : slots ≤ R.slots)
    (st : ∀ fs, (∀ (f : JFrame) (acts : List Action), f.method = m → f.locked = none → f.entered = [] → (doReturn e (T.setTop f) acts v).1 = T.setFrames fs) → Steps p.tables e below (T.setTop g) (T.setFrames fs)) (hq : Q v T.heap locs) : own_Run p e below (own_End s R Q) (T.setTop g) := by
  obtain ⟨fs, hr, hrun, hended, hW, hsame⟩ := X.leave (v := v) hv hlk
  exact ⟨_, _, st fs hr, hrun, hended, _, _, rfl, hq, ⟨_, rfl⟩, hW, hsame.mono hc hs⟩
theorem own_retN (X : Stand p l e R s m args below meth c T locs cells slots) (hx : p.tables.exec = Jvm.exec) {t : FieldType} (hret : meth.sig.returnType = some t) (hlk : meth.locks = false) (ht : t = .boolean ∨ t = .byte ∨ t = .char ∨ t = .short) {pc : Nat} {Ls : Array Slot} {z : Int32} {rest : List Value} (hd : decode c.code pc = .ok (.ireturn, 1)) {Q : Option Value → Heap → List Loc → Prop} (hc : cells ≤ R.cells) (hs : slots ≤ R.slots)
    (hq : Q (some (.int (nar t z))) T.heap locs) : own_Run p e below (own_End s R Q) (T.setTop (mkF m pc Ls (.int z :: rest))) :=
  own_ret X (fun q => by rw [hret] at q; cases q) hlk hc hs (fun fs hr => retN X hx hret ht hd hr) hq
theorem own_retI (X : Stand p l e R s m args below meth c T locs cells slots) (hx : p.tables.exec = Jvm.exec) (hret : meth.sig.returnType = some .int) (hlk : meth.locks = false) {pc : Nat} {Ls : Array Slot} {z : Int32} {rest : List Value} (hd : decode c.code pc = .ok (.ireturn, 1)) {Q : Option Value → Heap → List Loc → Prop} (hc : cells ≤ R.cells) (hs : slots ≤ R.slots)
    (hq : Q (some (.int z)) T.heap locs) : own_Run p e below (own_End s R Q) (T.setTop (mkF m pc Ls (.int z :: rest))) :=
  own_ret X (fun q => by rw [hret] at q; cases q) hlk hc hs (fun fs hr => retOut X hx hret rfl (Or.inl ⟨rfl, Or.inl rfl, z, rfl⟩) hd hr) hq
theorem own_retJ (X : Stand p l e R s m args below meth c T locs cells slots) (hx : p.tables.exec = Jvm.exec) (hret : meth.sig.returnType = some .long) (hlk : meth.locks = false) {pc : Nat} {Ls : Array Slot} {z : Int64} {rest : List Value} (hd : decode c.code pc = .ok (.lreturn, 1)) {Q : Option Value → Heap → List Loc → Prop} (hc : cells ≤ R.cells) (hs : slots ≤ R.slots)
    (hq : Q (some (.long z)) T.heap locs) : own_Run p e below (own_End s R Q) (T.setTop (mkF m pc Ls (.long z :: rest))) :=
  own_ret X (fun q => by rw [hret] at q; cases q) hlk hc hs (fun fs hr => retOut X hx hret rfl (Or.inr (Or.inl ⟨rfl, rfl, z, rfl⟩)) hd hr) hq
theorem own_retA (X : Stand p l e R s m args below meth c T locs cells slots) (hx : p.tables.exec = Jvm.exec) {t : FieldType} (hret : meth.sig.returnType = some t) (hlk : meth.locks = false) (ht : t.isReference = true) {pc : Nat} {Ls : Array Slot} {w : Value} (hw : w.isRef = true) {rest : List Value} (hn : narrow t w = w) (hd : decode c.code pc = .ok (.areturn, 1)) {Q : Option Value → Heap → List Loc → Prop} (hc : cells ≤ R.cells) (hs : slots ≤ R.slots)
    (hq : Q (some w) T.heap locs) : own_Run p e below (own_End s R Q) (T.setTop (mkF m pc Ls (w :: rest))) :=
  own_ret X (fun q => by rw [hret] at q; cases q) hlk hc hs (fun fs hr => retOut X hx hret hn (Or.inr (Or.inr (Or.inr (Or.inr ⟨rfl, ht, hw⟩)))) hd hr) hq
theorem own_retV (X : Stand p l e R s m args below meth c T locs cells slots) (hx : p.tables.exec = Jvm.exec) (hret : meth.sig.returnType = none) (hlk : meth.locks = false) {pc : Nat} {Ls : Array Slot} (hd : decode c.code pc = .ok (.return_, 1)) {Q : Option Value → Heap → List Loc → Prop} (hc : cells ≤ R.cells) (hs : slots ≤ R.slots)
    (hq : Q none T.heap locs) : own_Run p e below (own_End s R Q) (T.setTop (mkF m pc Ls [])) :=
  own_ret X (fun _ => rfl) hlk hc hs (fun fs hr => X.returnOut hx hret hd hr) hq
/-! calls -/
theorem own_callS (X : Stand p l e R s m args below meth c T locs cells slots) (hx : p.tables.exec = Jvm.exec) (hZ : Z.Warmed39 s.vm) (eT : T.heap = h) {own : String} (hown : s.vm.findClass own = some m.cls) {index : Nat} (y : MethodName) {bytes : ByteArray} {maxL : Nat} {ret : Option FieldType} {rm : Room} {Q : Option Value → Heap → List Loc → Prop}
    (w1 : (Jvm.Cond.methodLink own index y).before a0 Z = true) (w2 : (Jvm.Cond.static y).before a0 Z = true) (w3 : (Jvm.Cond.initialized y.cls).before a0 Z = true) (w4 : (Jvm.Cond.code y bytes maxL ret).before a0 Z = true) (hy : y.cls ≠ "java/lang/invoke/MethodHandle" ∧ y.cls ≠ "java/lang/invoke/VarHandle")
    (argsL rest : List Value) (hM : own_Met l Z y bytes maxL ret rm argsL.toArray h Q) (hf : rm.frames + 1 ≤ R.frames) (W : Nat) (hl : W + (maxL + 11) + rm.locals ≤ R.locals) (hc : cells + rm.cells ≤ R.cells) (hs : slots + rm.slots ≤ R.slots)
    {g : JFrame} (hg : g.method = m) (hsize : g.locals.size = c.maxLocals) (hlen : ∀ sig, parseMethodDescriptor y.desc = some sig → argsL.length = sig.parameters.length) (hstack : g.stack = argsL.reverse ++ rest) (hW : 2 * g.monitorRoom + (rest.map fun v => v.category).sum ≤ W) (hd : decode c.code g.pc = .ok (.invokestatic index, 3))
    (k : ∀ (v : Option Value) (h' : Heap) (L : List Loc) (T' : State), Q v h' L → Stand p l e R s m args below meth c T' (locs ++ L) (cells + rm.cells) (slots + rm.slots) → T'.heap = h' → own_Run p e below Fin (T'.setTop { g with pc := g.pc + 3, stack := v.toList ++ rest })) : own_Run p e below Fin (T.setTop g) := by
  obtain ⟨v, _, ⟨T', L', k', n'⟩, -, X', ⟨Lc, hQ, l1, y1, z1⟩, st⟩ := Jvm.LawKit.callS X hx (y := y) hown (mvT hZ w1) (mvT hZ w2) (mvT hZ w3) (mvT hZ w4) hy (backOf (W := W) (hM []) hZ w4 w3 hf hl) hg hsize (argsL := argsL) (rest := rest) hlen hstack hW hd (fun _ _ => ⟨rfl, eT, hc, hs⟩)
  dsimp only [Pt.U, Pt.locs, Pt.cells, Pt.slots] at X' l1 y1 z1 st hQ
  subst l1 y1 z1
  exact own_go st (k v T'.heap Lc T' hQ X' rfl)
theorem own_callN (X : Stand p l e R s m args below meth c T locs cells slots) (hx : p.tables.exec = Jvm.exec) (hZ : Z.Warmed39 s.vm) (eT : T.heap = h) {own : String} (hown : s.vm.findClass own = some m.cls) {index : Nat} (y : MethodName) (hy1 : y.name = "<init>") {bytes : ByteArray} {maxL : Nat} {rm : Room} {Q : Option Value → Heap → List Loc → Prop}
    (w1 : (Jvm.Cond.methodLink own index y).before a0 Z = true) (w2 : (Jvm.Cond.instanceMethod y).before a0 Z = true) (w3 : (Jvm.Cond.initialized y.cls).before a0 Z = true) (w4 : (Jvm.Cond.code y bytes maxL none).before a0 Z = true) (hy : y.cls ≠ "java/lang/invoke/MethodHandle" ∧ y.cls ≠ "java/lang/invoke/VarHandle")
    (a : Addr) (argsL rest : List Value) (hM : own_Met l Z y bytes maxL none rm (.ref a :: argsL).toArray h Q) (hf : rm.frames + 1 ≤ R.frames) (W : Nat) (hl : W + (maxL + 11) + rm.locals ≤ R.locals) (hc : cells + rm.cells ≤ R.cells) (hs : slots + rm.slots ≤ R.slots)
    {g : JFrame} (hg : g.method = m) (hsize : g.locals.size = c.maxLocals) (hlen : ∀ sig, parseMethodDescriptor y.desc = some sig → argsL.length = sig.parameters.length) (hstack : g.stack = argsL.reverse ++ .ref a :: rest) (hW : 2 * g.monitorRoom + (rest.map fun v => v.category).sum ≤ W) (hd : decode c.code g.pc = .ok (.invokespecial index, 3))
    (k : ∀ (v : Option Value) (h' : Heap) (L : List Loc) (T' : State), Q v h' L → Stand p l e R s m args below meth c T' (locs ++ L) (cells + rm.cells) (slots + rm.slots) → T'.heap = h' → own_Run p e below Fin (T'.setTop { g with pc := g.pc + 3, stack := v.toList ++ rest })) : own_Run p e below Fin (T.setTop g) := by
  obtain ⟨v, _, ⟨T', L', k', n'⟩, -, X', ⟨Lc, hQ, l1, y1, z1⟩, st⟩ := X.specialBack hx (y := y) hy1 hown (mvT hZ w1) (mvT hZ w2) (mvT hZ w4) hy (backOf (W := W) (hM []) hZ w4 w3 hf hl) hg hsize (Steps.refl _) (a := a) (argsL := argsL) (rest := rest) hlen hstack hW hd (fun _ _ => ⟨rfl, eT, hc, hs⟩)
  dsimp only [Pt.U, Pt.locs, Pt.cells, Pt.slots] at X' l1 y1 z1 st hQ
  subst l1 y1 z1
  exact own_go (fun _ q => st.trans q) (k v T'.heap Lc T' hQ X' rfl)
theorem own_callV (X : Stand p l e R s m args below meth c T locs cells slots) (hx : p.tables.exec = Jvm.exec) (hZ : Z.Warmed39 s.vm) (eT : T.heap = h) {own : String} (hown : s.vm.findClass own = some m.cls) {index : Nat} (y : MethodName) {C : String} {bytes : ByteArray} {maxL : Nat} {ret : Option FieldType} {rm : Room} {Q : Option Value → Heap → List Loc → Prop}
    (w1 : (Jvm.Cond.methodLink own index y).before a0 Z = true) (w5 : (Jvm.Cond.declares y).before a0 Z = true) (w6 : (Jvm.Cond.selects C y y).before a0 Z = true) (w2 : (Jvm.Cond.instanceMethod y).before a0 Z = true) (w3 : (Jvm.Cond.initialized y.cls).before a0 Z = true) (w4 : (Jvm.Cond.code y bytes maxL ret).before a0 Z = true) (hy : y.cls ≠ "java/lang/invoke/MethodHandle" ∧ y.cls ≠ "java/lang/invoke/VarHandle")
    (a : Addr) (E : Exa Z h a C) (argsL rest : List Value) (hM : own_Met l Z y bytes maxL ret rm (.ref a :: argsL).toArray h Q) (hf : rm.frames + 1 ≤ R.frames) (W : Nat) (hl : W + (maxL + 11) + rm.locals ≤ R.locals) (hc : cells + rm.cells ≤ R.cells) (hs : slots + rm.slots ≤ R.slots)
    {g : JFrame} (hg : g.method = m) (hsize : g.locals.size = c.maxLocals) (hlen : ∀ sig, parseMethodDescriptor y.desc = some sig → argsL.length = sig.parameters.length) (hstack : g.stack = argsL.reverse ++ .ref a :: rest) (hW : 2 * g.monitorRoom + (rest.map fun v => v.category).sum ≤ W) (hd : decode c.code g.pc = .ok (.invokevirtual index, 3))
    (k : ∀ (v : Option Value) (h' : Heap) (L : List Loc) (T' : State), Q v h' L → Stand p l e R s m args below meth c T' (locs ++ L) (cells + rm.cells) (slots + rm.slots) → T'.heap = h' → own_Run p e below Fin (T'.setTop { g with pc := g.pc + 3, stack := v.toList ++ rest })) : own_Run p e below Fin (T.setTop g) := by
  obtain ⟨cq, kq, qa, qb, qc⟩ := isOf hZ eT E
  obtain ⟨v, _, ⟨T', L', k', n'⟩, -, X', ⟨Lc, hQ, l1, y1, z1⟩, st⟩ := X.virtualBack hx (y := y) (z := y) hown (mvT hZ w1) (mvT hZ w5) (notFace_of_selects (args := #[]) (mvT hZ w6)) (mvT hZ w6) (mvT hZ w2) hy (backOf (W := W) (hM []) hZ w4 w3 hf hl) qa qc hg hsize (Steps.refl _) (argsL := argsL) (rest := rest) hlen hstack hW hd (fun _ _ => ⟨rfl, eT, hc, hs⟩)
  dsimp only [Pt.U, Pt.locs, Pt.cells, Pt.slots] at X' l1 y1 z1 st hQ
  subst l1 y1 z1
  exact own_go (fun _ q => st.trans q) (k v T'.heap Lc T' hQ X' rfl)
theorem own_initO (X : Stand p l e R s m args below meth c T locs cells slots) (hx : p.tables.exec = Jvm.exec) (hZ : Z.Warmed39 s.vm) (eT : T.heap = h) {own : String} (hown : s.vm.findClass own = some m.cls) {idx : Nat} (w1 : (Jvm.Cond.methodLink own idx Lib.objectInit).before a0 Z = true) (w2 : (Jvm.Cond.instanceMethod Lib.objectInit).before a0 Z = true)
    (w3 : (Jvm.Cond.code Lib.objectInit object_method_1_code 1 none).before a0 Z = true) {g : JFrame} (hg : g.method = m) (hsize : g.locals.size = c.maxLocals) {a : Addr} {rest : List Value} (hs : g.stack = .ref a :: rest) (hd : decode c.code g.pc = .ok (.invokespecial idx, 3))
    (hf : 1 ≤ R.frames) (W : Nat) (hW : 2 * g.monitorRoom + (rest.map fun v => v.category).sum ≤ W) (hl : W + 12 ≤ R.locals)
    (k : ∀ T' : State, Stand p l e R s m args below meth c T' locs cells slots → T'.heap = h → own_Run p e below Fin (T'.setTop { g with pc := g.pc + 3, stack := rest })) : own_Run p e below Fin (T.setTop g) := by
  obtain ⟨T', X', e', st⟩ := initO X hx hZ hown w1 w2 w3 eT hg hsize hs hd hf hW hl
  exact own_go st (k T' X' e')
/-! fields -/
theorem own_getF (X : Stand p l e R s m args below meth c T locs cells slots) (hx : p.tables.exec = Jvm.exec) (hZ : Z.Warmed39 s.vm) (eT : T.heap = h) {own O n d : String} (hown : s.vm.findClass own = some m.cls) {index : Nat} (w : (Jvm.Cond.fieldLink own index O n d).before a0 Z = true)
    {a : Addr} {v : Value} (F : Fld Z h a O n d v) {g : JFrame} (hg : g.method = m) {rest : List Value} (hs : g.stack = .ref a :: rest) (hd : decode c.code g.pc = .ok (.getfield index, 3))
    (k : ∀ T' : State, Stand p l e R s m args below meth c T' locs cells slots → T'.heap = h → own_Run p e below Fin (T'.setTop { g with pc := g.pc + 3, stack := v :: rest })) : own_Run p e below Fin (T.setTop g) := by
  obtain ⟨T', X', e', st⟩ := getF X hx hZ hown (host := "") (Or.inl w) Via.refl eT F hg hs hd
  exact own_go st (k T' X' e')
theorem own_putF (X : Stand p l e R s m args below meth c T locs cells slots) (hx : p.tables.exec = Jvm.exec) (hZ : Z.Warmed39 s.vm) (eT : T.heap = h) {own O n d C : String} (hown : s.vm.findClass own = some m.cls) {index kk : Nat} (ty : FieldType) (w : (Jvm.Cond.fieldLink own index O n d).before a0 Z = true)
    {a : Addr} {v v' old : Value} (F : Fld Z h a O n d old) (E : Exa Z h a C) (L : (Jvm.Cond.lays C O n d).before a0 Z = true ∨ ((Jvm.Cond.laysFinal C O n d).before a0 Z = true ∧ own = O ∧ meth.name = "<init>")) (wi : (Jvm.Cond.instantiable C kk).before a0 Z = true)
    (hty : parseFieldDescriptor d = some ty) (hn : narrow ty v = v') (hf : fits ty v' = true) {g : JFrame} (hg : g.method = m) {rest : List Value} (hs : g.stack = v :: .ref a :: rest) (hd : decode c.code g.pc = .ok (.putfield index, 3))
    (k : ∀ (T' : State) (h' : Heap), Stand p l e R s m args below meth c T' (locs ++ [⟨a, Jvm.RoadKit.slotOf Z O n d⟩]) cells slots → T'.heap = h' → Wr h h' a (Jvm.RoadKit.slotOf Z O n d) v' → own_Run p e below Fin (T'.setTop { g with pc := g.pc + 3, stack := rest })) : own_Run p e below Fin (T.setTop g) := by
  obtain ⟨T', h', X', e', W, st⟩ := putFN X hx hZ hown w Via.refl eT F E L wi hty hn hf hg hs hd
  exact own_go st (k T' h' X' e' W)
/-! fresh objects -/
theorem own_newO (X : Stand p l e R s m args below meth c T locs cells slots) (hx : p.tables.exec = Jvm.exec) (hZ : Z.Warmed39 s.vm) (eT : T.heap = h) {own C : String} {index n : Nat} (hown : s.vm.findClass own = some m.cls) (w : (Jvm.Cond.classLink own index C).before a0 Z = true) (wi : (Jvm.Cond.instantiable C n).before a0 Z = true) (wz : (Jvm.Cond.initialized C).before a0 Z = true)
    {g : JFrame} (hg : g.method = m) (hd : decode c.code g.pc = .ok (.new index, 3)) (hc : cells + 1 ≤ R.cells) (hl : slots + n ≤ R.slots)
    (k : ∀ (b : Addr) (T' : State) (h' : Heap), b = h.size → Stand p l e R s m args below meth c T' locs (cells + 1) (slots + n) → T'.heap = h' → Ext h h' → Exa Z h' b C → (∀ {O nm d : String} {ty : FieldType}, Laid Z a0 C O nm d → parseFieldDescriptor d = some ty → Fld Z h' b O nm d (defaultValue ty)) →
      own_Run p e below Fin (T'.setTop { g with pc := g.pc + 3, stack := .ref b :: g.stack })) : own_Run p e below Fin (T.setTop g) := by
  obtain ⟨T', h', X', e', E, A, D, -, st⟩ := newO X hx hZ hown w wi wz eT hg hd hc hl
  exact own_go st (k h.size T' h' rfl X' e' E A D)
/-! arrays: n places, place k holds f k -/
def own_Arr (Z : State) (h : Heap) (a : Addr) (ty : FieldType) (n : Nat) (f : Nat → Value) : Prop := ∃ cl : Cell, Arr Z h a cl ty ∧ cl.slots.size = n ∧ ∀ k, k < n → cl.slots[k]? = some (f k)
theorem own_Arr.lt {a : Addr} {ty : FieldType} {n : Nat} {f : Nat → Value} (F : own_Arr Z h a ty n f) : a < h.size := by obtain ⟨c, A, -⟩ := F; exact A.lt
theorem own_Arr.ext {a : Addr} {ty : FieldType} {n : Nat} {f : Nat → Value} (F : own_Arr Z h a ty n f) (E : Ext h h') : own_Arr Z h' a ty n f := by obtain ⟨c, A, r⟩ := F; exact ⟨c, A.ext E, r⟩
theorem own_Arr.other {a b : Addr} {sl : Nat} {v : Value} {ty : FieldType} {n : Nat} {f : Nat → Value} (F : own_Arr Z h b ty n f) (W : Wr h h' a sl v) (q : b ≠ a) : own_Arr Z h' b ty n f := by obtain ⟨c, A, r⟩ := F; exact ⟨c, A.other W q, r⟩
theorem own_Arr.keep {a : Addr} {ws : List Addr} {ty : FieldType} {n : Nat} {f : Nat → Value} (F : own_Arr Z h a ty n f) (K : Keep h h' ws) (q : a ∉ ws) : own_Arr Z h' a ty n f := by obtain ⟨c, A, r⟩ := F; exact ⟨c, ⟨K.2.1 a c A.1 q, A.2⟩, r⟩
theorem own_Arr.set {a : Addr} {j : Nat} {v : Value} {ty : FieldType} {n : Nat} {f : Nat → Value} (F : own_Arr Z h a ty n f) (W : Wr h h' a j v) (hj : j < n) : own_Arr Z h' a ty n (fun k => if k = j then v else f k) := by
  obtain ⟨cl, A, r1, r2⟩ := F
  refine ⟨_, A.same W, by rw [sz_set]; exact r1, fun k hk => ?_⟩
  by_cases q : k = j
  · subst q; simp [Cell.setSlot, r1, hj]
  · show (cl.setSlot j v).slots[k]? = some (if k = j then v else f k)
    rw [if_neg q]; exact (Array.getElem?_setIfInBounds_ne (Ne.symm q)).trans (r2 k hk)
theorem own_Arr.congr {a : Addr} {ty : FieldType} {n : Nat} {f f' : Nat → Value} (F : own_Arr Z h a ty n f) (q : ∀ k, k < n → f k = f' k) : own_Arr Z h a ty n f' := by
  obtain ⟨cl, A, r1, r2⟩ := F
  exact ⟨cl, A, r1, fun k hk => by rw [← q k hk]; exact r2 k hk⟩
theorem own_in {cl : Cell} {n : Nat} {j : Int32} (r : cl.slots.size = n) (hj : 0 ≤ j.toInt ∧ j.toInt < n) : ¬ (j < 0 ∨ cl.slots.size ≤ j.toNatClampNeg) := by
  have e0 : (0 : Int32).toInt = 0 := rfl
  simp only [Int32.lt_iff_toInt_lt, Int32.toNatClampNeg, r, e0]; omega
theorem own_idx {n : Nat} {j : Int32} (hj : 0 ≤ j.toInt ∧ j.toInt < n) : j.toNatClampNeg < n := by
  simp only [Int32.toNatClampNeg]; omega
theorem own_newP (X : Stand p l e R s m args below meth c T locs cells slots) (hx : p.tables.exec = Jvm.exec) (hZ : Z.Warmed39 s.vm) (eT : T.heap = h) {aty : ArrayType} (w : (Jvm.Cond.arrayClass (newarray.typeOf aty)).before a0 Z = true) {g : JFrame} (hg : g.method = m) (hd : decode c.code g.pc = .ok (.newarray aty, 2)) {z : Int32} {rest : List Value} (hs : g.stack = .int z :: rest)
    (n cap : Nat) (hn : z.toInt = n) (hcap : n ≤ cap) (hb : cap * 8 ≤ 536870912) (hc : cells + 1 ≤ R.cells) (hl : slots + cap ≤ R.slots) (ad : String) (had : "[" ++ (newarray.typeOf aty).toString = ad)
    (k : ∀ (b : Addr) (T' : State) (h' : Heap), b = h.size → Stand p l e R s m args below meth c T' locs (cells + 1) (slots + cap) → T'.heap = h' → Ext h h' → own_Arr Z h' b (newarray.typeOf aty) n (fun _ => defaultValue (newarray.typeOf aty)) → Exa Z h' b ad →
      own_Run p e below Fin (T'.setTop { g with pc := g.pc + 2, stack := .ref b :: rest })) : own_Run p e below Fin (T.setTop g) := by
  have hz : z.toNatClampNeg = n := by simp only [Int32.toNatClampNeg]; omega
  have e0 : (0 : Int32).toInt = 0 := rfl
  have hz0 : ¬ z < 0 := by rw [Int32.lt_iff_toInt_lt, e0]; omega
  obtain ⟨T', h', cA, X', e', E, A, Ex, st⟩ := newPE X hx hZ w eT hg hd hs (n := z) hz0 (cap := cap) (by omega) hb hc hl had
  exact own_go st (k h.size T' h' rfl X' e' E ⟨_, A, by rw [sz_new]; exact hz, fun i hi => by simp [newA, hz, hi]⟩ Ex)
theorem own_iastore (X : Stand p l e R s m args below meth c T locs cells slots) (hx : p.tables.exec = Jvm.exec) (hZ : Z.Warmed39 s.vm) (eT : T.heap = h) {a : Addr} {n : Nat} {f : Nat → Value} (A : own_Arr Z h a .int n f) {j x : Int32} (hj : 0 ≤ j.toInt ∧ j.toInt < n) {g : JFrame} (hg : g.method = m) {rest : List Value} (hs : g.stack = .int x :: .int j :: .ref a :: rest) (hd : decode c.code g.pc = .ok (.iastore, 1))
    (k : ∀ (T' : State) (h' : Heap), Stand p l e R s m args below meth c T' (locs ++ [⟨a, j.toNatClampNeg⟩]) cells slots → T'.heap = h' → Wr h h' a j.toNatClampNeg (.int x) → own_Arr Z h' a .int n (fun i => if i = j.toNatClampNeg then .int x else f i) → own_Run p e below Fin (T'.setTop { g with pc := g.pc + 1, stack := rest })) : own_Run p e below Fin (T.setTop g) := by
  obtain ⟨cl, A1, r1, r2⟩ := A
  obtain ⟨T', h', X', e', W, st⟩ := stI X hx hZ eT A1 (own_in r1 hj) hg hs hd
  exact own_go st (k T' h' X' e' W (own_Arr.set ⟨cl, A1, r1, r2⟩ W (own_idx hj)))
theorem own_bastore (X : Stand p l e R s m args below meth c T locs cells slots) (hx : p.tables.exec = Jvm.exec) (hZ : Z.Warmed39 s.vm) (eT : T.heap = h) {a : Addr} {n : Nat} {f : Nat → Value} (A : own_Arr Z h a .byte n f) {j x : Int32} (hj : 0 ≤ j.toInt ∧ j.toInt < n) {g : JFrame} (hg : g.method = m) {rest : List Value} (hs : g.stack = .int x :: .int j :: .ref a :: rest) (hd : decode c.code g.pc = .ok (.bastore, 1))
    (k : ∀ (T' : State) (h' : Heap), Stand p l e R s m args below meth c T' (locs ++ [⟨a, j.toNatClampNeg⟩]) cells slots → T'.heap = h' → Wr h h' a j.toNatClampNeg (.int (nar .byte x)) → own_Arr Z h' a .byte n (fun i => if i = j.toNatClampNeg then .int (nar .byte x) else f i) → own_Run p e below Fin (T'.setTop { g with pc := g.pc + 1, stack := rest })) : own_Run p e below Fin (T.setTop g) := by
  obtain ⟨cl, A1, r1, r2⟩ := A
  obtain ⟨T', h', X', e', W, st⟩ := stB X hx hZ eT A1 (own_in r1 hj) hg hs hd
  exact own_go st (k T' h' X' e' W (own_Arr.set ⟨cl, A1, r1, r2⟩ W (own_idx hj)))
theorem own_iaload (X : Stand p l e R s m args below meth c T locs cells slots) (hx : p.tables.exec = Jvm.exec) (hZ : Z.Warmed39 s.vm) (eT : T.heap = h) {a : Addr} {n : Nat} {f : Nat → Value} (A : own_Arr Z h a .int n f) {j : Int32} (v : Int32) (hj : 0 ≤ j.toInt ∧ j.toInt < n) (hv : f j.toNatClampNeg = .int v) {g : JFrame} (hg : g.method = m) {rest : List Value} (hs : g.stack = .int j :: .ref a :: rest) (hd : decode c.code g.pc = .ok (.iaload, 1))
    (k : own_Run p e below Fin (T.setTop { g with pc := g.pc + 1, stack := .int v :: rest })) : own_Run p e below Fin (T.setTop g) := by
  obtain ⟨cl, A1, r1, r2⟩ := A
  exact own_go (X.iaload hx (by rw [eT]; exact A1.1) (State.isArrayOf_alike hZ.alike A1.2.1) A1.2.2 (own_in r1 hj) ((r2 _ (own_idx hj)).trans (by rw [hv])) hg hs hd) k
theorem own_baload (X : Stand p l e R s m args below meth c T locs cells slots) (hx : p.tables.exec = Jvm.exec) (hZ : Z.Warmed39 s.vm) (eT : T.heap = h) {a : Addr} {n : Nat} {f : Nat → Value} (A : own_Arr Z h a .byte n f) {j : Int32} (v : Int32) (hj : 0 ≤ j.toInt ∧ j.toInt < n) (hv : f j.toNatClampNeg = .int v) {g : JFrame} (hg : g.method = m) {rest : List Value} (hs : g.stack = .int j :: .ref a :: rest) (hd : decode c.code g.pc = .ok (.baload, 1))
    (k : own_Run p e below Fin (T.setTop { g with pc := g.pc + 1, stack := .int v :: rest })) : own_Run p e below Fin (T.setTop g) := by
  obtain ⟨cl, A1, r1, r2⟩ := A
  exact own_go (X.baloadBytes hx (by rw [eT]; exact A1.1) (State.isArrayOf_alike hZ.alike A1.2.1) A1.2.2 (own_in r1 hj) ((r2 _ (own_idx hj)).trans (by rw [hv])) hg hs hd) k
theorem own_alen (X : Stand p l e R s m args below meth c T locs cells slots) (hx : p.tables.exec = Jvm.exec) (hZ : Z.Warmed39 s.vm) (eT : T.heap = h) {a : Addr} {ty : FieldType} {n : Nat} {f : Nat → Value} (A : own_Arr Z h a ty n f) (z : Int32) (hz : z.toInt = n) {g : JFrame} (hg : g.method = m) {rest : List Value} (hs : g.stack = .ref a :: rest) (hd : decode c.code g.pc = .ok (.arraylength, 1))
    (k : own_Run p e below Fin (T.setTop { g with pc := g.pc + 1, stack := .int z :: rest })) : own_Run p e below Fin (T.setTop g) := by
  obtain ⟨cl, A1, r1, r2⟩ := A
  have e0 : (0 : Int32).toInt = 0 := rfl
  have hz0 : ¬ z < 0 := by rw [Int32.lt_iff_toInt_lt, e0]; omega
  have q : cl.slots.size.toInt32 = z := len_of (by rw [r1]; simp only [Int32.toNatClampNeg]; omega) hz0
  exact own_go (X.arraylength hx (by rw [eT]; exact A1.1) (State.isArrayOf_alike hZ.alike A1.2.1) hg hs hd) (by rw [q]; exact k)
theorem own_clone (X : Stand p l e R s m args below meth c T locs cells slots) (hx : p.tables.exec = Jvm.exec) (hZ : Z.Warmed39 s.vm) (eT : T.heap = h) {own ad : String} {index : Nat} (hown : s.vm.findClass own = some m.cls)
    (w1 : (Jvm.Cond.methodLink own index ⟨ad, "clone", "()Ljava/lang/Object;"⟩).before a0 Z = true) (w2 : (Jvm.Cond.sameMethod ad "java/lang/Object" "clone" "()Ljava/lang/Object;").before a0 Z = true) (w3 : (Jvm.Cond.native ⟨"java/lang/Object", "clone", "()Ljava/lang/Object;"⟩).before a0 Z = true)
    (w4 : (Jvm.Cond.instanceMethod ⟨"java/lang/Object", "clone", "()Ljava/lang/Object;"⟩).before a0 Z = true) (w5 : (Jvm.Cond.selects ad ⟨ad, "clone", "()Ljava/lang/Object;"⟩ ⟨"java/lang/Object", "clone", "()Ljava/lang/Object;"⟩).before a0 Z = true) (w6 : (Jvm.Cond.castable ad "java/lang/Cloneable").before a0 Z = true)
    {a : Addr} {ty : FieldType} {n : Nat} {f : Nat → Value} (A : own_Arr Z h a ty n f) (E : Exa Z h a ad) (hfit : ∀ i, i < n → fits ty (f i) = true) {g : JFrame} (hg : g.method = m) (hsize : g.locals.size = c.maxLocals) {rest : List Value} (hs : g.stack = .ref a :: rest) (hd : decode c.code g.pc = .ok (.invokevirtual index, 3))
    (hf : 1 ≤ R.frames) (W cap : Nat) (hW : 2 * g.monitorRoom + (rest.map fun v => v.category).sum ≤ W) (hl : W + 14 ≤ R.locals) (hcap : n ≤ cap) (hc : cells + 1 ≤ R.cells) (hsl : slots + cap ≤ R.slots)
    (k : ∀ (b : Addr) (T' : State) (h' : Heap), b = h.size → Stand p l e R s m args below meth c T' locs (cells + 1) (slots + cap) → T'.heap = h' → Ext h h' → own_Arr Z h' b ty n f → Exa Z h' b ad → own_Run p e below Fin (T'.setTop { g with pc := g.pc + 3, stack := .ref b :: rest })) : own_Run p e below Fin (T.setTop g) := by
  obtain ⟨cl, A1, r1, r2⟩ := A
  have FC : FitC Z cl := fitC_of A1 fun i hi v hv => by
    rw [r2 i (by omega)] at hv; cases hv; exact hfit i (by omega)
  obtain ⟨T', h', X', e', ex, A', E', st⟩ := cloneA X hx hZ hown w1 w2 w3 w4 w5 w6 eT A1 E FC hg hsize hs hd hf hW hl (by omega) hc hsl
  exact own_go st (k h.size T' h' rfl X' e' ex ⟨cloneOf cl, A', r1, r2⟩ E')
theorem own_cast (X : Stand p l e R s m args below meth c T locs cells slots) (hx : p.tables.exec = Jvm.exec) (hZ : Z.Warmed39 s.vm) (eT : T.heap = h) {own K C : String} {index : Nat} (hown : s.vm.findClass own = some m.cls) (w : (Jvm.Cond.classLink own index K).before a0 Z = true) {a : Addr} (E : Exa Z h a C) (w2 : (Jvm.Cond.castable C K).before a0 Z = true)
    {g : JFrame} (hg : g.method = m) {rest : List Value} (hs : g.stack = .ref a :: rest) (hd : decode c.code g.pc = .ok (.checkcast index, 3))
    (k : ∀ T' : State, Stand p l e R s m args below meth c T' locs cells slots → T'.heap = h → own_Run p e below Fin (T'.setTop { g with pc := g.pc + 3 })) : own_Run p e below Fin (T.setTop g) := by
  obtain ⟨T', X', e', st⟩ := castY X hx hZ hown w eT (Ins.of_exa E w2) hg hs hd
  exact own_go st (k T' X' e')
/-! constants -/
theorem own_ldc (X : Stand p l e R s m args below meth c T locs cells slots) (hx : p.tables.exec = Jvm.exec) (hZ : Z.Warmed39 s.vm) {own : String} {index : Nat} {v : Int32} (hown : s.vm.findClass own = some m.cls) (w : (Jvm.Cond.constant own index v).before a0 Z = true) {g : JFrame} (hg : g.method = m) (hd : decode c.code g.pc = .ok (.ldc index, 2))
    (k : own_Run p e below Fin (T.setTop { g with pc := g.pc + 2, stack := .int v :: g.stack })) : own_Run p e below Fin (T.setTop g) := own_go (X.ldcInt hx hown (mvT hZ w) hg hd) k
theorem own_ldc2 (X : Stand p l e R s m args below meth c T locs cells slots) (hx : p.tables.exec = Jvm.exec) (hZ : Z.Warmed39 s.vm) {own : String} {index : Nat} {v : Int64} (hown : s.vm.findClass own = some m.cls) (w : (Jvm.Cond.constantLong own index v).before a0 Z = true) {g : JFrame} (hg : g.method = m) (hd : decode c.code g.pc = .ok (.ldc2_w index, 3))
    (k : own_Run p e below Fin (T.setTop { g with pc := g.pc + 3, stack := .long v :: g.stack })) : own_Run p e below Fin (T.setTop g) := own_go (X.ldc2Long hx hown (mvT hZ w) hg hd) k
theorem own_inj {x y : Int32} (q : x.toInt = y.toInt) : x = y := Int32.toInt_inj.mp q
theorem own_injL {x y : Int64} (q : x.toInt = y.toInt) : x = y := Int64.toInt_inj.mp q
end OwnKit
section OwnKit2
variable {p : Program} {l : Launch} {e : Env} {R : Room} {s : State} {m : MethodId} {args : Array Value} {below : List Frame} {meth : Method} {c : Code} {T : State} {locs : List Loc} {cells slots : Nat} {Z : State} {a0 : Array Value} {h h' : Heap} {Fin : Outcome → State → Prop}
theorem own_selp {y : MethodName} {n : Nat} (hins : (Jvm.Cond.instantiable y.cls n).before args s = true) (hpriv : (Jvm.Cond.privateMethod y).before args s = true) (hinst : (Jvm.Cond.instanceMethod y).before args s = true) (hy : y.cls ≠ "java/lang/invoke/MethodHandle" ∧ y.cls ≠ "java/lang/invoke/VarHandle") : (Jvm.Cond.selects y.cls y y).before args s = true := by
  obtain ⟨c, k, hc, hk, -, hniab, -, -⟩ := Cond.instantiable_spec hins
  have hni : k.isInterface = false := (Bool.or_eq_false_iff.mp hniab).1
  obtain ⟨mk, methM, hnamed, hmethM, -, -⟩ := Cond.instanceMethod_spec hinst
  have hfound : s.methodFound? y.cls y.name y.desc = some mk := State.methodFound?_of_named hnamed hy
  have hcls : mk.cls = c := Option.some.inj ((findClass_of_methodNamed hnamed).symm.trans hc)
  have hsel : selectMethod {} s.vm c mk = .method mk := selectMethod_private hmethM (Cond.privateMethod_at hpriv mk methM hnamed hmethM)
  simp only [Cond.before, Cond.holds, Cond.value, hc, hfound, hnamed, hsel, hcls, hk]
  simp; exact hni
theorem own_callP (X : Stand p l e R s m args below meth c T locs cells slots) (hx : p.tables.exec = Jvm.exec) (hZ : Z.Warmed39 s.vm) (eT : T.heap = h) {own : String} (hown : s.vm.findClass own = some m.cls) {index nn : Nat} (y : MethodName) {C : String} {bytes : ByteArray} {maxL : Nat} {ret : Option FieldType} {rm : Room} {Q : Option Value → Heap → List Loc → Prop}
    (w1 : (Jvm.Cond.methodLink own index y).before a0 Z = true) (w5 : (Jvm.Cond.privateMethod y).before a0 Z = true) (w6 : (Jvm.Cond.instantiable y.cls nn).before a0 Z = true) (w2 : (Jvm.Cond.instanceMethod y).before a0 Z = true) (w3 : (Jvm.Cond.initialized y.cls).before a0 Z = true) (w4 : (Jvm.Cond.code y bytes maxL ret).before a0 Z = true) (hy : y.cls ≠ "java/lang/invoke/MethodHandle" ∧ y.cls ≠ "java/lang/invoke/VarHandle")
    (a : Addr) (E : Exa Z h a C) (argsL rest : List Value) (hM : own_Met l Z y bytes maxL ret rm (.ref a :: argsL).toArray h Q) (hf : rm.frames + 1 ≤ R.frames) (W : Nat) (hl : W + (maxL + 11) + rm.locals ≤ R.locals) (hc : cells + rm.cells ≤ R.cells) (hs : slots + rm.slots ≤ R.slots)
    {g : JFrame} (hg : g.method = m) (hsize : g.locals.size = c.maxLocals) (hlen : ∀ sig, parseMethodDescriptor y.desc = some sig → argsL.length = sig.parameters.length) (hstack : g.stack = argsL.reverse ++ .ref a :: rest) (hW : 2 * g.monitorRoom + (rest.map fun v => v.category).sum ≤ W) (hd : decode c.code g.pc = .ok (.invokevirtual index, 3))
    (k : ∀ (v : Option Value) (h' : Heap) (L : List Loc) (T' : State), Q v h' L → Stand p l e R s m args below meth c T' (locs ++ L) (cells + rm.cells) (slots + rm.slots) → T'.heap = h' → own_Run p e below Fin (T'.setTop { g with pc := g.pc + 3, stack := v.toList ++ rest })) : own_Run p e below Fin (T.setTop g) := by
  obtain ⟨cq, q1, q2⟩ := E.cell
  have hp : (Jvm.Cond.privateMethod y).before args s = true := mvP hZ w5
  obtain ⟨v, _, ⟨T', L', k', n'⟩, -, X', ⟨Lc, hQ, l1, y1, z1⟩, st⟩ := X.privateBack hx (y := y) hown (mvT hZ w1) (mvT hZ w2) (own_selp (mvT hZ w6) hp (mvT hZ w2) hy) (Cond.privateMethod_at hp) (mvT hZ w4) hy (backOf (W := W) (hM []) hZ w4 w3 hf hl) hg hsize (Steps.refl _) (a := a) (by rw [eT]; exact q1) q2 (argsL := argsL) (rest := rest) hlen hstack hW hd (fun _ _ => ⟨rfl, eT, hc, hs⟩)
  dsimp only [Pt.U, Pt.locs, Pt.cells, Pt.slots] at X' l1 y1 z1 st hQ
  subst l1 y1 z1
  exact own_go (fun _ q => st.trans q) (k v T'.heap Lc T' hQ X' rfl)
theorem own_keep_set {a : Addr} {c c' : Cell} (hc : h[a]? = some c) (e1 : c'.cls = c.cls) (e2 : c'.vm = c.vm) (e3 : c'.slots.size = c.slots.size) : Keep h (h.setIfInBounds a c') [a] := by
  refine ⟨by simp, fun x cx hx hn => ?_, fun x cx hx => ?_⟩
  · have q : x ≠ a := fun q => hn (by simp [q])
    rw [Array.getElem?_setIfInBounds_ne (Ne.symm q)]; exact hx
  · by_cases q : x = a
    · subst q; cases hc.symm.trans hx
      exact ⟨c', by simp [(Array.getElem?_eq_some_iff.mp hc).1], e1, e2, e3⟩
    · exact ⟨cx, by rw [Array.getElem?_setIfInBounds_ne (Ne.symm q)]; exact hx, rfl, rfl, rfl⟩
theorem own_FrC {kk dst : Nat} {q n : Nat} (X : Stand p l e R s m args below meth c T (locs ++ copyLocs dst q n) cells slots) (N : Fr kk locs) (g : kk ≤ dst) : Fr kk (locs ++ copyLocs dst q n) := N.app fun y hy => by rw [copyLocs_base hy]; exact g
/-- System.arraycopy(src, 0, dst, q, n) of ints -/
theorem own_copy (X : Stand p l e R s m args below meth c T locs cells slots) (hx : p.tables.exec = Jvm.exec) (hZ : Z.Warmed39 s.vm) (eT : T.heap = h) {own : String} (hown : s.vm.findClass own = some m.cls) {index : Nat}
    (w1 : (Jvm.Cond.methodLink own index acN).before a0 Z = true) (w2 : (Jvm.Cond.native acN).before a0 Z = true) (w3 : (Jvm.Cond.static acN).before a0 Z = true) (w4 : (Jvm.Cond.initialized "java/lang/System").before a0 Z = true)
    {src dst : Addr} {ns nd : Nat} {F : Nat → Int32} {g0 : Nat → Value} (A : own_Arr Z h src .int ns (fun k => .int (F k))) (B : own_Arr Z h dst .int nd g0) {zq zn : Int32} (q n : Nat) (hq : zq.toInt = q) (hn : zn.toInt = n) (hns : n ≤ ns) (hnd : q + n ≤ nd) (hnd31 : nd < 2147483648)
    {g : JFrame} (hg : g.method = m) (hsize : g.locals.size = c.maxLocals) {rest : List Value} (hs : g.stack = .int zn :: .int zq :: .ref dst :: .int (0 : Int32) :: .ref src :: rest) (hd : decode c.code g.pc = .ok (.invokestatic index, 3))
    (hf : 1 ≤ R.frames) (W : Nat) (hW : 2 * g.monitorRoom + (rest.map fun v => v.category).sum ≤ W) (hl : W + 18 ≤ R.locals)
    (k : ∀ (T' : State) (h' : Heap), Stand p l e R s m args below meth c T' (locs ++ copyLocs dst zq.toNatClampNeg zn.toNatClampNeg) cells slots → T'.heap = h' → Keep h h' [dst] → own_Arr Z h' dst .int nd (fun i => if q ≤ i ∧ i < q + n then .int (F (i - q)) else g0 i) →
      own_Run p e below Fin (T'.setTop { g with pc := g.pc + 3, stack := rest })) : own_Run p e below Fin (T.setTop g) := by
  obtain ⟨cs, A1, a1, a2⟩ := A
  obtain ⟨cd, B1, b1, b2⟩ := B
  have z0 : (0 : Int32).toInt = 0 := rfl
  have eq1 : zq = Int32.ofNat q := Int32.toInt_inj.mp (by rw [Int32.toInt_ofNat_small (by omega)]; exact hq)
  have en1 : zn = Int32.ofNat n := Int32.toInt_inj.mp (by rw [Int32.toInt_ofNat_small (by omega)]; exact hn)
  obtain ⟨sa1, ks, sa2, sComp, sa3⟩ := State.isArrayOf_alike (T := s) hZ.alike A1.2.1
  obtain ⟨sb1, kd, sb2, dComp, sb3⟩ := State.isArrayOf_alike (T := s) hZ.alike B1.2.1
  have hnc : zn.toNatClampNeg = n := by simp only [Int32.toNatClampNeg]; omega
  obtain ⟨vm₁, -, X', st⟩ := X.arraycopyK hx hown (mvT hZ w1) (mvT hZ w2) (mvT hZ w3) (mvT hZ w4) (srcPos := 0) (destPos := zq) (n := zn) (by rw [eT]; exact A1.1) (by rw [eT]; exact B1.1) sa1 sb1 A1.2.2 B1.2.2 sa2 sb2 sa3 sb3 (by decide)
    (by decide) (by rw [Int32.lt_iff_toInt_lt, z0]; omega) (by rw [Int32.lt_iff_toInt_lt, z0]; omega) (by rw [z0, a1]; omega) (by rw [b1]; omega)
    (fun vm₁ _ i hi => by
      have e1 : cs.slots.getD ((0 : Int32).toNatClampNeg + i) .null = .int (F i) := by
        have q0 : (0 : Int32).toNatClampNeg = 0 := rfl
        rw [q0, Nat.zero_add]
        exact SBG.getD_of (a2 i (by omega))
      rw [e1]
      exact ⟨rfl, trivial⟩) hg hsize hs hd hf (by
      have : nativeFrameWords "java/lang/System" "arraycopy" 5 = 7 := by decide
      omega)
  obtain ⟨c1, c2, c3⟩ := SB.copied_facts cs cd 0 zq zn
  refine own_go st (k _ (h.setIfInBounds dst (copied cs cd 0 zq zn)) X' (by rw [← eT]; rfl) (own_keep_set B1.1 c1 c2 c3) ⟨copied cs cd 0 zq zn, ⟨by simp [(Array.getElem?_eq_some_iff.mp B1.1).1], ?_, by rw [c2]; exact B1.2.2⟩, by rw [c3]; exact b1, fun j hj => ?_⟩)
  · obtain ⟨t1, kk, t2, comp, t3⟩ := B1.2.1
    exact ⟨fun z w => t1 z (by rw [← c2]; exact w), kk, by rw [c1]; exact t2, comp, t3⟩
  · rw [eq1, en1, SBG.copied_at (by omega) (by omega) (by omega) j]
    by_cases r : q ≤ j ∧ j < q + n
    · show _ = some (if q ≤ j ∧ j < q + n then Value.int (F (j - q)) else g0 j)
      rw [if_pos r, if_pos r]
      exact congrArg some (SBG.getD_of (a2 (j - q) (by omega)))
    · show _ = some (if q ≤ j ∧ j < q + n then Value.int (F (j - q)) else g0 j)
      rw [if_neg r, if_neg r]; exact b2 j hj
end OwnKit2
theorem own_oi (k : Nat) (h : k < 2147483648) : (Int32.ofInt (k : Int)).toInt = k := by rw [Int32.toInt_ofInt]; exact Int.bmod_eq_of_le (by have hs : Int32.size = 4294967296 := rfl; omega) (by have hs : Int32.size = 4294967296 := rfl; omega)
theorem own_ofn (j : Nat) (h : j < 2147483648) : (Int32.ofInt (j : Int)).toNatClampNeg = j := by have := own_oi j h; simp only [Int32.toNatClampNeg]; omega
theorem own_next (k : Nat) : Int32.ofInt (k : Int) + (1 : Int32) = Int32.ofInt ((k + 1 : Nat) : Int) := by
  rw [show (1 : Int32) = Int32.ofInt 1 from rfl, ← Int32.ofInt_add]; rfl
theorem own_at2 (k k' : Nat) (h : k' = k + 2) : Int32.ofInt (k : Int) + (2 : Int32) = Int32.ofInt (k' : Int) := by
  subst h; rw [show (2 : Int32) = Int32.ofInt 2 from rfl, ← Int32.ofInt_add]; rfl
def own_max (u w : Int32) : Int32 := if u < w then w else u
def own_min (u w : Int32) : Int32 := if w < u then w else u
def own_cost (d w : Int32) : Int32 := own_min ((1 : Int32) + ((2 : Int32) * (own_min d w))) ((1 : Int32) + w)
def own_hr (u w cz : Int32) : Int32 := if cz < ((u + (1 : Int32)) + w) then (0 : Int32) else (1 : Int32)
abbrev own_ok (n D : Nat) : Prop := D = 0 ∨ 2 * D + 1 ≤ n
def own_use (ct : Int32) (nu nw dd : Nat) : Nat := if ct = (0 : Int32) then nu + 1 + nw else if own_ok nw (min nw dd) then nu + 1 + 2 * min nw dd else nu + 1 + nw
def own_mix (G Lf : Nat → Int32) (j : Nat) : Nat → Int32 := fun i => if i < j then G i else Lf i
theorem own_mixat (G Lf : Nat → Int32) (j : Nat) : own_mix G Lf j j = Lf j := if_neg (Nat.lt_irrefl j)
theorem own_mixeq (G Lf : Nat → Int32) (j : Nat) (h : G j = Lf j) (k : Nat) : own_mix G Lf j k = own_mix G Lf (j + 1) k := by
  unfold own_mix
  by_cases q : k < j
  · rw [if_pos q, if_pos (by omega)]
  · rw [if_neg q]
    by_cases r : k = j
    · subst r; rw [if_pos (by omega)]; exact h.symm
    · rw [if_neg (by omega)]
theorem own_mixst (G Lf : Nat → Int32) (j k : Nat) (c : (Int32.ofInt ((j : Nat) : Int)).toNatClampNeg = j) : (fun i => if i = (Int32.ofInt ((j : Nat) : Int)).toNatClampNeg then Value.int (G j) else (fun k => Value.int (own_mix G Lf j k)) i) k = (fun k => Value.int (own_mix G Lf (j + 1) k)) k := by
  show (if k = (Int32.ofInt ((j : Nat) : Int)).toNatClampNeg then Value.int (G j) else Value.int (own_mix G Lf j k)) = Value.int (own_mix G Lf (j + 1) k)
  rw [c]; unfold own_mix
  by_cases q : k = j
  · subst q; rw [if_pos rfl, if_pos (by omega)]
  · rw [if_neg q]
    by_cases r : k < j
    · rw [if_pos r, if_pos (by omega)]
    · rw [if_neg r, if_neg (by omega)]
theorem own_cpy (G Lf : Nat → Int32) (nw j : Nat) : (fun i => if 0 ≤ i ∧ i < 0 + nw then Value.int (G (i - 0)) else (fun k => Value.int (Lf k)) i) j = (fun k => Value.int ((fun j => if j < nw then G j else Lf j) k)) j := by
  show (if 0 ≤ j ∧ j < 0 + nw then Value.int (G (j - 0)) else Value.int (Lf j)) = Value.int (if j < nw then G j else Lf j)
  by_cases q : j < nw
  · rw [if_pos q, if_pos ⟨Nat.zero_le _, by omega⟩]; rfl
  · rw [if_neg q, if_neg (by omega)]
theorem own_st6 {s0 s1 s2 s3 s4 s5 s6 : Slot} {v : Int32} (h : One s6) : storeLocals #[s0, s1, s2, s3, s4, s5, s6] 6 (.int v) = some #[s0, s1, s2, s3, s4, s5, .val (.int v)] := by
  rcases h with rfl | ⟨w, rfl, hw⟩
  · rfl
  · cases w <;> first | rfl | (simp [Value.category] at hw)
theorem own_rem (y : Int32) : 0 ≤ ((y &&& (2147483647 : Int32)) % (16385 : Int32)).toInt ∧ ((y &&& (2147483647 : Int32)) % (16385 : Int32)).toInt ≤ 16384 := by
  have q := (c_and y 2147483647 (by decide)).1
  have m := (c_irem (y &&& (2147483647 : Int32)) 16385 16385 rfl).1 q
  omega
theorem own_capv (wv : Int32) (nw : Nat) (hwn : wv.toInt = nw) (h : nw ≤ 16384) : (own_max (16384 : Int32) ((1 : Int32) + wv)).toInt = ((max 16384 (1 + nw) : Nat) : Int) := by
  have z1 : (1 : Int32).toInt = 1 := rfl
  have z16 : (16384 : Int32).toInt = 16384 := rfl
  have q1 := c_iadd (1 : Int32) wv
  have q2 := rng32 ((1 : Int32) + wv)
  unfold own_max
  by_cases c : (16384 : Int32) < (1 : Int32) + wv
  · rw [if_pos c]; rw [Int32.lt_iff_toInt_lt] at c; omega
  · rw [if_neg c]; rw [Int32.lt_iff_toInt_lt] at c; omega
theorem own_sub (wv cz : Int32) (nw nc nu : Nat) (hwn : wv.toInt = nw) (hcz : cz.toInt = nc) (hw1 : ((1 : Int32) + wv).toInt = ((1 + nw : Nat) : Int)) (hb : nu ≤ 100000 ∧ nc ≤ 16385 ∧ nw ≤ 16384) : (cz - Int32.ofInt ((nu : Nat) : Int)) < ((1 : Int32) + wv) ↔ nc < nu + 1 + nw := by
  have e := own_oi nu (by omega)
  have q1 := c_isub cz (Int32.ofInt ((nu : Nat) : Int))
  have q2 := rng32 (cz - Int32.ofInt ((nu : Nat) : Int))
  have q3 := rng32 ((1 : Int32) + wv)
  rw [Int32.lt_iff_toInt_lt]; omega
theorem own_hrv (wv cz : Int32) (nw nc nu : Nat) (hwn : wv.toInt = nw) (hcz : cz.toInt = nc) (hw1 : ((1 : Int32) + wv).toInt = ((1 + nw : Nat) : Int)) (hb : nu ≤ 100000 ∧ nc ≤ 16385 ∧ nw ≤ 16384) : cz < ((Int32.ofInt ((nu : Nat) : Int) + (1 : Int32)) + wv) ↔ nc < nu + 1 + nw := by
  have z1 : (1 : Int32).toInt = 1 := rfl
  have e := own_oi nu (by omega)
  have q1 := c_iadd (Int32.ofInt ((nu : Nat) : Int)) (1 : Int32)
  have q2 := rng32 (Int32.ofInt ((nu : Nat) : Int) + (1 : Int32))
  have q3 := c_iadd (Int32.ofInt ((nu : Nat) : Int) + (1 : Int32)) wv
  have q4 := rng32 ((Int32.ofInt ((nu : Nat) : Int) + (1 : Int32)) + wv)
  have q5 := c_iadd (1 : Int32) wv
  have q6 := rng32 wv
  rw [Int32.lt_iff_toInt_lt]; omega
theorem own_hr0 (wv cz : Int32) (nw nc nu : Nat) (hwn : wv.toInt = nw) (hcz : cz.toInt = nc) (hw1 : ((1 : Int32) + wv).toInt = ((1 + nw : Nat) : Int)) (hb : nu ≤ 100000 ∧ nc ≤ 16385 ∧ nw ≤ 16384) (hc : (cz - Int32.ofInt ((nu : Nat) : Int)) < ((1 : Int32) + wv)) : own_hr (Int32.ofInt ((nu : Nat) : Int)) wv cz = (0 : Int32) := if_pos ((own_hrv wv cz nw nc nu hwn hcz hw1 hb).mpr ((own_sub wv cz nw nc nu hwn hcz hw1 hb).mp hc))
theorem own_hr1 (wv cz : Int32) (nw nc nu : Nat) (hwn : wv.toInt = nw) (hcz : cz.toInt = nc) (hw1 : ((1 : Int32) + wv).toInt = ((1 + nw : Nat) : Int)) (hb : nu ≤ 100000 ∧ nc ≤ 16385 ∧ nw ≤ 16384) (hc : ¬ (cz - Int32.ofInt ((nu : Nat) : Int)) < ((1 : Int32) + wv)) : own_hr (Int32.ofInt ((nu : Nat) : Int)) wv cz = (1 : Int32) := if_neg fun q => hc ((own_sub wv cz nw nc nu hwn hcz hw1 hb).mpr ((own_hrv wv cz nw nc nu hwn hcz hw1 hb).mp q))
theorem own_rm (wv cz : Int32) (nw nc nu : Nat) (hwn : wv.toInt = nw) (hcz : cz.toInt = nc) (hw1 : ((1 : Int32) + wv).toInt = ((1 + nw : Nat) : Int)) (hb : nu ≤ 100000 ∧ nc ≤ 16385 ∧ nw ≤ 16384) (hc : ¬ (cz - Int32.ofInt ((nu : Nat) : Int)) < ((1 : Int32) + wv)) : nu + 1 + nw ≤ nc := Nat.le_of_not_lt fun q => hc ((own_sub wv cz nw nc nu hwn hcz hw1 hb).mpr q)
theorem own_useb (ct : Int32) (nu nw dd : Nat) : own_use ct nu nw dd ≤ nu + 1 + nw := by
  unfold own_use
  by_cases c : ct = 0
  · rw [if_pos c]; exact Nat.le_refl _
  · rw [if_neg c]
    by_cases o : own_ok nw (min nw dd)
    · rw [if_pos o]; rcases o with o | o <;> omega
    · rw [if_neg o]; exact Nat.le_refl _
theorem own_useb_of {n : Nat} {ct : Int32} {nu nw dd : Nat} (h : n = own_use ct nu nw dd) : n ≤ nu + 1 + nw := h ▸ own_useb ct nu nw dd
theorem own_u1 (wv : Int32) (nw n1 : Nat) (hwn : wv.toInt = nw) (hw1 : ((1 : Int32) + wv).toInt = ((1 + nw : Nat) : Int)) (h : nw ≤ 16384) (hn1 : n1 = own_use (0 : Int32) 0 nw 0) : (Int32.ofInt ((0 : Nat) : Int) + (1 : Int32)) + wv = Int32.ofInt ((n1 : Nat) : Int) := by
  have e : n1 = 0 + 1 + nw := hn1
  have z0 : Int32.ofInt ((0 : Nat) : Int) + (1 : Int32) = (1 : Int32) := rfl
  rw [z0]
  exact own_inj (by rw [own_oi n1 (by omega)]; omega)
theorem own_minv (u w : Int32) (a b : Nat) (hu : u.toInt = a) (hw : w.toInt = b) : (own_min u w).toInt = ((min a b : Nat) : Int) := by
  unfold own_min
  by_cases c : w < u
  · rw [if_pos c]; rw [Int32.lt_iff_toInt_lt] at c; omega
  · rw [if_neg c]; rw [Int32.lt_iff_toInt_lt] at c; omega
theorem own_u2 (d wv : Int32) (nw nc n1 nd n2 : Nat) {ct : Int32} (hwn : wv.toInt = nw) (hnd : d.toInt = nd) (hd3 : nd ≤ 3) (hnw : nw ≤ 16384) (hnc : nc ≤ 16385) (hb : n1 ≤ 100000) (hct : ct ≠ 0) (hn2 : n2 = own_use ct n1 nw nd) : Int32.ofInt ((n1 : Nat) : Int) + own_cost d wv = Int32.ofInt ((n2 : Nat) : Int) := by
  have z1 : (1 : Int32).toInt = 1 := rfl
  have z2 : (2 : Int32).toInt = 2 := rfl
  have e1 := own_oi n1 (by omega)
  have m1 := own_minv d wv nd nw hnd hwn
  have p1 := c_imul (2 : Int32) (own_min d wv)
  have p2 := rng32 ((2 : Int32) * (own_min d wv))
  have p3 := c_iadd (1 : Int32) ((2 : Int32) * (own_min d wv))
  have p4 := rng32 ((1 : Int32) + ((2 : Int32) * (own_min d wv)))
  have p5 := c_iadd (1 : Int32) wv
  have p6 := rng32 ((1 : Int32) + wv)
  rw [z2, m1] at p1
  have m2 := own_minv ((1 : Int32) + ((2 : Int32) * (own_min d wv))) ((1 : Int32) + wv) (1 + 2 * min nd nw) (1 + nw) (by omega) (by omega)
  have p7 := c_iadd (Int32.ofInt ((n1 : Nat) : Int)) (own_cost d wv)
  have p8 := rng32 (Int32.ofInt ((n1 : Nat) : Int) + own_cost d wv)
  have m3 : (own_cost d wv).toInt = ((min (1 + 2 * min nd nw) (1 + nw) : Nat) : Int) := m2
  have u : n2 = n1 + min (1 + 2 * min nd nw) (1 + nw) := by
    rw [hn2]; unfold own_use; rw [if_neg hct]
    by_cases o : own_ok nw (min nw nd)
    · rw [if_pos o]; rcases o with o | o <;> omega
    · rw [if_neg o]
      have o1 : ¬ min nw nd = 0 := fun q => o (Or.inl q)
      have o2 : ¬ 2 * min nw nd + 1 ≤ nw := fun q => o (Or.inr q)
      omega
  exact own_inj (by rw [own_oi n2 (by omega)]; omega)
def own_gs (j nd : Nat) (v : Int32) (G : Nat → Int32) : Nat → Int32 := fun k => if k < min j nd then v else G k
theorem own_gs0 (nd : Nat) (v : Int32) (G : Nat → Int32) (k : Nat) : own_gs 0 nd v G k = G k := if_neg (by omega)
theorem own_gsn (j nd : Nat) (v : Int32) (G : Nat → Int32) (h : ¬ j < nd) (k : Nat) : own_gs j nd v G k = own_gs (j + 1) nd v G k := by
  unfold own_gs; rw [show min j nd = min (j + 1) nd by omega]
theorem own_gst (j nd : Nat) (v : Int32) (G : Nat → Int32) (h : j < nd) (k : Nat) : (fun i => if i = j then Value.int v else (fun k => Value.int (own_gs j nd v G k)) i) k = (fun k => Value.int (own_gs (j + 1) nd v G k)) k := by
  show (if k = j then Value.int v else Value.int (own_gs j nd v G k)) = Value.int (own_gs (j + 1) nd v G k)
  unfold own_gs
  by_cases q : k = j
  · rw [if_pos q, if_pos (by omega)]
  · rw [if_neg q]
    by_cases r : k < min j nd
    · rw [if_pos r, if_pos (by omega)]
    · rw [if_neg r, if_neg (by omega)]
theorem own_diff2 (nd : Nat) (h : nd ≤ 3) (j : Nat) : ¬ own_gs 3 nd (1 : Int32) (fun _ => (0 : Int32)) j = (0 : Int32) ↔ j < nd := by
  unfold own_gs
  by_cases q : j < min 3 nd
  · rw [if_pos q]; exact ⟨fun _ => by omega, fun _ => by decide⟩
  · rw [if_neg q]; exact ⟨fun w => absurd rfl w, fun w => absurd w (by omega)⟩
theorem own_diff3 (nd2 nd : Nat) (h2 : nd2 ≤ 3) (h : nd ≤ 3) (j : Nat) : ¬ own_gs 3 nd (2 : Int32) (own_gs 3 nd2 (1 : Int32) (fun _ => (0 : Int32))) j = own_gs 3 nd2 (1 : Int32) (fun _ => (0 : Int32)) j ↔ j < nd := by
  have e : own_gs 3 nd (2 : Int32) (own_gs 3 nd2 (1 : Int32) (fun _ => (0 : Int32))) j = if j < min 3 nd then (2 : Int32) else own_gs 3 nd2 (1 : Int32) (fun _ => (0 : Int32)) j := rfl
  rw [e]
  by_cases q : j < min 3 nd
  · rw [if_pos q]
    refine ⟨fun _ => by omega, fun _ => ?_⟩
    unfold own_gs
    by_cases r : j < min 3 nd2
    · rw [if_pos r]; exact (by decide : ¬ (2 : Int32) = (1 : Int32))
    · rw [if_neg r]; exact (by decide : ¬ (2 : Int32) = (0 : Int32))
  · rw [if_neg q]; exact ⟨fun w => absurd rfl w, fun w => absurd w (by omega)⟩
theorem d0_0 : decode jdk_29_method_65_code 0 = .ok (.iload_n 0, 1) := by decide +kernel
theorem d0_1 : decode jdk_29_method_65_code 1 = .ok (.iload_n 1, 1) := by decide +kernel
theorem d0_2 : decode jdk_29_method_65_code 2 = .ok (.if_icmp .lt 7, 3) := by decide +kernel
theorem d0_5 : decode jdk_29_method_65_code 5 = .ok (.iload_n 0, 1) := by decide +kernel
theorem d0_6 : decode jdk_29_method_65_code 6 = .ok (.goto 4, 3) := by decide +kernel
theorem d0_9 : decode jdk_29_method_65_code 9 = .ok (.iload_n 1, 1) := by decide +kernel
theorem d0_10 : decode jdk_29_method_65_code 10 = .ok (.ireturn, 1) := by decide +kernel
abbrev Q_max (Z : State) (u : Int32) (w : Int32) (h0 : Heap) : Option Value → Heap → List Loc → Prop := fun v h L => v = some (.int (own_max u w)) ∧ h0 = h ∧ L = []
set_option maxRecDepth 65536 in
set_option maxHeartbeats 40000000 in
theorem rm_max (l : Launch) (Z : State) (a0 : Array Value) (hw : ∀ d ∈ tables_1, d.before a0 Z = true) (u : Int32) (w : Int32) (h0 : Heap)  :
    own_Met l Z (⟨"java/lang/Math", "max", "(II)I"⟩ : MethodName) jdk_29_method_65_code 2 (some .int) ({ frames := 0, cells := 0, slots := 0, locals := 0 } : Room) #[(.int u), (.int w)] h0 (Q_max Z u w h0) := by
  refine own_enter (g0 := fun m => (mkF m 0 #[.val (.int u), .val (.int w)] [])) (Jvm.Free.JP.mathPlain rfl (by decide +kernel)) (fun m => by first | (simp [entryFrame, mkF, argsToLocals, Value.category]; done) | rfl) ?_
  intro p e s m below meth c T hx hby hml hown hnm hZ hret hlk X e0
  replace hown : s.vm.findClass "java/lang/Math" = some m.cls := hown
  show own_Run p e below _ (T.setTop (mkF m 0 #[.val (.int u), .val (.int w)] []))
  refine own_go (fun _ kS => XS.iloadN X.here hx rfl (hb hby d0_0) rfl kS) ?_
  show own_Run p e below _ (T.setTop (mkF m 1 #[.val (.int u), .val (.int w)] [(.int u)]))
  refine own_go (fun _ kS => XS.iloadN X.here hx rfl (hb hby d0_1) rfl kS) ?_
  show own_Run p e below _ (T.setTop (mkF m 2 #[.val (.int u), .val (.int w)] [(.int w), (.int u)]))
  by_cases hc2 : u < w
  · refine own_go (fun _ kS => XS.icmpYes X.here hx rfl (pc0 := 2) (pc' := 9) rfl (hb hby d0_2) rfl (tlt hc2).1 (by decide) (by decide) kS) ?_
    show own_Run p e below _ (T.setTop (mkF m 9 #[.val (.int u), .val (.int w)] []))
    refine own_go (fun _ kS => XS.iloadN X.here hx rfl (hb hby d0_9) rfl kS) ?_
    show own_Run p e below _ (T.setTop (mkF m 10 #[.val (.int u), .val (.int w)] [(.int w)]))
    refine own_retI X hx hret hlk (hb hby d0_10) (by decide) (by decide) ?_
    exact ⟨by rw [(by unfold own_max; rw [if_pos hc2] : own_max u w = w)], e0.symm, rfl⟩
  · refine own_go (fun _ kS => XS.icmpNo X.here hx rfl (hb hby d0_2) rfl (flt hc2).1 kS) ?_
    show own_Run p e below _ (T.setTop (mkF m 5 #[.val (.int u), .val (.int w)] []))
    refine own_go (fun _ kS => XS.iloadN X.here hx rfl (hb hby d0_5) rfl kS) ?_
    show own_Run p e below _ (T.setTop (mkF m 6 #[.val (.int u), .val (.int w)] [(.int u)]))
    refine own_go (fun _ kS => XS.goto X.here hx rfl (pc0 := 6) (pc' := 10) rfl (hb hby d0_6) (by decide) (by decide) kS) ?_
    show own_Run p e below _ (T.setTop (mkF m 10 #[.val (.int u), .val (.int w)] [(.int u)]))
    refine own_retI X hx hret hlk (hb hby d0_10) (by decide) (by decide) ?_
    exact ⟨by rw [(by unfold own_max; rw [if_neg hc2] : own_max u w = u)], e0.symm, rfl⟩
theorem d1_0 : decode jdk_29_method_69_code 0 = .ok (.iload_n 0, 1) := by decide +kernel
theorem d1_1 : decode jdk_29_method_69_code 1 = .ok (.iload_n 1, 1) := by decide +kernel
theorem d1_2 : decode jdk_29_method_69_code 2 = .ok (.if_icmp .gt 7, 3) := by decide +kernel
theorem d1_5 : decode jdk_29_method_69_code 5 = .ok (.iload_n 0, 1) := by decide +kernel
theorem d1_6 : decode jdk_29_method_69_code 6 = .ok (.goto 4, 3) := by decide +kernel
theorem d1_9 : decode jdk_29_method_69_code 9 = .ok (.iload_n 1, 1) := by decide +kernel
theorem d1_10 : decode jdk_29_method_69_code 10 = .ok (.ireturn, 1) := by decide +kernel
abbrev Q_min (Z : State) (u : Int32) (w : Int32) (h0 : Heap) : Option Value → Heap → List Loc → Prop := fun v h L => v = some (.int (own_min u w)) ∧ h0 = h ∧ L = []
set_option maxRecDepth 65536 in
set_option maxHeartbeats 40000000 in
theorem rm_min (l : Launch) (Z : State) (a0 : Array Value) (hw : ∀ d ∈ tables_1, d.before a0 Z = true) (u : Int32) (w : Int32) (h0 : Heap)  :
    own_Met l Z (⟨"java/lang/Math", "min", "(II)I"⟩ : MethodName) jdk_29_method_69_code 2 (some .int) ({ frames := 0, cells := 0, slots := 0, locals := 0 } : Room) #[(.int u), (.int w)] h0 (Q_min Z u w h0) := by
  refine own_enter (g0 := fun m => (mkF m 0 #[.val (.int u), .val (.int w)] [])) (Jvm.Free.JP.mathPlain rfl (by decide +kernel)) (fun m => by first | (simp [entryFrame, mkF, argsToLocals, Value.category]; done) | rfl) ?_
  intro p e s m below meth c T hx hby hml hown hnm hZ hret hlk X e0
  replace hown : s.vm.findClass "java/lang/Math" = some m.cls := hown
  show own_Run p e below _ (T.setTop (mkF m 0 #[.val (.int u), .val (.int w)] []))
  refine own_go (fun _ kS => XS.iloadN X.here hx rfl (hb hby d1_0) rfl kS) ?_
  show own_Run p e below _ (T.setTop (mkF m 1 #[.val (.int u), .val (.int w)] [(.int u)]))
  refine own_go (fun _ kS => XS.iloadN X.here hx rfl (hb hby d1_1) rfl kS) ?_
  show own_Run p e below _ (T.setTop (mkF m 2 #[.val (.int u), .val (.int w)] [(.int w), (.int u)]))
  by_cases hc2 : w < u
  · refine own_go (fun _ kS => XS.icmpYes X.here hx rfl (pc0 := 2) (pc' := 9) rfl (hb hby d1_2) rfl (tlt hc2).2.2.1 (by decide) (by decide) kS) ?_
    show own_Run p e below _ (T.setTop (mkF m 9 #[.val (.int u), .val (.int w)] []))
    refine own_go (fun _ kS => XS.iloadN X.here hx rfl (hb hby d1_9) rfl kS) ?_
    show own_Run p e below _ (T.setTop (mkF m 10 #[.val (.int u), .val (.int w)] [(.int w)]))
    refine own_retI X hx hret hlk (hb hby d1_10) (by decide) (by decide) ?_
    exact ⟨by rw [(by unfold own_min; rw [if_pos hc2] : own_min u w = w)], e0.symm, rfl⟩
  · refine own_go (fun _ kS => XS.icmpNo X.here hx rfl (hb hby d1_2) rfl (flt hc2).2.2.1 kS) ?_
    show own_Run p e below _ (T.setTop (mkF m 5 #[.val (.int u), .val (.int w)] []))
    refine own_go (fun _ kS => XS.iloadN X.here hx rfl (hb hby d1_5) rfl kS) ?_
    show own_Run p e below _ (T.setTop (mkF m 6 #[.val (.int u), .val (.int w)] [(.int u)]))
    refine own_go (fun _ kS => XS.goto X.here hx rfl (pc0 := 6) (pc' := 10) rfl (hb hby d1_6) (by decide) (by decide) kS) ?_
    show own_Run p e below _ (T.setTop (mkF m 10 #[.val (.int u), .val (.int w)] [(.int u)]))
    refine own_retI X hx hret hlk (hb hby d1_10) (by decide) (by decide) ?_
    exact ⟨by rw [(by unfold own_min; rw [if_neg hc2] : own_min u w = u)], e0.symm, rfl⟩
theorem own_pd0 : parseMethodDescriptor "(II)I" = some ⟨[.int, .int], some .int⟩ := by decide +kernel
theorem d2_0 : decode method_2_code 0 = .ok (.iload_n 0, 1) := by decide +kernel
theorem d2_1 : decode method_2_code 1 = .ok (.iload_n 1, 1) := by decide +kernel
theorem d2_2 : decode method_2_code 2 = .ok (.invokestatic 7, 3) := by decide +kernel
theorem d2_5 : decode method_2_code 5 = .ok (.istore_n 2, 1) := by decide +kernel
theorem d2_6 : decode method_2_code 6 = .ok (.iconst 1, 1) := by decide +kernel
theorem d2_7 : decode method_2_code 7 = .ok (.iconst 2, 1) := by decide +kernel
theorem d2_8 : decode method_2_code 8 = .ok (.iload_n 2, 1) := by decide +kernel
theorem d2_9 : decode method_2_code 9 = .ok (.imul, 1) := by decide +kernel
theorem d2_10 : decode method_2_code 10 = .ok (.iadd, 1) := by decide +kernel
theorem d2_11 : decode method_2_code 11 = .ok (.iconst 1, 1) := by decide +kernel
theorem d2_12 : decode method_2_code 12 = .ok (.iload_n 1, 1) := by decide +kernel
theorem d2_13 : decode method_2_code 13 = .ok (.iadd, 1) := by decide +kernel
theorem d2_14 : decode method_2_code 14 = .ok (.invokestatic 7, 3) := by decide +kernel
theorem d2_17 : decode method_2_code 17 = .ok (.ireturn, 1) := by decide +kernel
abbrev Q_cost (Z : State) (d : Int32) (w : Int32) (h0 : Heap) : Option Value → Heap → List Loc → Prop := fun v h L => v = some (.int (own_cost d w)) ∧ h0 = h ∧ L = []
set_option maxRecDepth 65536 in
set_option maxHeartbeats 40000000 in
theorem rm_cost (l : Launch) (Z : State) (a0 : Array Value) (hw : ∀ d ∈ tables_1, d.before a0 Z = true) (d : Int32) (w : Int32) (h0 : Heap)  :
    own_Met l Z (⟨"com/example/smallscope/smallscope/ChunkHasRoomPinLaw", "cost", "(II)I"⟩ : MethodName) method_2_code 3 (some .int) ({ frames := 1, cells := 0, slots := 0, locals := 13 } : Room) #[(.int d), (.int w)] h0 (Q_cost Z d w h0) := by
  refine own_enter (g0 := fun m => (mkF m 0 #[.val (.int d), .val (.int w), .unset] [])) (plainFor_of_name (by first | (simp [plainName, overriddenIn]; done) | decide +kernel)) (fun m => by first | (simp [entryFrame, mkF, argsToLocals, Value.category]; done) | rfl) ?_
  intro p e s m below meth c T hx hby hml hown hnm hZ hret hlk X e0
  replace hown : s.vm.findClass "com/example/smallscope/smallscope/ChunkHasRoomPinLaw" = some m.cls := hown
  show own_Run p e below _ (T.setTop (mkF m 0 #[.val (.int d), .val (.int w), .unset] []))
  refine own_go (fun _ kS => XS.iloadN X.here hx rfl (hb hby d2_0) rfl kS) ?_
  show own_Run p e below _ (T.setTop (mkF m 1 #[.val (.int d), .val (.int w), .unset] [(.int d)]))
  refine own_go (fun _ kS => XS.iloadN X.here hx rfl (hb hby d2_1) rfl kS) ?_
  show own_Run p e below _ (T.setTop (mkF m 2 #[.val (.int d), .val (.int w), .unset] [(.int w), (.int d)]))
  refine own_callS X hx hZ e0 hown (⟨"java/lang/Math", "min", "(II)I"⟩ : MethodName) (hw _ (List.mem_of_getElem? (i := 50) rfl)) (hw _ (List.mem_of_getElem? (i := 51) rfl)) (hw _ (List.mem_of_getElem? (i := 15) rfl)) (hw _ (List.mem_of_getElem? (i := 52) rfl)) (by decide) [(.int d), (.int w)] [] (rm_min l Z a0 hw d w h0) (by decide) 0 (by decide) (by decide) (by decide) rfl (by rw [hml]; rfl) (lenOf own_pd0 rfl) rfl (by show 2 * 0 + _ ≤ _; exact Nat.le_of_eq rfl) (hb hby d2_2) (fun v1 h1 L1 T1 Q1 X1 e1 => ?_)
  obtain ⟨rfl, rfl, rfl⟩ := Q1
  show own_Run p e below _ (T1.setTop (mkF m 5 #[.val (.int d), .val (.int w), .unset] [(.int (own_min d w))]))
  refine own_go (fun _ kS => XS.istoreN X1.here hx rfl (hb hby d2_5) rfl (l' := #[.val (.int d), .val (.int w), .val (.int (own_min d w))]) rfl kS) ?_
  show own_Run p e below _ (T1.setTop (mkF m 6 #[.val (.int d), .val (.int w), .val (.int (own_min d w))] []))
  refine own_go (fun _ kS => XS.iconst X1.here hx rfl (hb hby d2_6) kS) ?_
  show own_Run p e below _ (T1.setTop (mkF m 7 #[.val (.int d), .val (.int w), .val (.int (own_min d w))] [(.int (1 : Int32))]))
  refine own_go (fun _ kS => XS.iconst X1.here hx rfl (hb hby d2_7) kS) ?_
  show own_Run p e below _ (T1.setTop (mkF m 8 #[.val (.int d), .val (.int w), .val (.int (own_min d w))] [(.int (2 : Int32)), (.int (1 : Int32))]))
  refine own_go (fun _ kS => XS.iloadN X1.here hx rfl (hb hby d2_8) rfl kS) ?_
  show own_Run p e below _ (T1.setTop (mkF m 9 #[.val (.int d), .val (.int w), .val (.int (own_min d w))] [(.int (own_min d w)), (.int (2 : Int32)), (.int (1 : Int32))]))
  refine own_go (fun _ kS => XS.imul X1.here hx rfl (hb hby d2_9) rfl kS) ?_
  show own_Run p e below _ (T1.setTop (mkF m 10 #[.val (.int d), .val (.int w), .val (.int (own_min d w))] [(.int ((2 : Int32) * (own_min d w))), (.int (1 : Int32))]))
  refine own_go (fun _ kS => XS.iadd X1.here hx rfl (hb hby d2_10) rfl kS) ?_
  show own_Run p e below _ (T1.setTop (mkF m 11 #[.val (.int d), .val (.int w), .val (.int (own_min d w))] [(.int ((1 : Int32) + ((2 : Int32) * (own_min d w))))]))
  refine own_go (fun _ kS => XS.iconst X1.here hx rfl (hb hby d2_11) kS) ?_
  show own_Run p e below _ (T1.setTop (mkF m 12 #[.val (.int d), .val (.int w), .val (.int (own_min d w))] [(.int (1 : Int32)), (.int ((1 : Int32) + ((2 : Int32) * (own_min d w))))]))
  refine own_go (fun _ kS => XS.iloadN X1.here hx rfl (hb hby d2_12) rfl kS) ?_
  show own_Run p e below _ (T1.setTop (mkF m 13 #[.val (.int d), .val (.int w), .val (.int (own_min d w))] [(.int w), (.int (1 : Int32)), (.int ((1 : Int32) + ((2 : Int32) * (own_min d w))))]))
  refine own_go (fun _ kS => XS.iadd X1.here hx rfl (hb hby d2_13) rfl kS) ?_
  show own_Run p e below _ (T1.setTop (mkF m 14 #[.val (.int d), .val (.int w), .val (.int (own_min d w))] [(.int ((1 : Int32) + w)), (.int ((1 : Int32) + ((2 : Int32) * (own_min d w))))]))
  refine own_callS X1 hx hZ e1 hown (⟨"java/lang/Math", "min", "(II)I"⟩ : MethodName) (hw _ (List.mem_of_getElem? (i := 50) rfl)) (hw _ (List.mem_of_getElem? (i := 51) rfl)) (hw _ (List.mem_of_getElem? (i := 15) rfl)) (hw _ (List.mem_of_getElem? (i := 52) rfl)) (by decide) [(.int ((1 : Int32) + ((2 : Int32) * (own_min d w)))), (.int ((1 : Int32) + w))] [] (rm_min l Z a0 hw ((1 : Int32) + ((2 : Int32) * (own_min d w))) ((1 : Int32) + w) h0) (by decide) 0 (by decide) (by decide) (by decide) rfl (by rw [hml]; rfl) (lenOf own_pd0 rfl) rfl (by show 2 * 0 + _ ≤ _; exact Nat.le_of_eq rfl) (hb hby d2_14) (fun v2 h2 L2 T2 Q2 X2 e2 => ?_)
  obtain ⟨rfl, rfl, rfl⟩ := Q2
  show own_Run p e below _ (T2.setTop (mkF m 17 #[.val (.int d), .val (.int w), .val (.int (own_min d w))] [(.int (own_min ((1 : Int32) + ((2 : Int32) * (own_min d w))) ((1 : Int32) + w)))]))
  refine own_retI X2 hx hret hlk (hb hby d2_17) (by decide) (by decide) ?_
  exact ⟨by rw [(by unfold own_cost; rfl : own_cost d w = (own_min ((1 : Int32) + ((2 : Int32) * (own_min d w))) ((1 : Int32) + w)))], e2.symm, rfl⟩
theorem d3_0 : decode prog_24_method_1_code 0 = .ok (.aload_n 0, 1) := by decide +kernel
theorem d3_1 : decode prog_24_method_1_code 1 = .ok (.invokespecial 1, 3) := by decide +kernel
theorem d3_4 : decode prog_24_method_1_code 4 = .ok (.aload_n 0, 1) := by decide +kernel
theorem d3_5 : decode prog_24_method_1_code 5 = .ok (.iload_n 1, 1) := by decide +kernel
theorem d3_6 : decode prog_24_method_1_code 6 = .ok (.putfield 7, 3) := by decide +kernel
theorem d3_9 : decode prog_24_method_1_code 9 = .ok (.aload_n 0, 1) := by decide +kernel
theorem d3_10 : decode prog_24_method_1_code 10 = .ok (.sipush 16384, 3) := by decide +kernel
theorem d3_13 : decode prog_24_method_1_code 13 = .ok (.iconst 1, 1) := by decide +kernel
theorem d3_14 : decode prog_24_method_1_code 14 = .ok (.iload_n 1, 1) := by decide +kernel
theorem d3_15 : decode prog_24_method_1_code 15 = .ok (.iadd, 1) := by decide +kernel
theorem d3_16 : decode prog_24_method_1_code 16 = .ok (.invokestatic 13, 3) := by decide +kernel
theorem d3_19 : decode prog_24_method_1_code 19 = .ok (.newarray .int, 2) := by decide +kernel
theorem d3_21 : decode prog_24_method_1_code 21 = .ok (.putfield 19, 3) := by decide +kernel
theorem d3_24 : decode prog_24_method_1_code 24 = .ok (.return_, 1) := by decide +kernel
abbrev Q_init (Z : State) (a : Addr) (w : Int32) (nc : Nat) (n0 : Nat) (h0 : Heap) : Option Value → Heap → List Loc → Prop := fun v h L => v = none ∧ Fr n0 L ∧ Keep h0 h [a] ∧ Exa Z h a "com/example/smallscope/smallscope/Chunk" ∧ Fld Z h a "com/example/smallscope/smallscope/Chunk" "width" "I" (.int w) ∧ ∃ ib : Addr, n0 ≤ ib ∧ h0.size ≤ ib ∧ Fld Z h a "com/example/smallscope/smallscope/Chunk" "ints" "[I" (.ref ib) ∧ own_Arr Z h ib .int nc (fun _ => .int (0 : Int32)) ∧ Fld Z h a "com/example/smallscope/smallscope/Chunk" "used" "I" (.int (0 : Int32)) ∧ Fld Z h a "com/example/smallscope/smallscope/Chunk" "count" "I" (.int (0 : Int32))
set_option maxRecDepth 65536 in
set_option maxHeartbeats 40000000 in
theorem rm_init (l : Launch) (Z : State) (a0 : Array Value) (hw : ∀ d ∈ tables_1, d.before a0 Z = true) (a : Addr) (w : Int32) (nc : Nat) (n0 : Nat) (h0 : Heap) (Z0 : n0 ≤ h0.size) (E_a : Exa Z h0 a "com/example/smallscope/smallscope/Chunk") (g_a : n0 ≤ a) (F_width : Fld Z h0 a "com/example/smallscope/smallscope/Chunk" "width" "I" (.int (0 : Int32))) (F_ints : Fld Z h0 a "com/example/smallscope/smallscope/Chunk" "ints" "[I" .null) (F_used : Fld Z h0 a "com/example/smallscope/smallscope/Chunk" "used" "I" (.int (0 : Int32))) (F_count : Fld Z h0 a "com/example/smallscope/smallscope/Chunk" "count" "I" (.int (0 : Int32))) (hcz : (own_max (16384 : Int32) ((1 : Int32) + w)).toInt = nc) (hnc : nc ≤ 16385) :
    own_Met l Z (⟨"com/example/smallscope/smallscope/Chunk", "<init>", "(I)V"⟩ : MethodName) prog_24_method_1_code 2 none ({ frames := 1, cells := 1, slots := 16385, locals := 14 } : Room) #[(.ref a), (.int w)] h0 (Q_init Z a w nc n0 h0) := by
  refine own_enter (g0 := fun m => (mkF m 0 #[.val (.ref a), .val (.int w)] [])) (plainFor_of_name (by first | (simp [plainName, overriddenIn]; done) | decide +kernel)) (fun m => by first | (simp [entryFrame, mkF, argsToLocals, Value.category]; done) | rfl) ?_
  intro p e s m below meth c T hx hby hml hown hnm hZ hret hlk X e0
  replace hown : s.vm.findClass "com/example/smallscope/smallscope/Chunk" = some m.cls := hown
  have N := Fr.nil n0
  have hz := Z0
  have K := Keep.refl h0 [a]
  show own_Run p e below _ (T.setTop (mkF m 0 #[.val (.ref a), .val (.int w)] []))
  refine own_go (fun _ kS => XS.aloadN X.here hx rfl (hb hby d3_0) rfl rfl kS) ?_
  show own_Run p e below _ (T.setTop (mkF m 1 #[.val (.ref a), .val (.int w)] [(.ref a)]))
  refine own_initO X hx hZ e0 hown (hw _ (List.mem_of_getElem? (i := 8) rfl)) (hw _ (List.mem_of_getElem? (i := 9) rfl)) (hw _ (List.mem_of_getElem? (i := 10) rfl)) rfl (by rw [hml]; rfl) rfl (hb hby d3_1) (by decide) 0 (by show 2 * 0 + _ ≤ _; exact Nat.le_of_eq rfl) (by decide) (fun T1 X1 e1 => ?_)
  show own_Run p e below _ (T1.setTop (mkF m 4 #[.val (.ref a), .val (.int w)] []))
  refine own_go (fun _ kS => XS.aloadN X1.here hx rfl (hb hby d3_4) rfl rfl kS) ?_
  show own_Run p e below _ (T1.setTop (mkF m 5 #[.val (.ref a), .val (.int w)] [(.ref a)]))
  refine own_go (fun _ kS => XS.iloadN X1.here hx rfl (hb hby d3_5) rfl kS) ?_
  show own_Run p e below _ (T1.setTop (mkF m 6 #[.val (.ref a), .val (.int w)] [(.int w), (.ref a)]))
  refine own_putF X1 hx hZ e1 hown .int (hw _ (List.mem_of_getElem? (i := 11) rfl)) F_width E_a (Or.inr ⟨(hw _ (List.mem_of_getElem? (i := 12) rfl)), rfl, hnm⟩) (hw _ (List.mem_of_getElem? (i := 3) rfl)) (v' := (.int w)) (by decide) rfl rfl rfl rfl (hb hby d3_6) (fun T2 h2 X2 e2 W2 => ?_)
  replace E_a := E_a.wr W2
  replace F_width := F_width.same W2
  replace F_ints := F_ints.other W2 (Or.inr (slot_ne (Or.inr (hw _ (List.mem_of_getElem? (i := 18) rfl))) (Or.inr (hw _ (List.mem_of_getElem? (i := 12) rfl))) (by decide) (t := (.array .int)) (t' := .int) (by decide) (by decide)))
  replace F_used := F_used.other W2 (Or.inr (slot_ne (Or.inl (hw _ (List.mem_of_getElem? (i := 26) rfl))) (Or.inr (hw _ (List.mem_of_getElem? (i := 12) rfl))) (by decide) (t := .int) (t' := .int) (by decide) (by decide)))
  replace F_count := F_count.other W2 (Or.inr (slot_ne (Or.inl (hw _ (List.mem_of_getElem? (i := 33) rfl))) (Or.inr (hw _ (List.mem_of_getElem? (i := 12) rfl))) (by decide) (t := .int) (t' := .int) (by decide) (by decide)))
  replace hz := Nat.le_trans hz (Nat.le_of_eq W2.size.symm)
  replace N := Fr.snoc X2 N g_a
  replace K := K.wr W2 (Or.inl (List.mem_of_getElem? (i := 0) rfl))
  show own_Run p e below _ (T2.setTop (mkF m 9 #[.val (.ref a), .val (.int w)] []))
  refine own_go (fun _ kS => XS.aloadN X2.here hx rfl (hb hby d3_9) rfl rfl kS) ?_
  show own_Run p e below _ (T2.setTop (mkF m 10 #[.val (.ref a), .val (.int w)] [(.ref a)]))
  refine own_go (fun _ kS => XS.sipush X2.here hx rfl (hb hby d3_10) kS) ?_
  show own_Run p e below _ (T2.setTop (mkF m 13 #[.val (.ref a), .val (.int w)] [(.int (16384 : Int32)), (.ref a)]))
  refine own_go (fun _ kS => XS.iconst X2.here hx rfl (hb hby d3_13) kS) ?_
  show own_Run p e below _ (T2.setTop (mkF m 14 #[.val (.ref a), .val (.int w)] [(.int (1 : Int32)), (.int (16384 : Int32)), (.ref a)]))
  refine own_go (fun _ kS => XS.iloadN X2.here hx rfl (hb hby d3_14) rfl kS) ?_
  show own_Run p e below _ (T2.setTop (mkF m 15 #[.val (.ref a), .val (.int w)] [(.int w), (.int (1 : Int32)), (.int (16384 : Int32)), (.ref a)]))
  refine own_go (fun _ kS => XS.iadd X2.here hx rfl (hb hby d3_15) rfl kS) ?_
  show own_Run p e below _ (T2.setTop (mkF m 16 #[.val (.ref a), .val (.int w)] [(.int ((1 : Int32) + w)), (.int (16384 : Int32)), (.ref a)]))
  refine own_callS X2 hx hZ e2 hown (⟨"java/lang/Math", "max", "(II)I"⟩ : MethodName) (hw _ (List.mem_of_getElem? (i := 13) rfl)) (hw _ (List.mem_of_getElem? (i := 14) rfl)) (hw _ (List.mem_of_getElem? (i := 15) rfl)) (hw _ (List.mem_of_getElem? (i := 16) rfl)) (by decide) [(.int (16384 : Int32)), (.int ((1 : Int32) + w))] [(.ref a)] (rm_max l Z a0 hw (16384 : Int32) ((1 : Int32) + w) h2) (by decide) 1 (by decide) (by decide) (by decide) rfl (by rw [hml]; rfl) (lenOf own_pd0 rfl) rfl (by show 2 * 0 + _ ≤ _; exact Nat.le_of_eq rfl) (hb hby d3_16) (fun v3 h3 L3 T3 Q3 X3 e3 => ?_)
  obtain ⟨rfl, rfl, rfl⟩ := Q3
  replace N := N.app (Fr.nil n0)
  show own_Run p e below _ (T3.setTop (mkF m 19 #[.val (.ref a), .val (.int w)] [(.int (own_max (16384 : Int32) ((1 : Int32) + w))), (.ref a)]))
  refine own_newP X3 hx hZ e3 (hw _ (List.mem_of_getElem? (i := 1) rfl)) rfl (hb hby d3_19) rfl nc 16385 hcz (by omega) (by decide) (by decide) (by decide) "[I" rfl (fun b4 T4 h4 gb4 X4 e4 E4 A4 G4 => ?_)
  have ne_a_b4 : a ≠ b4 := Nat.ne_of_lt (Nat.lt_of_lt_of_le E_a.lt (Nat.le_of_eq gb4.symm))
  have g_b4 : n0 ≤ b4 := Nat.le_trans hz (Nat.le_of_eq gb4.symm)
  have z_b4 : h0.size ≤ b4 := Nat.le_trans K.1 (Nat.le_of_eq gb4.symm)
  replace E_a := E_a.ext E4
  replace F_width := F_width.ext E4
  replace F_ints := F_ints.ext E4
  replace F_used := F_used.ext E4
  replace F_count := F_count.ext E4
  replace hz := Nat.le_trans hz E4.1
  replace K := K.ext E4
  replace A4 : own_Arr Z h4 b4 .int nc (fun _ => (.int (0 : Int32))) := A4
  show own_Run p e below _ (T4.setTop (mkF m 21 #[.val (.ref a), .val (.int w)] [(.ref b4), (.ref a)]))
  refine own_putF X4 hx hZ e4 hown (.array .int) (hw _ (List.mem_of_getElem? (i := 17) rfl)) F_ints E_a (Or.inr ⟨(hw _ (List.mem_of_getElem? (i := 18) rfl)), rfl, hnm⟩) (hw _ (List.mem_of_getElem? (i := 3) rfl)) (v' := (.ref b4)) (by decide) rfl rfl rfl rfl (hb hby d3_21) (fun T5 h5 X5 e5 W5 => ?_)
  replace E_a := E_a.wr W5
  replace F_width := F_width.other W5 (Or.inr (slot_ne (Or.inr (hw _ (List.mem_of_getElem? (i := 12) rfl))) (Or.inr (hw _ (List.mem_of_getElem? (i := 18) rfl))) (by decide) (t := .int) (t' := (.array .int)) (by decide) (by decide)))
  replace F_ints := F_ints.same W5
  replace F_used := F_used.other W5 (Or.inr (slot_ne (Or.inl (hw _ (List.mem_of_getElem? (i := 26) rfl))) (Or.inr (hw _ (List.mem_of_getElem? (i := 18) rfl))) (by decide) (t := .int) (t' := (.array .int)) (by decide) (by decide)))
  replace F_count := F_count.other W5 (Or.inr (slot_ne (Or.inl (hw _ (List.mem_of_getElem? (i := 33) rfl))) (Or.inr (hw _ (List.mem_of_getElem? (i := 18) rfl))) (by decide) (t := .int) (t' := (.array .int)) (by decide) (by decide)))
  replace A4 := A4.other W5 (Ne.symm ne_a_b4)
  replace hz := Nat.le_trans hz (Nat.le_of_eq W5.size.symm)
  replace N := Fr.snoc X5 N g_a
  replace K := K.wr W5 (Or.inl (List.mem_of_getElem? (i := 0) rfl))
  show own_Run p e below _ (T5.setTop (mkF m 24 #[.val (.ref a), .val (.int w)] []))
  refine own_retV X5 hx hret hlk (hb hby d3_24) (by decide) (by decide) ?_
  rw [e5]
  exact ⟨rfl, N, K, E_a, F_width, b4, g_b4, z_b4, F_ints, A4, F_used, F_count⟩
theorem d4_0 : decode prog_24_method_4_code 0 = .ok (.aload_n 0, 1) := by decide +kernel
theorem d4_1 : decode prog_24_method_4_code 1 = .ok (.getfield 26, 3) := by decide +kernel
theorem d4_4 : decode prog_24_method_4_code 4 = .ok (.iconst 1, 1) := by decide +kernel
theorem d4_5 : decode prog_24_method_4_code 5 = .ok (.iadd, 1) := by decide +kernel
theorem d4_6 : decode prog_24_method_4_code 6 = .ok (.aload_n 0, 1) := by decide +kernel
theorem d4_7 : decode prog_24_method_4_code 7 = .ok (.getfield 7, 3) := by decide +kernel
theorem d4_10 : decode prog_24_method_4_code 10 = .ok (.iadd, 1) := by decide +kernel
theorem d4_11 : decode prog_24_method_4_code 11 = .ok (.aload_n 0, 1) := by decide +kernel
theorem d4_12 : decode prog_24_method_4_code 12 = .ok (.getfield 19, 3) := by decide +kernel
theorem d4_15 : decode prog_24_method_4_code 15 = .ok (.arraylength, 1) := by decide +kernel
theorem d4_16 : decode prog_24_method_4_code 16 = .ok (.if_icmp .gt 7, 3) := by decide +kernel
theorem d4_19 : decode prog_24_method_4_code 19 = .ok (.iconst 1, 1) := by decide +kernel
theorem d4_20 : decode prog_24_method_4_code 20 = .ok (.goto 4, 3) := by decide +kernel
theorem d4_23 : decode prog_24_method_4_code 23 = .ok (.iconst 0, 1) := by decide +kernel
theorem d4_24 : decode prog_24_method_4_code 24 = .ok (.ireturn, 1) := by decide +kernel
abbrev Q_hr (Z : State) (a : Addr) (u w cz : Int32) (ib : Addr) (nc : Nat) (fi : Nat → Value) (h0 : Heap) : Option Value → Heap → List Loc → Prop := fun v h L => v = some (.int (own_hr u w cz)) ∧ h0 = h ∧ L = []
set_option maxRecDepth 65536 in
set_option maxHeartbeats 40000000 in
theorem rm_hr (l : Launch) (Z : State) (a0 : Array Value) (hw : ∀ d ∈ tables_1, d.before a0 Z = true) (a : Addr) (u w cz : Int32) (ib : Addr) (nc : Nat) (fi : Nat → Value) (h0 : Heap) (F_used : Fld Z h0 a "com/example/smallscope/smallscope/Chunk" "used" "I" (.int u)) (F_width : Fld Z h0 a "com/example/smallscope/smallscope/Chunk" "width" "I" (.int w)) (F_ints : Fld Z h0 a "com/example/smallscope/smallscope/Chunk" "ints" "[I" (.ref ib)) (A_i : own_Arr Z h0 ib .int nc fi) (hcz : cz.toInt = nc) :
    own_Met l Z (⟨"com/example/smallscope/smallscope/Chunk", "hasRoom", "()Z"⟩ : MethodName) prog_24_method_4_code 1 (some .boolean) ({ frames := 0, cells := 0, slots := 0, locals := 0 } : Room) #[(.ref a)] h0 (Q_hr Z a u w cz ib nc fi h0) := by
  refine own_enter (g0 := fun m => (mkF m 0 #[.val (.ref a)] [])) (plainFor_of_name (by first | (simp [plainName, overriddenIn]; done) | decide +kernel)) (fun m => by first | (simp [entryFrame, mkF, argsToLocals, Value.category]; done) | rfl) ?_
  intro p e s m below meth c T hx hby hml hown hnm hZ hret hlk X e0
  replace hown : s.vm.findClass "com/example/smallscope/smallscope/Chunk" = some m.cls := hown
  show own_Run p e below _ (T.setTop (mkF m 0 #[.val (.ref a)] []))
  refine own_go (fun _ kS => XS.aloadN X.here hx rfl (hb hby d4_0) rfl rfl kS) ?_
  show own_Run p e below _ (T.setTop (mkF m 1 #[.val (.ref a)] [(.ref a)]))
  refine own_getF X hx hZ e0 hown (hw _ (List.mem_of_getElem? (i := 25) rfl)) F_used rfl rfl (hb hby d4_1) (fun T1 X1 e1 => ?_)
  show own_Run p e below _ (T1.setTop (mkF m 4 #[.val (.ref a)] [(.int u)]))
  refine own_go (fun _ kS => XS.iconst X1.here hx rfl (hb hby d4_4) kS) ?_
  show own_Run p e below _ (T1.setTop (mkF m 5 #[.val (.ref a)] [(.int (1 : Int32)), (.int u)]))
  refine own_go (fun _ kS => XS.iadd X1.here hx rfl (hb hby d4_5) rfl kS) ?_
  show own_Run p e below _ (T1.setTop (mkF m 6 #[.val (.ref a)] [(.int (u + (1 : Int32)))]))
  refine own_go (fun _ kS => XS.aloadN X1.here hx rfl (hb hby d4_6) rfl rfl kS) ?_
  show own_Run p e below _ (T1.setTop (mkF m 7 #[.val (.ref a)] [(.ref a), (.int (u + (1 : Int32)))]))
  refine own_getF X1 hx hZ e1 hown (hw _ (List.mem_of_getElem? (i := 11) rfl)) F_width rfl rfl (hb hby d4_7) (fun T2 X2 e2 => ?_)
  show own_Run p e below _ (T2.setTop (mkF m 10 #[.val (.ref a)] [(.int w), (.int (u + (1 : Int32)))]))
  refine own_go (fun _ kS => XS.iadd X2.here hx rfl (hb hby d4_10) rfl kS) ?_
  show own_Run p e below _ (T2.setTop (mkF m 11 #[.val (.ref a)] [(.int ((u + (1 : Int32)) + w))]))
  refine own_go (fun _ kS => XS.aloadN X2.here hx rfl (hb hby d4_11) rfl rfl kS) ?_
  show own_Run p e below _ (T2.setTop (mkF m 12 #[.val (.ref a)] [(.ref a), (.int ((u + (1 : Int32)) + w))]))
  refine own_getF X2 hx hZ e2 hown (hw _ (List.mem_of_getElem? (i := 17) rfl)) F_ints rfl rfl (hb hby d4_12) (fun T3 X3 e3 => ?_)
  show own_Run p e below _ (T3.setTop (mkF m 15 #[.val (.ref a)] [(.ref ib), (.int ((u + (1 : Int32)) + w))]))
  refine own_alen X3 hx hZ e3 A_i cz hcz rfl rfl (hb hby d4_15) ?_
  show own_Run p e below _ (T3.setTop (mkF m 16 #[.val (.ref a)] [(.int cz), (.int ((u + (1 : Int32)) + w))]))
  by_cases hc16 : cz < ((u + (1 : Int32)) + w)
  · refine own_go (fun _ kS => XS.icmpYes X3.here hx rfl (pc0 := 16) (pc' := 23) rfl (hb hby d4_16) rfl (tlt hc16).2.2.1 (by decide) (by decide) kS) ?_
    show own_Run p e below _ (T3.setTop (mkF m 23 #[.val (.ref a)] []))
    refine own_go (fun _ kS => XS.iconst X3.here hx rfl (hb hby d4_23) kS) ?_
    show own_Run p e below _ (T3.setTop (mkF m 24 #[.val (.ref a)] [(.int (0 : Int32))]))
    refine own_retN X3 hx (t := .boolean) hret hlk (by simp) (hb hby d4_24) (by decide) (by decide) ?_
    exact ⟨by rw [(by unfold own_hr; rw [if_pos hc16] : own_hr u w cz = (0 : Int32))]; rfl, e3.symm, rfl⟩
  · refine own_go (fun _ kS => XS.icmpNo X3.here hx rfl (hb hby d4_16) rfl (flt hc16).2.2.1 kS) ?_
    show own_Run p e below _ (T3.setTop (mkF m 19 #[.val (.ref a)] []))
    refine own_go (fun _ kS => XS.iconst X3.here hx rfl (hb hby d4_19) kS) ?_
    show own_Run p e below _ (T3.setTop (mkF m 20 #[.val (.ref a)] [(.int (1 : Int32))]))
    refine own_go (fun _ kS => XS.goto X3.here hx rfl (pc0 := 20) (pc' := 24) rfl (hb hby d4_20) (by decide) (by decide) kS) ?_
    show own_Run p e below _ (T3.setTop (mkF m 24 #[.val (.ref a)] [(.int (1 : Int32))]))
    refine own_retN X3 hx (t := .boolean) hret hlk (by simp) (hb hby d4_24) (by decide) (by decide) ?_
    exact ⟨by rw [(by unfold own_hr; rw [if_neg hc16] : own_hr u w cz = (1 : Int32))]; rfl, e3.symm, rfl⟩
theorem d5_0 : decode prog_24_method_8_code 0 = .ok (.aload_n 0, 1) := by decide +kernel
theorem d5_1 : decode prog_24_method_8_code 1 = .ok (.getfield 19, 3) := by decide +kernel
theorem d5_4 : decode prog_24_method_8_code 4 = .ok (.aload_n 0, 1) := by decide +kernel
theorem d5_5 : decode prog_24_method_8_code 5 = .ok (.getfield 26, 3) := by decide +kernel
theorem d5_8 : decode prog_24_method_8_code 8 = .ok (.iconst (-1), 1) := by decide +kernel
theorem d5_9 : decode prog_24_method_8_code 9 = .ok (.iastore, 1) := by decide +kernel
theorem d5_10 : decode prog_24_method_8_code 10 = .ok (.aload_n 1, 1) := by decide +kernel
theorem d5_11 : decode prog_24_method_8_code 11 = .ok (.iconst 0, 1) := by decide +kernel
theorem d5_12 : decode prog_24_method_8_code 12 = .ok (.aload_n 0, 1) := by decide +kernel
theorem d5_13 : decode prog_24_method_8_code 13 = .ok (.getfield 19, 3) := by decide +kernel
theorem d5_16 : decode prog_24_method_8_code 16 = .ok (.aload_n 0, 1) := by decide +kernel
theorem d5_17 : decode prog_24_method_8_code 17 = .ok (.getfield 26, 3) := by decide +kernel
theorem d5_20 : decode prog_24_method_8_code 20 = .ok (.iconst 1, 1) := by decide +kernel
theorem d5_21 : decode prog_24_method_8_code 21 = .ok (.iadd, 1) := by decide +kernel
theorem d5_22 : decode prog_24_method_8_code 22 = .ok (.aload_n 0, 1) := by decide +kernel
theorem d5_23 : decode prog_24_method_8_code 23 = .ok (.getfield 7, 3) := by decide +kernel
theorem d5_26 : decode prog_24_method_8_code 26 = .ok (.invokestatic 37, 3) := by decide +kernel
theorem d5_29 : decode prog_24_method_8_code 29 = .ok (.aload_n 1, 1) := by decide +kernel
theorem d5_30 : decode prog_24_method_8_code 30 = .ok (.iconst 0, 1) := by decide +kernel
theorem d5_31 : decode prog_24_method_8_code 31 = .ok (.aload_n 2, 1) := by decide +kernel
theorem d5_32 : decode prog_24_method_8_code 32 = .ok (.iconst 0, 1) := by decide +kernel
theorem d5_33 : decode prog_24_method_8_code 33 = .ok (.aload_n 0, 1) := by decide +kernel
theorem d5_34 : decode prog_24_method_8_code 34 = .ok (.getfield 7, 3) := by decide +kernel
theorem d5_37 : decode prog_24_method_8_code 37 = .ok (.invokestatic 37, 3) := by decide +kernel
theorem d5_40 : decode prog_24_method_8_code 40 = .ok (.aload_n 0, 1) := by decide +kernel
theorem d5_41 : decode prog_24_method_8_code 41 = .ok (.dup, 1) := by decide +kernel
theorem d5_42 : decode prog_24_method_8_code 42 = .ok (.getfield 26, 3) := by decide +kernel
theorem d5_45 : decode prog_24_method_8_code 45 = .ok (.iconst 1, 1) := by decide +kernel
theorem d5_46 : decode prog_24_method_8_code 46 = .ok (.aload_n 0, 1) := by decide +kernel
theorem d5_47 : decode prog_24_method_8_code 47 = .ok (.getfield 7, 3) := by decide +kernel
theorem d5_50 : decode prog_24_method_8_code 50 = .ok (.iadd, 1) := by decide +kernel
theorem d5_51 : decode prog_24_method_8_code 51 = .ok (.iadd, 1) := by decide +kernel
theorem d5_52 : decode prog_24_method_8_code 52 = .ok (.putfield 26, 3) := by decide +kernel
theorem d5_55 : decode prog_24_method_8_code 55 = .ok (.return_, 1) := by decide +kernel
abbrev Q_whole (Z : State) (a : Addr) (gb : Addr) (lb : Addr) (w ct : Int32) (ib : Addr) (nu nw nc dd : Nat) (fi : Nat → Value) (G Lf : Nat → Int32) (n0 : Nat) (h0 : Heap) : Option Value → Heap → List Loc → Prop := fun v h L => v = none ∧ Fr n0 L ∧ Keep h0 h [a, ib, lb] ∧ Exa Z h a "com/example/smallscope/smallscope/Chunk" ∧ Fld Z h a "com/example/smallscope/smallscope/Chunk" "width" "I" (.int w) ∧ Fld Z h a "com/example/smallscope/smallscope/Chunk" "ints" "[I" (.ref ib) ∧ Fld Z h a "com/example/smallscope/smallscope/Chunk" "used" "I" (.int (Int32.ofInt ((nu + 1 + nw : Nat) : Int))) ∧ Fld Z h a "com/example/smallscope/smallscope/Chunk" "count" "I" (.int ct) ∧ (∃ fi2 : Nat → Value, own_Arr Z h ib .int nc fi2) ∧ ∃ L2 : Nat → Int32, own_Arr Z h lb .int 16384 (fun k => .int (L2 k)) ∧ ∀ j, j < nw → L2 j = G j
set_option maxRecDepth 65536 in
set_option maxHeartbeats 40000000 in
theorem rm_whole (l : Launch) (Z : State) (a0 : Array Value) (hw : ∀ d ∈ tables_1, d.before a0 Z = true) (a : Addr) (gb : Addr) (lb : Addr) (w ct : Int32) (ib : Addr) (nu nw nc dd : Nat) (fi : Nat → Value) (G Lf : Nat → Int32) (n0 : Nat) (h0 : Heap) (Z0 : n0 ≤ h0.size) (E_a : Exa Z h0 a "com/example/smallscope/smallscope/Chunk") (F_width : Fld Z h0 a "com/example/smallscope/smallscope/Chunk" "width" "I" (.int w)) (F_ints : Fld Z h0 a "com/example/smallscope/smallscope/Chunk" "ints" "[I" (.ref ib)) (F_used : Fld Z h0 a "com/example/smallscope/smallscope/Chunk" "used" "I" (.int (Int32.ofInt ((nu : Nat) : Int)))) (F_count : Fld Z h0 a "com/example/smallscope/smallscope/Chunk" "count" "I" (.int ct)) (A_i : own_Arr Z h0 ib .int nc fi) (A_g : own_Arr Z h0 gb .int 16384 (fun k => .int (G k))) (A_l : own_Arr Z h0 lb .int 16384 (fun k => .int (Lf k))) (g_a : n0 ≤ a) (g_ib : n0 ≤ ib) (g_lb : n0 ≤ lb) (ne_ib_a : ib ≠ a) (ne_gb_a : gb ≠ a) (ne_lb_a : lb ≠ a) (ne_gb_ib : gb ≠ ib) (ne_gb_lb : gb ≠ lb) (ne_lb_ib : lb ≠ ib) (hwn : w.toInt = nw) (hnw : nw ≤ 16384) (hrm : nu + 1 + nw ≤ nc) (hnc : nc ≤ 16385) :
    own_Met l Z (⟨"com/example/smallscope/smallscope/Chunk", "whole", "([I[I)V"⟩ : MethodName) prog_24_method_8_code 3 none ({ frames := 1, cells := 0, slots := 0, locals := 18 } : Room) #[(.ref a), (.ref gb), (.ref lb)] h0 (Q_whole Z a gb lb w ct ib nu nw nc dd fi G Lf n0 h0) := by
  refine own_enter (g0 := fun m => (mkF m 0 #[.val (.ref a), .val (.ref gb), .val (.ref lb)] [])) (plainFor_of_name (by first | (simp [plainName, overriddenIn]; done) | decide +kernel)) (fun m => by first | (simp [entryFrame, mkF, argsToLocals, Value.category]; done) | rfl) ?_
  intro p e s m below meth c T hx hby hml hown hnm hZ hret hlk X e0
  replace hown : s.vm.findClass "com/example/smallscope/smallscope/Chunk" = some m.cls := hown
  have N := Fr.nil n0
  have hz := Z0
  have K := Keep.refl h0 [a, ib, lb]
  have z1 : (1 : Int32).toInt = 1 := rfl
  have z2 : (2 : Int32).toInt = 2 := rfl
  have hnu := own_oi nu (by omega)
  have hnu1 : ((Int32.ofInt ((nu : Nat) : Int)) + (1 : Int32)).toInt = ((nu + 1 : Nat) : Int) := by have q1 := c_iadd (Int32.ofInt ((nu : Nat) : Int)) (1 : Int32); have q2 := rng32 ((Int32.ofInt ((nu : Nat) : Int)) + (1 : Int32)); omega
  show own_Run p e below _ (T.setTop (mkF m 0 #[.val (.ref a), .val (.ref gb), .val (.ref lb)] []))
  refine own_go (fun _ kS => XS.aloadN X.here hx rfl (hb hby d5_0) rfl rfl kS) ?_
  show own_Run p e below _ (T.setTop (mkF m 1 #[.val (.ref a), .val (.ref gb), .val (.ref lb)] [(.ref a)]))
  refine own_getF X hx hZ e0 hown (hw _ (List.mem_of_getElem? (i := 17) rfl)) F_ints rfl rfl (hb hby d5_1) (fun T1 X1 e1 => ?_)
  show own_Run p e below _ (T1.setTop (mkF m 4 #[.val (.ref a), .val (.ref gb), .val (.ref lb)] [(.ref ib)]))
  refine own_go (fun _ kS => XS.aloadN X1.here hx rfl (hb hby d5_4) rfl rfl kS) ?_
  show own_Run p e below _ (T1.setTop (mkF m 5 #[.val (.ref a), .val (.ref gb), .val (.ref lb)] [(.ref a), (.ref ib)]))
  refine own_getF X1 hx hZ e1 hown (hw _ (List.mem_of_getElem? (i := 25) rfl)) F_used rfl rfl (hb hby d5_5) (fun T2 X2 e2 => ?_)
  show own_Run p e below _ (T2.setTop (mkF m 8 #[.val (.ref a), .val (.ref gb), .val (.ref lb)] [(.int (Int32.ofInt ((nu : Nat) : Int))), (.ref ib)]))
  refine own_go (fun _ kS => XS.iconst X2.here hx rfl (hb hby d5_8) kS) ?_
  show own_Run p e below _ (T2.setTop (mkF m 9 #[.val (.ref a), .val (.ref gb), .val (.ref lb)] [(.int (-1 : Int32)), (.int (Int32.ofInt ((nu : Nat) : Int))), (.ref ib)]))
  refine own_iastore X2 hx hZ e2 A_i (j := (Int32.ofInt ((nu : Nat) : Int))) ⟨by omega, by omega⟩ rfl rfl (hb hby d5_9) (fun T3 h3 X3 e3 W3 A3 => ?_)
  replace E_a := E_a.wr W3
  replace F_width := F_width.other W3 (Or.inl (Ne.symm ne_ib_a))
  replace F_ints := F_ints.other W3 (Or.inl (Ne.symm ne_ib_a))
  replace F_used := F_used.other W3 (Or.inl (Ne.symm ne_ib_a))
  replace F_count := F_count.other W3 (Or.inl (Ne.symm ne_ib_a))
  replace A_g := A_g.other W3 ne_gb_ib
  replace A_l := A_l.other W3 ne_lb_ib
  replace hz := Nat.le_trans hz (Nat.le_of_eq W3.size.symm)
  replace N := Fr.snoc X3 N g_ib
  replace K := K.wr W3 (Or.inl (List.mem_of_getElem? (i := 1) rfl))
  replace A3 : own_Arr Z h3 ib .int nc (fun i => if i = (Int32.ofInt ((nu : Nat) : Int)).toNatClampNeg then (.int (-1 : Int32)) else fi i) := A3
  show own_Run p e below _ (T3.setTop (mkF m 10 #[.val (.ref a), .val (.ref gb), .val (.ref lb)] []))
  refine own_go (fun _ kS => XS.aloadN X3.here hx rfl (hb hby d5_10) rfl rfl kS) ?_
  show own_Run p e below _ (T3.setTop (mkF m 11 #[.val (.ref a), .val (.ref gb), .val (.ref lb)] [(.ref gb)]))
  refine own_go (fun _ kS => XS.iconst X3.here hx rfl (hb hby d5_11) kS) ?_
  show own_Run p e below _ (T3.setTop (mkF m 12 #[.val (.ref a), .val (.ref gb), .val (.ref lb)] [(.int (0 : Int32)), (.ref gb)]))
  refine own_go (fun _ kS => XS.aloadN X3.here hx rfl (hb hby d5_12) rfl rfl kS) ?_
  show own_Run p e below _ (T3.setTop (mkF m 13 #[.val (.ref a), .val (.ref gb), .val (.ref lb)] [(.ref a), (.int (0 : Int32)), (.ref gb)]))
  refine own_getF X3 hx hZ e3 hown (hw _ (List.mem_of_getElem? (i := 17) rfl)) F_ints rfl rfl (hb hby d5_13) (fun T4 X4 e4 => ?_)
  show own_Run p e below _ (T4.setTop (mkF m 16 #[.val (.ref a), .val (.ref gb), .val (.ref lb)] [(.ref ib), (.int (0 : Int32)), (.ref gb)]))
  refine own_go (fun _ kS => XS.aloadN X4.here hx rfl (hb hby d5_16) rfl rfl kS) ?_
  show own_Run p e below _ (T4.setTop (mkF m 17 #[.val (.ref a), .val (.ref gb), .val (.ref lb)] [(.ref a), (.ref ib), (.int (0 : Int32)), (.ref gb)]))
  refine own_getF X4 hx hZ e4 hown (hw _ (List.mem_of_getElem? (i := 25) rfl)) F_used rfl rfl (hb hby d5_17) (fun T5 X5 e5 => ?_)
  show own_Run p e below _ (T5.setTop (mkF m 20 #[.val (.ref a), .val (.ref gb), .val (.ref lb)] [(.int (Int32.ofInt ((nu : Nat) : Int))), (.ref ib), (.int (0 : Int32)), (.ref gb)]))
  refine own_go (fun _ kS => XS.iconst X5.here hx rfl (hb hby d5_20) kS) ?_
  show own_Run p e below _ (T5.setTop (mkF m 21 #[.val (.ref a), .val (.ref gb), .val (.ref lb)] [(.int (1 : Int32)), (.int (Int32.ofInt ((nu : Nat) : Int))), (.ref ib), (.int (0 : Int32)), (.ref gb)]))
  refine own_go (fun _ kS => XS.iadd X5.here hx rfl (hb hby d5_21) rfl kS) ?_
  show own_Run p e below _ (T5.setTop (mkF m 22 #[.val (.ref a), .val (.ref gb), .val (.ref lb)] [(.int ((Int32.ofInt ((nu : Nat) : Int)) + (1 : Int32))), (.ref ib), (.int (0 : Int32)), (.ref gb)]))
  refine own_go (fun _ kS => XS.aloadN X5.here hx rfl (hb hby d5_22) rfl rfl kS) ?_
  show own_Run p e below _ (T5.setTop (mkF m 23 #[.val (.ref a), .val (.ref gb), .val (.ref lb)] [(.ref a), (.int ((Int32.ofInt ((nu : Nat) : Int)) + (1 : Int32))), (.ref ib), (.int (0 : Int32)), (.ref gb)]))
  refine own_getF X5 hx hZ e5 hown (hw _ (List.mem_of_getElem? (i := 11) rfl)) F_width rfl rfl (hb hby d5_23) (fun T6 X6 e6 => ?_)
  show own_Run p e below _ (T6.setTop (mkF m 26 #[.val (.ref a), .val (.ref gb), .val (.ref lb)] [(.int w), (.int ((Int32.ofInt ((nu : Nat) : Int)) + (1 : Int32))), (.ref ib), (.int (0 : Int32)), (.ref gb)]))
  refine own_copy X6 hx hZ e6 hown (hw _ (List.mem_of_getElem? (i := 38) rfl)) (hw _ (List.mem_of_getElem? (i := 41) rfl)) (hw _ (List.mem_of_getElem? (i := 39) rfl)) (hw _ (List.mem_of_getElem? (i := 40) rfl)) (F := G) A_g A3 (zq := ((Int32.ofInt ((nu : Nat) : Int)) + (1 : Int32))) (zn := w) (nu + 1) nw hnu1 hwn (by omega) (by omega) (by omega) rfl (by rw [hml]; rfl) rfl (hb hby d5_26) (by decide) 0 (by show 2 * 0 + _ ≤ _; exact Nat.le_of_eq rfl) (by decide) (fun T7 h7 X7 e7 Kc7 A7 => ?_)
  replace E_a := E_a.keep Kc7
  replace F_width := F_width.keep Kc7 (ninS (Ne.symm ne_ib_a) nin0)
  replace F_ints := F_ints.keep Kc7 (ninS (Ne.symm ne_ib_a) nin0)
  replace F_used := F_used.keep Kc7 (ninS (Ne.symm ne_ib_a) nin0)
  replace F_count := F_count.keep Kc7 (ninS (Ne.symm ne_ib_a) nin0)
  replace A_g := A_g.keep Kc7 (ninS ne_gb_ib nin0)
  replace A_l := A_l.keep Kc7 (ninS ne_lb_ib nin0)
  replace hz := Nat.le_trans hz Kc7.1
  replace N := own_FrC X7 N g_ib
  replace K := K.trans Kc7 (allS (Or.inl (List.mem_of_getElem? (i := 1) rfl)) all0)
  show own_Run p e below _ (T7.setTop (mkF m 29 #[.val (.ref a), .val (.ref gb), .val (.ref lb)] []))
  refine own_go (fun _ kS => XS.aloadN X7.here hx rfl (hb hby d5_29) rfl rfl kS) ?_
  show own_Run p e below _ (T7.setTop (mkF m 30 #[.val (.ref a), .val (.ref gb), .val (.ref lb)] [(.ref gb)]))
  refine own_go (fun _ kS => XS.iconst X7.here hx rfl (hb hby d5_30) kS) ?_
  show own_Run p e below _ (T7.setTop (mkF m 31 #[.val (.ref a), .val (.ref gb), .val (.ref lb)] [(.int (0 : Int32)), (.ref gb)]))
  refine own_go (fun _ kS => XS.aloadN X7.here hx rfl (hb hby d5_31) rfl rfl kS) ?_
  show own_Run p e below _ (T7.setTop (mkF m 32 #[.val (.ref a), .val (.ref gb), .val (.ref lb)] [(.ref lb), (.int (0 : Int32)), (.ref gb)]))
  refine own_go (fun _ kS => XS.iconst X7.here hx rfl (hb hby d5_32) kS) ?_
  show own_Run p e below _ (T7.setTop (mkF m 33 #[.val (.ref a), .val (.ref gb), .val (.ref lb)] [(.int (0 : Int32)), (.ref lb), (.int (0 : Int32)), (.ref gb)]))
  refine own_go (fun _ kS => XS.aloadN X7.here hx rfl (hb hby d5_33) rfl rfl kS) ?_
  show own_Run p e below _ (T7.setTop (mkF m 34 #[.val (.ref a), .val (.ref gb), .val (.ref lb)] [(.ref a), (.int (0 : Int32)), (.ref lb), (.int (0 : Int32)), (.ref gb)]))
  refine own_getF X7 hx hZ e7 hown (hw _ (List.mem_of_getElem? (i := 11) rfl)) F_width rfl rfl (hb hby d5_34) (fun T8 X8 e8 => ?_)
  show own_Run p e below _ (T8.setTop (mkF m 37 #[.val (.ref a), .val (.ref gb), .val (.ref lb)] [(.int w), (.int (0 : Int32)), (.ref lb), (.int (0 : Int32)), (.ref gb)]))
  refine own_copy X8 hx hZ e8 hown (hw _ (List.mem_of_getElem? (i := 38) rfl)) (hw _ (List.mem_of_getElem? (i := 41) rfl)) (hw _ (List.mem_of_getElem? (i := 39) rfl)) (hw _ (List.mem_of_getElem? (i := 40) rfl)) (F := G) A_g A_l (zq := (0 : Int32)) (zn := w) 0 nw rfl hwn (by omega) (by omega) (by omega) rfl (by rw [hml]; rfl) rfl (hb hby d5_37) (by decide) 0 (by show 2 * 0 + _ ≤ _; exact Nat.le_of_eq rfl) (by decide) (fun T9 h9 X9 e9 Kc9 A9 => ?_)
  replace E_a := E_a.keep Kc9
  replace F_width := F_width.keep Kc9 (ninS (Ne.symm ne_lb_a) nin0)
  replace F_ints := F_ints.keep Kc9 (ninS (Ne.symm ne_lb_a) nin0)
  replace F_used := F_used.keep Kc9 (ninS (Ne.symm ne_lb_a) nin0)
  replace F_count := F_count.keep Kc9 (ninS (Ne.symm ne_lb_a) nin0)
  replace A_g := A_g.keep Kc9 (ninS ne_gb_lb nin0)
  replace A7 := A7.keep Kc9 (ninS (Ne.symm ne_lb_ib) nin0)
  replace hz := Nat.le_trans hz Kc9.1
  replace N := own_FrC X9 N g_lb
  replace K := K.trans Kc9 (allS (Or.inl (List.mem_of_getElem? (i := 2) rfl)) all0)
  show own_Run p e below _ (T9.setTop (mkF m 40 #[.val (.ref a), .val (.ref gb), .val (.ref lb)] []))
  refine own_go (fun _ kS => XS.aloadN X9.here hx rfl (hb hby d5_40) rfl rfl kS) ?_
  show own_Run p e below _ (T9.setTop (mkF m 41 #[.val (.ref a), .val (.ref gb), .val (.ref lb)] [(.ref a)]))
  refine own_go (fun _ kS => XS.dup X9.here hx rfl (hb hby d5_41) rfl rfl kS) ?_
  show own_Run p e below _ (T9.setTop (mkF m 42 #[.val (.ref a), .val (.ref gb), .val (.ref lb)] [(.ref a), (.ref a)]))
  refine own_getF X9 hx hZ e9 hown (hw _ (List.mem_of_getElem? (i := 25) rfl)) F_used rfl rfl (hb hby d5_42) (fun T10 X10 e10 => ?_)
  show own_Run p e below _ (T10.setTop (mkF m 45 #[.val (.ref a), .val (.ref gb), .val (.ref lb)] [(.int (Int32.ofInt ((nu : Nat) : Int))), (.ref a)]))
  refine own_go (fun _ kS => XS.iconst X10.here hx rfl (hb hby d5_45) kS) ?_
  show own_Run p e below _ (T10.setTop (mkF m 46 #[.val (.ref a), .val (.ref gb), .val (.ref lb)] [(.int (1 : Int32)), (.int (Int32.ofInt ((nu : Nat) : Int))), (.ref a)]))
  refine own_go (fun _ kS => XS.aloadN X10.here hx rfl (hb hby d5_46) rfl rfl kS) ?_
  show own_Run p e below _ (T10.setTop (mkF m 47 #[.val (.ref a), .val (.ref gb), .val (.ref lb)] [(.ref a), (.int (1 : Int32)), (.int (Int32.ofInt ((nu : Nat) : Int))), (.ref a)]))
  refine own_getF X10 hx hZ e10 hown (hw _ (List.mem_of_getElem? (i := 11) rfl)) F_width rfl rfl (hb hby d5_47) (fun T11 X11 e11 => ?_)
  show own_Run p e below _ (T11.setTop (mkF m 50 #[.val (.ref a), .val (.ref gb), .val (.ref lb)] [(.int w), (.int (1 : Int32)), (.int (Int32.ofInt ((nu : Nat) : Int))), (.ref a)]))
  refine own_go (fun _ kS => XS.iadd X11.here hx rfl (hb hby d5_50) rfl kS) ?_
  show own_Run p e below _ (T11.setTop (mkF m 51 #[.val (.ref a), .val (.ref gb), .val (.ref lb)] [(.int ((1 : Int32) + w)), (.int (Int32.ofInt ((nu : Nat) : Int))), (.ref a)]))
  refine own_go (fun _ kS => XS.iadd X11.here hx rfl (hb hby d5_51) rfl kS) ?_
  show own_Run p e below _ (T11.setTop (mkF m 52 #[.val (.ref a), .val (.ref gb), .val (.ref lb)] [(.int ((Int32.ofInt ((nu : Nat) : Int)) + ((1 : Int32) + w))), (.ref a)]))
  refine own_putF X11 hx hZ e11 hown .int (hw _ (List.mem_of_getElem? (i := 25) rfl)) F_used E_a (Or.inl (hw _ (List.mem_of_getElem? (i := 26) rfl))) (hw _ (List.mem_of_getElem? (i := 3) rfl)) (v' := (.int ((Int32.ofInt ((nu : Nat) : Int)) + ((1 : Int32) + w)))) (by decide) rfl rfl rfl rfl (hb hby d5_52) (fun T12 h12 X12 e12 W12 => ?_)
  replace E_a := E_a.wr W12
  replace F_width := F_width.other W12 (Or.inr (slot_ne (Or.inr (hw _ (List.mem_of_getElem? (i := 12) rfl))) (Or.inl (hw _ (List.mem_of_getElem? (i := 26) rfl))) (by decide) (t := .int) (t' := .int) (by decide) (by decide)))
  replace F_ints := F_ints.other W12 (Or.inr (slot_ne (Or.inr (hw _ (List.mem_of_getElem? (i := 18) rfl))) (Or.inl (hw _ (List.mem_of_getElem? (i := 26) rfl))) (by decide) (t := (.array .int)) (t' := .int) (by decide) (by decide)))
  replace F_used := F_used.same W12
  replace F_count := F_count.other W12 (Or.inr (slot_ne (Or.inl (hw _ (List.mem_of_getElem? (i := 33) rfl))) (Or.inl (hw _ (List.mem_of_getElem? (i := 26) rfl))) (by decide) (t := .int) (t' := .int) (by decide) (by decide)))
  replace A_g := A_g.other W12 ne_gb_a
  replace A7 := A7.other W12 ne_ib_a
  replace A9 := A9.other W12 ne_lb_a
  replace hz := Nat.le_trans hz (Nat.le_of_eq W12.size.symm)
  replace N := Fr.snoc X12 N g_a
  replace K := K.wr W12 (Or.inl (List.mem_of_getElem? (i := 0) rfl))
  show own_Run p e below _ (T12.setTop (mkF m 55 #[.val (.ref a), .val (.ref gb), .val (.ref lb)] []))
  refine own_retV X12 hx hret hlk (hb hby d5_55) (by decide) (by decide) ?_
  rw [e12]
  have hend : (Int32.ofInt ((nu : Nat) : Int)) + ((1 : Int32) + w) = Int32.ofInt ((nu + 1 + nw : Nat) : Int) := own_inj (by rw [own_oi _ (by omega)]; have q1 := c_iadd (1 : Int32) w; have q2 := rng32 ((1 : Int32) + w); have q3 := c_iadd (Int32.ofInt ((nu : Nat) : Int)) ((1 : Int32) + w); have q4 := rng32 ((Int32.ofInt ((nu : Nat) : Int)) + ((1 : Int32) + w)); omega)
  rw [hend] at F_used
  exact ⟨rfl, N, K, E_a, F_width, F_ints, F_used, F_count, ⟨_, A7⟩, fun j => if j < nw then G j else Lf j, A9.congr (fun j _ => own_cpy G Lf nw j), fun j hj => if_pos hj⟩
theorem d6_0 : decode prog_24_method_7_code 0 = .ok (.aload_n 0, 1) := by decide +kernel
theorem d6_1 : decode prog_24_method_7_code 1 = .ok (.getfield 26, 3) := by decide +kernel
theorem d6_4 : decode prog_24_method_7_code 4 = .ok (.aload_n 0, 1) := by decide +kernel
theorem d6_5 : decode prog_24_method_7_code 5 = .ok (.getfield 7, 3) := by decide +kernel
theorem d6_8 : decode prog_24_method_7_code 8 = .ok (.iadd, 1) := by decide +kernel
theorem d6_9 : decode prog_24_method_7_code 9 = .ok (.istore_n 3, 1) := by decide +kernel
theorem d6_10 : decode prog_24_method_7_code 10 = .ok (.aload_n 0, 1) := by decide +kernel
theorem d6_11 : decode prog_24_method_7_code 11 = .ok (.getfield 26, 3) := by decide +kernel
theorem d6_14 : decode prog_24_method_7_code 14 = .ok (.iconst 1, 1) := by decide +kernel
theorem d6_15 : decode prog_24_method_7_code 15 = .ok (.iadd, 1) := by decide +kernel
theorem d6_16 : decode prog_24_method_7_code 16 = .ok (.istore 4, 2) := by decide +kernel
theorem d6_18 : decode prog_24_method_7_code 18 = .ok (.iconst 0, 1) := by decide +kernel
theorem d6_19 : decode prog_24_method_7_code 19 = .ok (.istore 5, 2) := by decide +kernel
theorem d6_21 : decode prog_24_method_7_code 21 = .ok (.iload 5, 2) := by decide +kernel
theorem d6_23 : decode prog_24_method_7_code 23 = .ok (.aload_n 0, 1) := by decide +kernel
theorem d6_24 : decode prog_24_method_7_code 24 = .ok (.getfield 7, 3) := by decide +kernel
theorem d6_27 : decode prog_24_method_7_code 27 = .ok (.if_icmp .ge 63, 3) := by decide +kernel
theorem d6_30 : decode prog_24_method_7_code 30 = .ok (.aload_n 1, 1) := by decide +kernel
theorem d6_31 : decode prog_24_method_7_code 31 = .ok (.iload 5, 2) := by decide +kernel
theorem d6_33 : decode prog_24_method_7_code 33 = .ok (.iaload, 1) := by decide +kernel
theorem d6_34 : decode prog_24_method_7_code 34 = .ok (.istore 6, 2) := by decide +kernel
theorem d6_36 : decode prog_24_method_7_code 36 = .ok (.iload 6, 2) := by decide +kernel
theorem d6_38 : decode prog_24_method_7_code 38 = .ok (.aload_n 2, 1) := by decide +kernel
theorem d6_39 : decode prog_24_method_7_code 39 = .ok (.iload 5, 2) := by decide +kernel
theorem d6_41 : decode prog_24_method_7_code 41 = .ok (.iaload, 1) := by decide +kernel
theorem d6_42 : decode prog_24_method_7_code 42 = .ok (.if_icmp .eq 42, 3) := by decide +kernel
theorem d6_45 : decode prog_24_method_7_code 45 = .ok (.iload 4, 2) := by decide +kernel
theorem d6_47 : decode prog_24_method_7_code 47 = .ok (.iconst 2, 1) := by decide +kernel
theorem d6_48 : decode prog_24_method_7_code 48 = .ok (.iadd, 1) := by decide +kernel
theorem d6_49 : decode prog_24_method_7_code 49 = .ok (.iload_n 3, 1) := by decide +kernel
theorem d6_50 : decode prog_24_method_7_code 50 = .ok (.if_icmp .le 5, 3) := by decide +kernel
theorem d6_53 : decode prog_24_method_7_code 53 = .ok (.iconst 0, 1) := by decide +kernel
theorem d6_54 : decode prog_24_method_7_code 54 = .ok (.ireturn, 1) := by decide +kernel
theorem d6_55 : decode prog_24_method_7_code 55 = .ok (.aload_n 0, 1) := by decide +kernel
theorem d6_56 : decode prog_24_method_7_code 56 = .ok (.getfield 19, 3) := by decide +kernel
theorem d6_59 : decode prog_24_method_7_code 59 = .ok (.iload 4, 2) := by decide +kernel
theorem d6_61 : decode prog_24_method_7_code 61 = .ok (.iload 5, 2) := by decide +kernel
theorem d6_63 : decode prog_24_method_7_code 63 = .ok (.iastore, 1) := by decide +kernel
theorem d6_64 : decode prog_24_method_7_code 64 = .ok (.aload_n 0, 1) := by decide +kernel
theorem d6_65 : decode prog_24_method_7_code 65 = .ok (.getfield 19, 3) := by decide +kernel
theorem d6_68 : decode prog_24_method_7_code 68 = .ok (.iload 4, 2) := by decide +kernel
theorem d6_70 : decode prog_24_method_7_code 70 = .ok (.iconst 1, 1) := by decide +kernel
theorem d6_71 : decode prog_24_method_7_code 71 = .ok (.iadd, 1) := by decide +kernel
theorem d6_72 : decode prog_24_method_7_code 72 = .ok (.iload 6, 2) := by decide +kernel
theorem d6_74 : decode prog_24_method_7_code 74 = .ok (.iastore, 1) := by decide +kernel
theorem d6_75 : decode prog_24_method_7_code 75 = .ok (.iinc 4 2, 3) := by decide +kernel
theorem d6_78 : decode prog_24_method_7_code 78 = .ok (.aload_n 2, 1) := by decide +kernel
theorem d6_79 : decode prog_24_method_7_code 79 = .ok (.iload 5, 2) := by decide +kernel
theorem d6_81 : decode prog_24_method_7_code 81 = .ok (.iload 6, 2) := by decide +kernel
theorem d6_83 : decode prog_24_method_7_code 83 = .ok (.iastore, 1) := by decide +kernel
theorem d6_84 : decode prog_24_method_7_code 84 = .ok (.iinc 5 1, 3) := by decide +kernel
theorem d6_87 : decode prog_24_method_7_code 87 = .ok (.goto (-66), 3) := by decide +kernel
theorem d6_90 : decode prog_24_method_7_code 90 = .ok (.aload_n 0, 1) := by decide +kernel
theorem d6_91 : decode prog_24_method_7_code 91 = .ok (.getfield 19, 3) := by decide +kernel
theorem d6_94 : decode prog_24_method_7_code 94 = .ok (.aload_n 0, 1) := by decide +kernel
theorem d6_95 : decode prog_24_method_7_code 95 = .ok (.getfield 26, 3) := by decide +kernel
theorem d6_98 : decode prog_24_method_7_code 98 = .ok (.iload 4, 2) := by decide +kernel
theorem d6_100 : decode prog_24_method_7_code 100 = .ok (.aload_n 0, 1) := by decide +kernel
theorem d6_101 : decode prog_24_method_7_code 101 = .ok (.getfield 26, 3) := by decide +kernel
theorem d6_104 : decode prog_24_method_7_code 104 = .ok (.isub, 1) := by decide +kernel
theorem d6_105 : decode prog_24_method_7_code 105 = .ok (.iconst 1, 1) := by decide +kernel
theorem d6_106 : decode prog_24_method_7_code 106 = .ok (.isub, 1) := by decide +kernel
theorem d6_107 : decode prog_24_method_7_code 107 = .ok (.iconst 2, 1) := by decide +kernel
theorem d6_108 : decode prog_24_method_7_code 108 = .ok (.idiv, 1) := by decide +kernel
theorem d6_109 : decode prog_24_method_7_code 109 = .ok (.iastore, 1) := by decide +kernel
theorem d6_110 : decode prog_24_method_7_code 110 = .ok (.aload_n 0, 1) := by decide +kernel
theorem d6_111 : decode prog_24_method_7_code 111 = .ok (.iload 4, 2) := by decide +kernel
theorem d6_113 : decode prog_24_method_7_code 113 = .ok (.putfield 26, 3) := by decide +kernel
theorem d6_116 : decode prog_24_method_7_code 116 = .ok (.iconst 1, 1) := by decide +kernel
theorem d6_117 : decode prog_24_method_7_code 117 = .ok (.ireturn, 1) := by decide +kernel
abbrev Q_packed (Z : State) (a : Addr) (gb : Addr) (lb : Addr) (w ct : Int32) (ib : Addr) (nu nw nc dd : Nat) (fi : Nat → Value) (G Lf : Nat → Int32) (n0 : Nat) (h0 : Heap) : Option Value → Heap → List Loc → Prop := fun v h L => ∃ (r ux : Int32) (L2 : Nat → Int32), v = some (.int r) ∧ Fr n0 L ∧ Keep h0 h [a, ib, lb] ∧ Exa Z h a "com/example/smallscope/smallscope/Chunk" ∧ Fld Z h a "com/example/smallscope/smallscope/Chunk" "width" "I" (.int w) ∧ Fld Z h a "com/example/smallscope/smallscope/Chunk" "ints" "[I" (.ref ib) ∧ Fld Z h a "com/example/smallscope/smallscope/Chunk" "used" "I" (.int ux) ∧ Fld Z h a "com/example/smallscope/smallscope/Chunk" "count" "I" (.int ct) ∧ (∃ fi2 : Nat → Value, own_Arr Z h ib .int nc fi2) ∧ own_Arr Z h lb .int 16384 (fun k => .int (L2 k)) ∧ ((r = (1 : Int32) ∧ own_ok nw (min nw dd) ∧ ux = Int32.ofInt ((nu + 1 + 2 * min nw dd : Nat) : Int) ∧ ∀ j, j < nw → L2 j = G j) ∨ (r = (0 : Int32) ∧ ¬ own_ok nw (min nw dd) ∧ ux = Int32.ofInt ((nu : Nat) : Int)))
set_option maxRecDepth 65536 in
set_option maxHeartbeats 40000000 in
theorem rm_packed (l : Launch) (Z : State) (a0 : Array Value) (hw : ∀ d ∈ tables_1, d.before a0 Z = true) (a : Addr) (gb : Addr) (lb : Addr) (w ct : Int32) (ib : Addr) (nu nw nc dd : Nat) (fi : Nat → Value) (G Lf : Nat → Int32) (n0 : Nat) (h0 : Heap) (Z0 : n0 ≤ h0.size) (E_a : Exa Z h0 a "com/example/smallscope/smallscope/Chunk") (F_width : Fld Z h0 a "com/example/smallscope/smallscope/Chunk" "width" "I" (.int w)) (F_ints : Fld Z h0 a "com/example/smallscope/smallscope/Chunk" "ints" "[I" (.ref ib)) (F_used : Fld Z h0 a "com/example/smallscope/smallscope/Chunk" "used" "I" (.int (Int32.ofInt ((nu : Nat) : Int)))) (F_count : Fld Z h0 a "com/example/smallscope/smallscope/Chunk" "count" "I" (.int ct)) (A_i : own_Arr Z h0 ib .int nc fi) (A_g : own_Arr Z h0 gb .int 16384 (fun k => .int (G k))) (A_l : own_Arr Z h0 lb .int 16384 (fun k => .int (Lf k))) (g_a : n0 ≤ a) (g_ib : n0 ≤ ib) (g_lb : n0 ≤ lb) (ne_ib_a : ib ≠ a) (ne_gb_a : gb ≠ a) (ne_lb_a : lb ≠ a) (ne_gb_ib : gb ≠ ib) (ne_gb_lb : gb ≠ lb) (ne_lb_ib : lb ≠ ib) (hwn : w.toInt = nw) (hnw : nw ≤ 16384) (hrm : nu + 1 + nw ≤ nc) (hnc : nc ≤ 16385) (hd : ∀ j, j < nw → (¬ G j = Lf j ↔ j < dd)) :
    own_Met l Z (⟨"com/example/smallscope/smallscope/Chunk", "packed", "([I[I)Z"⟩ : MethodName) prog_24_method_7_code 7 (some .boolean) ({ frames := 0, cells := 0, slots := 0, locals := 0 } : Room) #[(.ref a), (.ref gb), (.ref lb)] h0 (Q_packed Z a gb lb w ct ib nu nw nc dd fi G Lf n0 h0) := by
  refine own_enter (g0 := fun m => (mkF m 0 #[.val (.ref a), .val (.ref gb), .val (.ref lb), .unset, .unset, .unset, .unset] [])) (plainFor_of_name (by first | (simp [plainName, overriddenIn]; done) | decide +kernel)) (fun m => by first | (simp [entryFrame, mkF, argsToLocals, Value.category]; done) | rfl) ?_
  intro p e s m below meth c T hx hby hml hown hnm hZ hret hlk X e0
  replace hown : s.vm.findClass "com/example/smallscope/smallscope/Chunk" = some m.cls := hown
  have N := Fr.nil n0
  have hz := Z0
  have K := Keep.refl h0 [a, ib, lb]
  have z1 : (1 : Int32).toInt = 1 := rfl
  have z2 : (2 : Int32).toInt = 2 := rfl
  have hnu := own_oi nu (by omega)
  have hnu1 : ((Int32.ofInt ((nu : Nat) : Int)) + (1 : Int32)).toInt = ((nu + 1 : Nat) : Int) := by have q1 := c_iadd (Int32.ofInt ((nu : Nat) : Int)) (1 : Int32); have q2 := rng32 ((Int32.ofInt ((nu : Nat) : Int)) + (1 : Int32)); omega
  show own_Run p e below _ (T.setTop (mkF m 0 #[.val (.ref a), .val (.ref gb), .val (.ref lb), .unset, .unset, .unset, .unset] []))
  refine own_go (fun _ kS => XS.aloadN X.here hx rfl (hb hby d6_0) rfl rfl kS) ?_
  show own_Run p e below _ (T.setTop (mkF m 1 #[.val (.ref a), .val (.ref gb), .val (.ref lb), .unset, .unset, .unset, .unset] [(.ref a)]))
  refine own_getF X hx hZ e0 hown (hw _ (List.mem_of_getElem? (i := 25) rfl)) F_used rfl rfl (hb hby d6_1) (fun T1 X1 e1 => ?_)
  show own_Run p e below _ (T1.setTop (mkF m 4 #[.val (.ref a), .val (.ref gb), .val (.ref lb), .unset, .unset, .unset, .unset] [(.int (Int32.ofInt ((nu : Nat) : Int)))]))
  refine own_go (fun _ kS => XS.aloadN X1.here hx rfl (hb hby d6_4) rfl rfl kS) ?_
  show own_Run p e below _ (T1.setTop (mkF m 5 #[.val (.ref a), .val (.ref gb), .val (.ref lb), .unset, .unset, .unset, .unset] [(.ref a), (.int (Int32.ofInt ((nu : Nat) : Int)))]))
  refine own_getF X1 hx hZ e1 hown (hw _ (List.mem_of_getElem? (i := 11) rfl)) F_width rfl rfl (hb hby d6_5) (fun T2 X2 e2 => ?_)
  show own_Run p e below _ (T2.setTop (mkF m 8 #[.val (.ref a), .val (.ref gb), .val (.ref lb), .unset, .unset, .unset, .unset] [(.int w), (.int (Int32.ofInt ((nu : Nat) : Int)))]))
  refine own_go (fun _ kS => XS.iadd X2.here hx rfl (hb hby d6_8) rfl kS) ?_
  show own_Run p e below _ (T2.setTop (mkF m 9 #[.val (.ref a), .val (.ref gb), .val (.ref lb), .unset, .unset, .unset, .unset] [(.int ((Int32.ofInt ((nu : Nat) : Int)) + w))]))
  refine own_go (fun _ kS => XS.istoreN X2.here hx rfl (hb hby d6_9) rfl (l' := #[.val (.ref a), .val (.ref gb), .val (.ref lb), .val (.int ((Int32.ofInt ((nu : Nat) : Int)) + w)), .unset, .unset, .unset]) rfl kS) ?_
  show own_Run p e below _ (T2.setTop (mkF m 10 #[.val (.ref a), .val (.ref gb), .val (.ref lb), .val (.int ((Int32.ofInt ((nu : Nat) : Int)) + w)), .unset, .unset, .unset] []))
  have hev : (((Int32.ofInt ((nu : Nat) : Int)) + w)).toInt = ((nu + nw : Nat) : Int) := by have q1 := c_iadd (Int32.ofInt ((nu : Nat) : Int)) w; have q2 := rng32 ((Int32.ofInt ((nu : Nat) : Int)) + w); omega
  generalize ((Int32.ofInt ((nu : Nat) : Int)) + w) = ev at hev ⊢
  refine own_go (fun _ kS => XS.aloadN X2.here hx rfl (hb hby d6_10) rfl rfl kS) ?_
  show own_Run p e below _ (T2.setTop (mkF m 11 #[.val (.ref a), .val (.ref gb), .val (.ref lb), .val (.int ev), .unset, .unset, .unset] [(.ref a)]))
  refine own_getF X2 hx hZ e2 hown (hw _ (List.mem_of_getElem? (i := 25) rfl)) F_used rfl rfl (hb hby d6_11) (fun T3 X3 e3 => ?_)
  show own_Run p e below _ (T3.setTop (mkF m 14 #[.val (.ref a), .val (.ref gb), .val (.ref lb), .val (.int ev), .unset, .unset, .unset] [(.int (Int32.ofInt ((nu : Nat) : Int)))]))
  refine own_go (fun _ kS => XS.iconst X3.here hx rfl (hb hby d6_14) kS) ?_
  show own_Run p e below _ (T3.setTop (mkF m 15 #[.val (.ref a), .val (.ref gb), .val (.ref lb), .val (.int ev), .unset, .unset, .unset] [(.int (1 : Int32)), (.int (Int32.ofInt ((nu : Nat) : Int)))]))
  refine own_go (fun _ kS => XS.iadd X3.here hx rfl (hb hby d6_15) rfl kS) ?_
  show own_Run p e below _ (T3.setTop (mkF m 16 #[.val (.ref a), .val (.ref gb), .val (.ref lb), .val (.int ev), .unset, .unset, .unset] [(.int ((Int32.ofInt ((nu : Nat) : Int)) + (1 : Int32)))]))
  refine own_go (fun _ kS => XS.istore X3.here hx rfl (hb hby d6_16) rfl (l' := #[.val (.ref a), .val (.ref gb), .val (.ref lb), .val (.int ev), .val (.int ((Int32.ofInt ((nu : Nat) : Int)) + (1 : Int32))), .unset, .unset]) rfl kS) ?_
  show own_Run p e below _ (T3.setTop (mkF m 18 #[.val (.ref a), .val (.ref gb), .val (.ref lb), .val (.int ev), .val (.int ((Int32.ofInt ((nu : Nat) : Int)) + (1 : Int32))), .unset, .unset] []))
  refine own_go (fun _ kS => XS.iconst X3.here hx rfl (hb hby d6_18) kS) ?_
  show own_Run p e below _ (T3.setTop (mkF m 19 #[.val (.ref a), .val (.ref gb), .val (.ref lb), .val (.int ev), .val (.int ((Int32.ofInt ((nu : Nat) : Int)) + (1 : Int32))), .unset, .unset] [(.int (0 : Int32))]))
  refine own_go (fun _ kS => XS.istore X3.here hx rfl (hb hby d6_19) rfl (l' := #[.val (.ref a), .val (.ref gb), .val (.ref lb), .val (.int ev), .val (.int ((Int32.ofInt ((nu : Nat) : Int)) + (1 : Int32))), .val (.int (0 : Int32)), .unset]) rfl kS) ?_
  show own_Run p e below _ (T3.setTop (mkF m 21 #[.val (.ref a), .val (.ref gb), .val (.ref lb), .val (.int ev), .val (.int ((Int32.ofInt ((nu : Nat) : Int)) + (1 : Int32))), .val (.int (0 : Int32)), .unset] []))
  have loop : ∀ (d jj : Nat) (s6 : Slot) (fx : Nat → Value) (T' : State) (h' : Heap) (locs : List Loc), jj + d = nw → One s6 → own_ok nw (min jj dd) → Stand p l e ({ frames := 0, cells := 0, slots := 0, locals := 0 } : Room) s m #[(.ref a), (.ref gb), (.ref lb)] below meth c T' locs 0 0 → T'.heap = h' → Fr n0 locs → n0 ≤ h'.size → Keep h0 h' [a, ib, lb] → Exa Z h' a "com/example/smallscope/smallscope/Chunk" → Fld Z h' a "com/example/smallscope/smallscope/Chunk" "width" "I" (.int w) → Fld Z h' a "com/example/smallscope/smallscope/Chunk" "ints" "[I" (.ref ib) → Fld Z h' a "com/example/smallscope/smallscope/Chunk" "used" "I" (.int (Int32.ofInt ((nu : Nat) : Int))) → Fld Z h' a "com/example/smallscope/smallscope/Chunk" "count" "I" (.int ct) → own_Arr Z h' ib .int nc fx → own_Arr Z h' gb .int 16384 (fun k => .int (G k)) → own_Arr Z h' lb .int 16384 (fun k => .int ((own_mix G Lf jj) k)) → own_Run p e below (own_End s ({ frames := 0, cells := 0, slots := 0, locals := 0 } : Room) (Q_packed Z a gb lb w ct ib nu nw nc dd fi G Lf n0 h0)) (T'.setTop (mkF m 21 #[.val (.ref a), .val (.ref gb), .val (.ref lb), .val (.int ev), .val (.int (Int32.ofInt ((nu + 1 + 2 * min jj dd : Nat) : Int))), .val (.int (Int32.ofInt ((jj : Nat) : Int))), s6] [])) := by
    intro d
    induction d with
    | zero =>
      intro jj s6 fx T' h' locs hj h6 hok X' e' N hz K E_a F_width F_ints F_used F_count A_i A_g A_l
      have hij := own_oi jj (by omega)
      have cjj := own_ofn jj (by omega)
      have hat := own_oi (nu + 1 + 2 * min jj dd) (by omega)
      show own_Run p e below _ (T'.setTop (mkF m 21 #[.val (.ref a), .val (.ref gb), .val (.ref lb), .val (.int ev), .val (.int (Int32.ofInt ((nu + 1 + 2 * min jj dd : Nat) : Int))), .val (.int (Int32.ofInt ((jj : Nat) : Int))), s6] []))
      refine own_go (fun _ kS => XS.iload X'.here hx rfl (hb hby d6_21) rfl kS) ?_
      show own_Run p e below _ (T'.setTop (mkF m 23 #[.val (.ref a), .val (.ref gb), .val (.ref lb), .val (.int ev), .val (.int (Int32.ofInt ((nu + 1 + 2 * min jj dd : Nat) : Int))), .val (.int (Int32.ofInt ((jj : Nat) : Int))), s6] [(.int (Int32.ofInt ((jj : Nat) : Int)))]))
      refine own_go (fun _ kS => XS.aloadN X'.here hx rfl (hb hby d6_23) rfl rfl kS) ?_
      show own_Run p e below _ (T'.setTop (mkF m 24 #[.val (.ref a), .val (.ref gb), .val (.ref lb), .val (.int ev), .val (.int (Int32.ofInt ((nu + 1 + 2 * min jj dd : Nat) : Int))), .val (.int (Int32.ofInt ((jj : Nat) : Int))), s6] [(.ref a), (.int (Int32.ofInt ((jj : Nat) : Int)))]))
      refine own_getF X' hx hZ e' hown (hw _ (List.mem_of_getElem? (i := 11) rfl)) F_width rfl rfl (hb hby d6_24) (fun T4 X4 e4 => ?_)
      show own_Run p e below _ (T4.setTop (mkF m 27 #[.val (.ref a), .val (.ref gb), .val (.ref lb), .val (.int ev), .val (.int (Int32.ofInt ((nu + 1 + 2 * min jj dd : Nat) : Int))), .val (.int (Int32.ofInt ((jj : Nat) : Int))), s6] [(.int w), (.int (Int32.ofInt ((jj : Nat) : Int)))]))
      refine own_go (fun _ kS => XS.icmpYes X4.here hx rfl (pc0 := 27) (pc' := 90) rfl (hb hby d6_27) rfl (flt (show ¬ ((Int32.ofInt ((jj : Nat) : Int)) < w) from (by rw [Int32.lt_iff_toInt_lt]; omega))).2.1 (by decide) (by decide) kS) ?_
      show own_Run p e below _ (T4.setTop (mkF m 90 #[.val (.ref a), .val (.ref gb), .val (.ref lb), .val (.int ev), .val (.int (Int32.ofInt ((nu + 1 + 2 * min jj dd : Nat) : Int))), .val (.int (Int32.ofInt ((jj : Nat) : Int))), s6] []))
      refine own_go (fun _ kS => XS.aloadN X4.here hx rfl (hb hby d6_90) rfl rfl kS) ?_
      show own_Run p e below _ (T4.setTop (mkF m 91 #[.val (.ref a), .val (.ref gb), .val (.ref lb), .val (.int ev), .val (.int (Int32.ofInt ((nu + 1 + 2 * min jj dd : Nat) : Int))), .val (.int (Int32.ofInt ((jj : Nat) : Int))), s6] [(.ref a)]))
      refine own_getF X4 hx hZ e4 hown (hw _ (List.mem_of_getElem? (i := 17) rfl)) F_ints rfl rfl (hb hby d6_91) (fun T5 X5 e5 => ?_)
      show own_Run p e below _ (T5.setTop (mkF m 94 #[.val (.ref a), .val (.ref gb), .val (.ref lb), .val (.int ev), .val (.int (Int32.ofInt ((nu + 1 + 2 * min jj dd : Nat) : Int))), .val (.int (Int32.ofInt ((jj : Nat) : Int))), s6] [(.ref ib)]))
      refine own_go (fun _ kS => XS.aloadN X5.here hx rfl (hb hby d6_94) rfl rfl kS) ?_
      show own_Run p e below _ (T5.setTop (mkF m 95 #[.val (.ref a), .val (.ref gb), .val (.ref lb), .val (.int ev), .val (.int (Int32.ofInt ((nu + 1 + 2 * min jj dd : Nat) : Int))), .val (.int (Int32.ofInt ((jj : Nat) : Int))), s6] [(.ref a), (.ref ib)]))
      refine own_getF X5 hx hZ e5 hown (hw _ (List.mem_of_getElem? (i := 25) rfl)) F_used rfl rfl (hb hby d6_95) (fun T6 X6 e6 => ?_)
      show own_Run p e below _ (T6.setTop (mkF m 98 #[.val (.ref a), .val (.ref gb), .val (.ref lb), .val (.int ev), .val (.int (Int32.ofInt ((nu + 1 + 2 * min jj dd : Nat) : Int))), .val (.int (Int32.ofInt ((jj : Nat) : Int))), s6] [(.int (Int32.ofInt ((nu : Nat) : Int))), (.ref ib)]))
      refine own_go (fun _ kS => XS.iload X6.here hx rfl (hb hby d6_98) rfl kS) ?_
      show own_Run p e below _ (T6.setTop (mkF m 100 #[.val (.ref a), .val (.ref gb), .val (.ref lb), .val (.int ev), .val (.int (Int32.ofInt ((nu + 1 + 2 * min jj dd : Nat) : Int))), .val (.int (Int32.ofInt ((jj : Nat) : Int))), s6] [(.int (Int32.ofInt ((nu + 1 + 2 * min jj dd : Nat) : Int))), (.int (Int32.ofInt ((nu : Nat) : Int))), (.ref ib)]))
      refine own_go (fun _ kS => XS.aloadN X6.here hx rfl (hb hby d6_100) rfl rfl kS) ?_
      show own_Run p e below _ (T6.setTop (mkF m 101 #[.val (.ref a), .val (.ref gb), .val (.ref lb), .val (.int ev), .val (.int (Int32.ofInt ((nu + 1 + 2 * min jj dd : Nat) : Int))), .val (.int (Int32.ofInt ((jj : Nat) : Int))), s6] [(.ref a), (.int (Int32.ofInt ((nu + 1 + 2 * min jj dd : Nat) : Int))), (.int (Int32.ofInt ((nu : Nat) : Int))), (.ref ib)]))
      refine own_getF X6 hx hZ e6 hown (hw _ (List.mem_of_getElem? (i := 25) rfl)) F_used rfl rfl (hb hby d6_101) (fun T7 X7 e7 => ?_)
      show own_Run p e below _ (T7.setTop (mkF m 104 #[.val (.ref a), .val (.ref gb), .val (.ref lb), .val (.int ev), .val (.int (Int32.ofInt ((nu + 1 + 2 * min jj dd : Nat) : Int))), .val (.int (Int32.ofInt ((jj : Nat) : Int))), s6] [(.int (Int32.ofInt ((nu : Nat) : Int))), (.int (Int32.ofInt ((nu + 1 + 2 * min jj dd : Nat) : Int))), (.int (Int32.ofInt ((nu : Nat) : Int))), (.ref ib)]))
      refine own_go (fun _ kS => XS.isub X7.here hx rfl (hb hby d6_104) rfl kS) ?_
      show own_Run p e below _ (T7.setTop (mkF m 105 #[.val (.ref a), .val (.ref gb), .val (.ref lb), .val (.int ev), .val (.int (Int32.ofInt ((nu + 1 + 2 * min jj dd : Nat) : Int))), .val (.int (Int32.ofInt ((jj : Nat) : Int))), s6] [(.int ((Int32.ofInt ((nu + 1 + 2 * min jj dd : Nat) : Int)) - (Int32.ofInt ((nu : Nat) : Int)))), (.int (Int32.ofInt ((nu : Nat) : Int))), (.ref ib)]))
      refine own_go (fun _ kS => XS.iconst X7.here hx rfl (hb hby d6_105) kS) ?_
      show own_Run p e below _ (T7.setTop (mkF m 106 #[.val (.ref a), .val (.ref gb), .val (.ref lb), .val (.int ev), .val (.int (Int32.ofInt ((nu + 1 + 2 * min jj dd : Nat) : Int))), .val (.int (Int32.ofInt ((jj : Nat) : Int))), s6] [(.int (1 : Int32)), (.int ((Int32.ofInt ((nu + 1 + 2 * min jj dd : Nat) : Int)) - (Int32.ofInt ((nu : Nat) : Int)))), (.int (Int32.ofInt ((nu : Nat) : Int))), (.ref ib)]))
      refine own_go (fun _ kS => XS.isub X7.here hx rfl (hb hby d6_106) rfl kS) ?_
      show own_Run p e below _ (T7.setTop (mkF m 107 #[.val (.ref a), .val (.ref gb), .val (.ref lb), .val (.int ev), .val (.int (Int32.ofInt ((nu + 1 + 2 * min jj dd : Nat) : Int))), .val (.int (Int32.ofInt ((jj : Nat) : Int))), s6] [(.int (((Int32.ofInt ((nu + 1 + 2 * min jj dd : Nat) : Int)) - (Int32.ofInt ((nu : Nat) : Int))) - (1 : Int32))), (.int (Int32.ofInt ((nu : Nat) : Int))), (.ref ib)]))
      refine own_go (fun _ kS => XS.iconst X7.here hx rfl (hb hby d6_107) kS) ?_
      show own_Run p e below _ (T7.setTop (mkF m 108 #[.val (.ref a), .val (.ref gb), .val (.ref lb), .val (.int ev), .val (.int (Int32.ofInt ((nu + 1 + 2 * min jj dd : Nat) : Int))), .val (.int (Int32.ofInt ((jj : Nat) : Int))), s6] [(.int (2 : Int32)), (.int (((Int32.ofInt ((nu + 1 + 2 * min jj dd : Nat) : Int)) - (Int32.ofInt ((nu : Nat) : Int))) - (1 : Int32))), (.int (Int32.ofInt ((nu : Nat) : Int))), (.ref ib)]))
      refine own_go (fun _ kS => XS.idiv X7.here hx rfl (hb hby d6_108) rfl (by decide) kS) ?_
      show own_Run p e below _ (T7.setTop (mkF m 109 #[.val (.ref a), .val (.ref gb), .val (.ref lb), .val (.int ev), .val (.int (Int32.ofInt ((nu + 1 + 2 * min jj dd : Nat) : Int))), .val (.int (Int32.ofInt ((jj : Nat) : Int))), s6] [(.int ((((Int32.ofInt ((nu + 1 + 2 * min jj dd : Nat) : Int)) - (Int32.ofInt ((nu : Nat) : Int))) - (1 : Int32)) / (2 : Int32))), (.int (Int32.ofInt ((nu : Nat) : Int))), (.ref ib)]))
      refine own_iastore X7 hx hZ e7 A_i (j := (Int32.ofInt ((nu : Nat) : Int))) ⟨by omega, by omega⟩ rfl rfl (hb hby d6_109) (fun T8 h8 X8 e8 W8 A8 => ?_)
      replace E_a := E_a.wr W8
      replace F_width := F_width.other W8 (Or.inl (Ne.symm ne_ib_a))
      replace F_ints := F_ints.other W8 (Or.inl (Ne.symm ne_ib_a))
      replace F_used := F_used.other W8 (Or.inl (Ne.symm ne_ib_a))
      replace F_count := F_count.other W8 (Or.inl (Ne.symm ne_ib_a))
      replace A_g := A_g.other W8 ne_gb_ib
      replace A_l := A_l.other W8 ne_lb_ib
      replace hz := Nat.le_trans hz (Nat.le_of_eq W8.size.symm)
      replace N := Fr.snoc X8 N g_ib
      replace K := K.wr W8 (Or.inl (List.mem_of_getElem? (i := 1) rfl))
      replace A8 : own_Arr Z h8 ib .int nc (fun i => if i = (Int32.ofInt ((nu : Nat) : Int)).toNatClampNeg then (.int ((((Int32.ofInt ((nu + 1 + 2 * min jj dd : Nat) : Int)) - (Int32.ofInt ((nu : Nat) : Int))) - (1 : Int32)) / (2 : Int32))) else fx i) := A8
      show own_Run p e below _ (T8.setTop (mkF m 110 #[.val (.ref a), .val (.ref gb), .val (.ref lb), .val (.int ev), .val (.int (Int32.ofInt ((nu + 1 + 2 * min jj dd : Nat) : Int))), .val (.int (Int32.ofInt ((jj : Nat) : Int))), s6] []))
      refine own_go (fun _ kS => XS.aloadN X8.here hx rfl (hb hby d6_110) rfl rfl kS) ?_
      show own_Run p e below _ (T8.setTop (mkF m 111 #[.val (.ref a), .val (.ref gb), .val (.ref lb), .val (.int ev), .val (.int (Int32.ofInt ((nu + 1 + 2 * min jj dd : Nat) : Int))), .val (.int (Int32.ofInt ((jj : Nat) : Int))), s6] [(.ref a)]))
      refine own_go (fun _ kS => XS.iload X8.here hx rfl (hb hby d6_111) rfl kS) ?_
      show own_Run p e below _ (T8.setTop (mkF m 113 #[.val (.ref a), .val (.ref gb), .val (.ref lb), .val (.int ev), .val (.int (Int32.ofInt ((nu + 1 + 2 * min jj dd : Nat) : Int))), .val (.int (Int32.ofInt ((jj : Nat) : Int))), s6] [(.int (Int32.ofInt ((nu + 1 + 2 * min jj dd : Nat) : Int))), (.ref a)]))
      refine own_putF X8 hx hZ e8 hown .int (hw _ (List.mem_of_getElem? (i := 25) rfl)) F_used E_a (Or.inl (hw _ (List.mem_of_getElem? (i := 26) rfl))) (hw _ (List.mem_of_getElem? (i := 3) rfl)) (v' := (.int (Int32.ofInt ((nu + 1 + 2 * min jj dd : Nat) : Int)))) (by decide) rfl rfl rfl rfl (hb hby d6_113) (fun T9 h9 X9 e9 W9 => ?_)
      replace E_a := E_a.wr W9
      replace F_width := F_width.other W9 (Or.inr (slot_ne (Or.inr (hw _ (List.mem_of_getElem? (i := 12) rfl))) (Or.inl (hw _ (List.mem_of_getElem? (i := 26) rfl))) (by decide) (t := .int) (t' := .int) (by decide) (by decide)))
      replace F_ints := F_ints.other W9 (Or.inr (slot_ne (Or.inr (hw _ (List.mem_of_getElem? (i := 18) rfl))) (Or.inl (hw _ (List.mem_of_getElem? (i := 26) rfl))) (by decide) (t := (.array .int)) (t' := .int) (by decide) (by decide)))
      replace F_used := F_used.same W9
      replace F_count := F_count.other W9 (Or.inr (slot_ne (Or.inl (hw _ (List.mem_of_getElem? (i := 33) rfl))) (Or.inl (hw _ (List.mem_of_getElem? (i := 26) rfl))) (by decide) (t := .int) (t' := .int) (by decide) (by decide)))
      replace A_g := A_g.other W9 ne_gb_a
      replace A_l := A_l.other W9 ne_lb_a
      replace A8 := A8.other W9 ne_ib_a
      replace hz := Nat.le_trans hz (Nat.le_of_eq W9.size.symm)
      replace N := Fr.snoc X9 N g_a
      replace K := K.wr W9 (Or.inl (List.mem_of_getElem? (i := 0) rfl))
      show own_Run p e below _ (T9.setTop (mkF m 116 #[.val (.ref a), .val (.ref gb), .val (.ref lb), .val (.int ev), .val (.int (Int32.ofInt ((nu + 1 + 2 * min jj dd : Nat) : Int))), .val (.int (Int32.ofInt ((jj : Nat) : Int))), s6] []))
      refine own_go (fun _ kS => XS.iconst X9.here hx rfl (hb hby d6_116) kS) ?_
      show own_Run p e below _ (T9.setTop (mkF m 117 #[.val (.ref a), .val (.ref gb), .val (.ref lb), .val (.int ev), .val (.int (Int32.ofInt ((nu + 1 + 2 * min jj dd : Nat) : Int))), .val (.int (Int32.ofInt ((jj : Nat) : Int))), s6] [(.int (1 : Int32))]))
      refine own_retN X9 hx (t := .boolean) hret hlk (by simp) (hb hby d6_117) (by decide) (by decide) ?_
      rw [e9]
      have hjn : jj = nw := by omega
      subst hjn
      exact ⟨_, _, _, rfl, N, K, E_a, F_width, F_ints, F_used, F_count, ⟨_, A8⟩, A_l, Or.inl ⟨rfl, hok, rfl, fun j hj => if_pos hj⟩⟩
    | succ d ih =>
      intro jj s6 fx T' h' locs hj h6 hok X' e' N hz K E_a F_width F_ints F_used F_count A_i A_g A_l
      have hij := own_oi jj (by omega)
      have cjj := own_ofn jj (by omega)
      have hat := own_oi (nu + 1 + 2 * min jj dd) (by omega)
      show own_Run p e below _ (T'.setTop (mkF m 21 #[.val (.ref a), .val (.ref gb), .val (.ref lb), .val (.int ev), .val (.int (Int32.ofInt ((nu + 1 + 2 * min jj dd : Nat) : Int))), .val (.int (Int32.ofInt ((jj : Nat) : Int))), s6] []))
      have hPk := hd jj (by omega)
      refine own_go (fun _ kS => XS.iload X'.here hx rfl (hb hby d6_21) rfl kS) ?_
      show own_Run p e below _ (T'.setTop (mkF m 23 #[.val (.ref a), .val (.ref gb), .val (.ref lb), .val (.int ev), .val (.int (Int32.ofInt ((nu + 1 + 2 * min jj dd : Nat) : Int))), .val (.int (Int32.ofInt ((jj : Nat) : Int))), s6] [(.int (Int32.ofInt ((jj : Nat) : Int)))]))
      refine own_go (fun _ kS => XS.aloadN X'.here hx rfl (hb hby d6_23) rfl rfl kS) ?_
      show own_Run p e below _ (T'.setTop (mkF m 24 #[.val (.ref a), .val (.ref gb), .val (.ref lb), .val (.int ev), .val (.int (Int32.ofInt ((nu + 1 + 2 * min jj dd : Nat) : Int))), .val (.int (Int32.ofInt ((jj : Nat) : Int))), s6] [(.ref a), (.int (Int32.ofInt ((jj : Nat) : Int)))]))
      refine own_getF X' hx hZ e' hown (hw _ (List.mem_of_getElem? (i := 11) rfl)) F_width rfl rfl (hb hby d6_24) (fun T10 X10 e10 => ?_)
      show own_Run p e below _ (T10.setTop (mkF m 27 #[.val (.ref a), .val (.ref gb), .val (.ref lb), .val (.int ev), .val (.int (Int32.ofInt ((nu + 1 + 2 * min jj dd : Nat) : Int))), .val (.int (Int32.ofInt ((jj : Nat) : Int))), s6] [(.int w), (.int (Int32.ofInt ((jj : Nat) : Int)))]))
      refine own_go (fun _ kS => XS.icmpNo X10.here hx rfl (hb hby d6_27) rfl (tlt (show (Int32.ofInt ((jj : Nat) : Int)) < w from (by rw [Int32.lt_iff_toInt_lt]; omega))).2.1 kS) ?_
      show own_Run p e below _ (T10.setTop (mkF m 30 #[.val (.ref a), .val (.ref gb), .val (.ref lb), .val (.int ev), .val (.int (Int32.ofInt ((nu + 1 + 2 * min jj dd : Nat) : Int))), .val (.int (Int32.ofInt ((jj : Nat) : Int))), s6] []))
      refine own_go (fun _ kS => XS.aloadN X10.here hx rfl (hb hby d6_30) rfl rfl kS) ?_
      show own_Run p e below _ (T10.setTop (mkF m 31 #[.val (.ref a), .val (.ref gb), .val (.ref lb), .val (.int ev), .val (.int (Int32.ofInt ((nu + 1 + 2 * min jj dd : Nat) : Int))), .val (.int (Int32.ofInt ((jj : Nat) : Int))), s6] [(.ref gb)]))
      refine own_go (fun _ kS => XS.iload X10.here hx rfl (hb hby d6_31) rfl kS) ?_
      show own_Run p e below _ (T10.setTop (mkF m 33 #[.val (.ref a), .val (.ref gb), .val (.ref lb), .val (.int ev), .val (.int (Int32.ofInt ((nu + 1 + 2 * min jj dd : Nat) : Int))), .val (.int (Int32.ofInt ((jj : Nat) : Int))), s6] [(.int (Int32.ofInt ((jj : Nat) : Int))), (.ref gb)]))
      refine own_iaload X10 hx hZ e10 A_g (j := (Int32.ofInt ((jj : Nat) : Int))) (G jj) ⟨by omega, by omega⟩ (by show Value.int (G (Int32.ofInt ((jj : Nat) : Int)).toNatClampNeg) = _; rw [cjj]) rfl rfl (hb hby d6_33) ?_
      show own_Run p e below _ (T10.setTop (mkF m 34 #[.val (.ref a), .val (.ref gb), .val (.ref lb), .val (.int ev), .val (.int (Int32.ofInt ((nu + 1 + 2 * min jj dd : Nat) : Int))), .val (.int (Int32.ofInt ((jj : Nat) : Int))), s6] [(.int (G jj))]))
      refine own_go (fun _ kS => XS.istore X10.here hx rfl (hb hby d6_34) rfl (l' := #[.val (.ref a), .val (.ref gb), .val (.ref lb), .val (.int ev), .val (.int (Int32.ofInt ((nu + 1 + 2 * min jj dd : Nat) : Int))), .val (.int (Int32.ofInt ((jj : Nat) : Int))), .val (.int (G jj))]) (own_st6 h6) kS) ?_
      show own_Run p e below _ (T10.setTop (mkF m 36 #[.val (.ref a), .val (.ref gb), .val (.ref lb), .val (.int ev), .val (.int (Int32.ofInt ((nu + 1 + 2 * min jj dd : Nat) : Int))), .val (.int (Int32.ofInt ((jj : Nat) : Int))), .val (.int (G jj))] []))
      refine own_go (fun _ kS => XS.iload X10.here hx rfl (hb hby d6_36) rfl kS) ?_
      show own_Run p e below _ (T10.setTop (mkF m 38 #[.val (.ref a), .val (.ref gb), .val (.ref lb), .val (.int ev), .val (.int (Int32.ofInt ((nu + 1 + 2 * min jj dd : Nat) : Int))), .val (.int (Int32.ofInt ((jj : Nat) : Int))), .val (.int (G jj))] [(.int (G jj))]))
      refine own_go (fun _ kS => XS.aloadN X10.here hx rfl (hb hby d6_38) rfl rfl kS) ?_
      show own_Run p e below _ (T10.setTop (mkF m 39 #[.val (.ref a), .val (.ref gb), .val (.ref lb), .val (.int ev), .val (.int (Int32.ofInt ((nu + 1 + 2 * min jj dd : Nat) : Int))), .val (.int (Int32.ofInt ((jj : Nat) : Int))), .val (.int (G jj))] [(.ref lb), (.int (G jj))]))
      refine own_go (fun _ kS => XS.iload X10.here hx rfl (hb hby d6_39) rfl kS) ?_
      show own_Run p e below _ (T10.setTop (mkF m 41 #[.val (.ref a), .val (.ref gb), .val (.ref lb), .val (.int ev), .val (.int (Int32.ofInt ((nu + 1 + 2 * min jj dd : Nat) : Int))), .val (.int (Int32.ofInt ((jj : Nat) : Int))), .val (.int (G jj))] [(.int (Int32.ofInt ((jj : Nat) : Int))), (.ref lb), (.int (G jj))]))
      refine own_iaload X10 hx hZ e10 A_l (j := (Int32.ofInt ((jj : Nat) : Int))) (Lf jj) ⟨by omega, by omega⟩ (by show Value.int (own_mix G Lf jj (Int32.ofInt ((jj : Nat) : Int)).toNatClampNeg) = _; rw [cjj]; exact congrArg Value.int (own_mixat G Lf jj)) rfl rfl (hb hby d6_41) ?_
      show own_Run p e below _ (T10.setTop (mkF m 42 #[.val (.ref a), .val (.ref gb), .val (.ref lb), .val (.int ev), .val (.int (Int32.ofInt ((nu + 1 + 2 * min jj dd : Nat) : Int))), .val (.int (Int32.ofInt ((jj : Nat) : Int))), .val (.int (G jj))] [(.int (Lf jj)), (.int (G jj))]))
      by_cases hc42 : (G jj) = (Lf jj)
      · refine own_go (fun _ kS => XS.icmpYes X10.here hx rfl (pc0 := 42) (pc' := 84) rfl (hb hby d6_42) rfl (teq hc42).1 (by decide) (by decide) kS) ?_
        show own_Run p e below _ (T10.setTop (mkF m 84 #[.val (.ref a), .val (.ref gb), .val (.ref lb), .val (.int ev), .val (.int (Int32.ofInt ((nu + 1 + 2 * min jj dd : Nat) : Int))), .val (.int (Int32.ofInt ((jj : Nat) : Int))), .val (.int (G jj))] []))
        refine own_go (fun _ kS => XS.iinc X10.here hx rfl (hb hby d6_84) rfl (l' := #[.val (.ref a), .val (.ref gb), .val (.ref lb), .val (.int ev), .val (.int (Int32.ofInt ((nu + 1 + 2 * min jj dd : Nat) : Int))), .val (.int ((Int32.ofInt ((jj : Nat) : Int)) + (1 : Int32))), .val (.int (G jj))]) rfl kS) ?_
        show own_Run p e below _ (T10.setTop (mkF m 87 #[.val (.ref a), .val (.ref gb), .val (.ref lb), .val (.int ev), .val (.int (Int32.ofInt ((nu + 1 + 2 * min jj dd : Nat) : Int))), .val (.int ((Int32.ofInt ((jj : Nat) : Int)) + (1 : Int32))), .val (.int (G jj))] []))
        refine own_go (fun _ kS => XS.goto X10.here hx rfl (pc0 := 87) (pc' := 21) rfl (hb hby d6_87) (by decide) (by decide) kS) ?_
        show own_Run p e below _ (T10.setTop (mkF m 21 #[.val (.ref a), .val (.ref gb), .val (.ref lb), .val (.int ev), .val (.int (Int32.ofInt ((nu + 1 + 2 * min jj dd : Nat) : Int))), .val (.int ((Int32.ofInt ((jj : Nat) : Int)) + (1 : Int32))), .val (.int (G jj))] []))
        rw [own_next jj]
        have hdd : ¬ jj < dd := fun q => (hPk.mpr q) hc42
        have hmin : min jj dd = min (jj + 1) dd := by omega
        rw [hmin]
        exact ih (jj + 1) _ _ _ _ _ (by omega) (One.val rfl) (by rw [← hmin]; exact hok) X10 e10 N hz K E_a F_width F_ints F_used F_count A_i A_g (A_l.congr (fun k _ => congrArg Value.int (own_mixeq G Lf jj hc42 k)))
      · refine own_go (fun _ kS => XS.icmpNo X10.here hx rfl (hb hby d6_42) rfl (feq hc42).1 kS) ?_
        show own_Run p e below _ (T10.setTop (mkF m 45 #[.val (.ref a), .val (.ref gb), .val (.ref lb), .val (.int ev), .val (.int (Int32.ofInt ((nu + 1 + 2 * min jj dd : Nat) : Int))), .val (.int (Int32.ofInt ((jj : Nat) : Int))), .val (.int (G jj))] []))
        have hdd : jj < dd := hPk.mp hc42
        have hat2 : ((Int32.ofInt ((nu + 1 + 2 * min jj dd : Nat) : Int)) + (2 : Int32)).toInt = ((nu + 1 + 2 * min jj dd + 2 : Nat) : Int) := by have q1 := c_iadd (Int32.ofInt ((nu + 1 + 2 * min jj dd : Nat) : Int)) (2 : Int32); have q2 := rng32 ((Int32.ofInt ((nu + 1 + 2 * min jj dd : Nat) : Int)) + (2 : Int32)); omega
        refine own_go (fun _ kS => XS.iload X10.here hx rfl (hb hby d6_45) rfl kS) ?_
        show own_Run p e below _ (T10.setTop (mkF m 47 #[.val (.ref a), .val (.ref gb), .val (.ref lb), .val (.int ev), .val (.int (Int32.ofInt ((nu + 1 + 2 * min jj dd : Nat) : Int))), .val (.int (Int32.ofInt ((jj : Nat) : Int))), .val (.int (G jj))] [(.int (Int32.ofInt ((nu + 1 + 2 * min jj dd : Nat) : Int)))]))
        refine own_go (fun _ kS => XS.iconst X10.here hx rfl (hb hby d6_47) kS) ?_
        show own_Run p e below _ (T10.setTop (mkF m 48 #[.val (.ref a), .val (.ref gb), .val (.ref lb), .val (.int ev), .val (.int (Int32.ofInt ((nu + 1 + 2 * min jj dd : Nat) : Int))), .val (.int (Int32.ofInt ((jj : Nat) : Int))), .val (.int (G jj))] [(.int (2 : Int32)), (.int (Int32.ofInt ((nu + 1 + 2 * min jj dd : Nat) : Int)))]))
        refine own_go (fun _ kS => XS.iadd X10.here hx rfl (hb hby d6_48) rfl kS) ?_
        show own_Run p e below _ (T10.setTop (mkF m 49 #[.val (.ref a), .val (.ref gb), .val (.ref lb), .val (.int ev), .val (.int (Int32.ofInt ((nu + 1 + 2 * min jj dd : Nat) : Int))), .val (.int (Int32.ofInt ((jj : Nat) : Int))), .val (.int (G jj))] [(.int ((Int32.ofInt ((nu + 1 + 2 * min jj dd : Nat) : Int)) + (2 : Int32)))]))
        refine own_go (fun _ kS => XS.iloadN X10.here hx rfl (hb hby d6_49) rfl kS) ?_
        show own_Run p e below _ (T10.setTop (mkF m 50 #[.val (.ref a), .val (.ref gb), .val (.ref lb), .val (.int ev), .val (.int (Int32.ofInt ((nu + 1 + 2 * min jj dd : Nat) : Int))), .val (.int (Int32.ofInt ((jj : Nat) : Int))), .val (.int (G jj))] [(.int ev), (.int ((Int32.ofInt ((nu + 1 + 2 * min jj dd : Nat) : Int)) + (2 : Int32)))]))
        by_cases hc50 : ev < ((Int32.ofInt ((nu + 1 + 2 * min jj dd : Nat) : Int)) + (2 : Int32))
        · refine own_go (fun _ kS => XS.icmpNo X10.here hx rfl (hb hby d6_50) rfl (tlt hc50).2.2.2 kS) ?_
          show own_Run p e below _ (T10.setTop (mkF m 53 #[.val (.ref a), .val (.ref gb), .val (.ref lb), .val (.int ev), .val (.int (Int32.ofInt ((nu + 1 + 2 * min jj dd : Nat) : Int))), .val (.int (Int32.ofInt ((jj : Nat) : Int))), .val (.int (G jj))] []))
          refine own_go (fun _ kS => XS.iconst X10.here hx rfl (hb hby d6_53) kS) ?_
          show own_Run p e below _ (T10.setTop (mkF m 54 #[.val (.ref a), .val (.ref gb), .val (.ref lb), .val (.int ev), .val (.int (Int32.ofInt ((nu + 1 + 2 * min jj dd : Nat) : Int))), .val (.int (Int32.ofInt ((jj : Nat) : Int))), .val (.int (G jj))] [(.int (0 : Int32))]))
          refine own_retN X10 hx (t := .boolean) hret hlk (by simp) (hb hby d6_54) (by decide) (by decide) ?_
          rw [e10]
          exact ⟨_, _, _, rfl, N, K, E_a, F_width, F_ints, F_used, F_count, ⟨_, A_i⟩, A_l, Or.inr ⟨rfl, (by have q := hc50; rw [Int32.lt_iff_toInt_lt] at q; intro w2; rcases w2 with w2 | w2 <;> omega), rfl⟩⟩
        · refine own_go (fun _ kS => XS.icmpYes X10.here hx rfl (pc0 := 50) (pc' := 55) rfl (hb hby d6_50) rfl (flt hc50).2.2.2 (by decide) (by decide) kS) ?_
          show own_Run p e below _ (T10.setTop (mkF m 55 #[.val (.ref a), .val (.ref gb), .val (.ref lb), .val (.int ev), .val (.int (Int32.ofInt ((nu + 1 + 2 * min jj dd : Nat) : Int))), .val (.int (Int32.ofInt ((jj : Nat) : Int))), .val (.int (G jj))] []))
          have hle : nu + 1 + 2 * min jj dd + 2 ≤ nu + nw := by have q := hc50; rw [Int32.lt_iff_toInt_lt] at q; omega
          have hat1 : ((Int32.ofInt ((nu + 1 + 2 * min jj dd : Nat) : Int)) + (1 : Int32)).toInt = ((nu + 1 + 2 * min jj dd + 1 : Nat) : Int) := by have q1 := c_iadd (Int32.ofInt ((nu + 1 + 2 * min jj dd : Nat) : Int)) (1 : Int32); have q2 := rng32 ((Int32.ofInt ((nu + 1 + 2 * min jj dd : Nat) : Int)) + (1 : Int32)); omega
          refine own_go (fun _ kS => XS.aloadN X10.here hx rfl (hb hby d6_55) rfl rfl kS) ?_
          show own_Run p e below _ (T10.setTop (mkF m 56 #[.val (.ref a), .val (.ref gb), .val (.ref lb), .val (.int ev), .val (.int (Int32.ofInt ((nu + 1 + 2 * min jj dd : Nat) : Int))), .val (.int (Int32.ofInt ((jj : Nat) : Int))), .val (.int (G jj))] [(.ref a)]))
          refine own_getF X10 hx hZ e10 hown (hw _ (List.mem_of_getElem? (i := 17) rfl)) F_ints rfl rfl (hb hby d6_56) (fun T11 X11 e11 => ?_)
          show own_Run p e below _ (T11.setTop (mkF m 59 #[.val (.ref a), .val (.ref gb), .val (.ref lb), .val (.int ev), .val (.int (Int32.ofInt ((nu + 1 + 2 * min jj dd : Nat) : Int))), .val (.int (Int32.ofInt ((jj : Nat) : Int))), .val (.int (G jj))] [(.ref ib)]))
          refine own_go (fun _ kS => XS.iload X11.here hx rfl (hb hby d6_59) rfl kS) ?_
          show own_Run p e below _ (T11.setTop (mkF m 61 #[.val (.ref a), .val (.ref gb), .val (.ref lb), .val (.int ev), .val (.int (Int32.ofInt ((nu + 1 + 2 * min jj dd : Nat) : Int))), .val (.int (Int32.ofInt ((jj : Nat) : Int))), .val (.int (G jj))] [(.int (Int32.ofInt ((nu + 1 + 2 * min jj dd : Nat) : Int))), (.ref ib)]))
          refine own_go (fun _ kS => XS.iload X11.here hx rfl (hb hby d6_61) rfl kS) ?_
          show own_Run p e below _ (T11.setTop (mkF m 63 #[.val (.ref a), .val (.ref gb), .val (.ref lb), .val (.int ev), .val (.int (Int32.ofInt ((nu + 1 + 2 * min jj dd : Nat) : Int))), .val (.int (Int32.ofInt ((jj : Nat) : Int))), .val (.int (G jj))] [(.int (Int32.ofInt ((jj : Nat) : Int))), (.int (Int32.ofInt ((nu + 1 + 2 * min jj dd : Nat) : Int))), (.ref ib)]))
          refine own_iastore X11 hx hZ e11 A_i (j := (Int32.ofInt ((nu + 1 + 2 * min jj dd : Nat) : Int))) ⟨by omega, by omega⟩ rfl rfl (hb hby d6_63) (fun T12 h12 X12 e12 W12 A12 => ?_)
          replace E_a := E_a.wr W12
          replace F_width := F_width.other W12 (Or.inl (Ne.symm ne_ib_a))
          replace F_ints := F_ints.other W12 (Or.inl (Ne.symm ne_ib_a))
          replace F_used := F_used.other W12 (Or.inl (Ne.symm ne_ib_a))
          replace F_count := F_count.other W12 (Or.inl (Ne.symm ne_ib_a))
          replace A_g := A_g.other W12 ne_gb_ib
          replace A_l := A_l.other W12 ne_lb_ib
          replace hz := Nat.le_trans hz (Nat.le_of_eq W12.size.symm)
          replace N := Fr.snoc X12 N g_ib
          replace K := K.wr W12 (Or.inl (List.mem_of_getElem? (i := 1) rfl))
          replace A12 : own_Arr Z h12 ib .int nc (fun i => if i = (Int32.ofInt ((nu + 1 + 2 * min jj dd : Nat) : Int)).toNatClampNeg then (.int (Int32.ofInt ((jj : Nat) : Int))) else fx i) := A12
          show own_Run p e below _ (T12.setTop (mkF m 64 #[.val (.ref a), .val (.ref gb), .val (.ref lb), .val (.int ev), .val (.int (Int32.ofInt ((nu + 1 + 2 * min jj dd : Nat) : Int))), .val (.int (Int32.ofInt ((jj : Nat) : Int))), .val (.int (G jj))] []))
          refine own_go (fun _ kS => XS.aloadN X12.here hx rfl (hb hby d6_64) rfl rfl kS) ?_
          show own_Run p e below _ (T12.setTop (mkF m 65 #[.val (.ref a), .val (.ref gb), .val (.ref lb), .val (.int ev), .val (.int (Int32.ofInt ((nu + 1 + 2 * min jj dd : Nat) : Int))), .val (.int (Int32.ofInt ((jj : Nat) : Int))), .val (.int (G jj))] [(.ref a)]))
          refine own_getF X12 hx hZ e12 hown (hw _ (List.mem_of_getElem? (i := 17) rfl)) F_ints rfl rfl (hb hby d6_65) (fun T13 X13 e13 => ?_)
          show own_Run p e below _ (T13.setTop (mkF m 68 #[.val (.ref a), .val (.ref gb), .val (.ref lb), .val (.int ev), .val (.int (Int32.ofInt ((nu + 1 + 2 * min jj dd : Nat) : Int))), .val (.int (Int32.ofInt ((jj : Nat) : Int))), .val (.int (G jj))] [(.ref ib)]))
          refine own_go (fun _ kS => XS.iload X13.here hx rfl (hb hby d6_68) rfl kS) ?_
          show own_Run p e below _ (T13.setTop (mkF m 70 #[.val (.ref a), .val (.ref gb), .val (.ref lb), .val (.int ev), .val (.int (Int32.ofInt ((nu + 1 + 2 * min jj dd : Nat) : Int))), .val (.int (Int32.ofInt ((jj : Nat) : Int))), .val (.int (G jj))] [(.int (Int32.ofInt ((nu + 1 + 2 * min jj dd : Nat) : Int))), (.ref ib)]))
          refine own_go (fun _ kS => XS.iconst X13.here hx rfl (hb hby d6_70) kS) ?_
          show own_Run p e below _ (T13.setTop (mkF m 71 #[.val (.ref a), .val (.ref gb), .val (.ref lb), .val (.int ev), .val (.int (Int32.ofInt ((nu + 1 + 2 * min jj dd : Nat) : Int))), .val (.int (Int32.ofInt ((jj : Nat) : Int))), .val (.int (G jj))] [(.int (1 : Int32)), (.int (Int32.ofInt ((nu + 1 + 2 * min jj dd : Nat) : Int))), (.ref ib)]))
          refine own_go (fun _ kS => XS.iadd X13.here hx rfl (hb hby d6_71) rfl kS) ?_
          show own_Run p e below _ (T13.setTop (mkF m 72 #[.val (.ref a), .val (.ref gb), .val (.ref lb), .val (.int ev), .val (.int (Int32.ofInt ((nu + 1 + 2 * min jj dd : Nat) : Int))), .val (.int (Int32.ofInt ((jj : Nat) : Int))), .val (.int (G jj))] [(.int ((Int32.ofInt ((nu + 1 + 2 * min jj dd : Nat) : Int)) + (1 : Int32))), (.ref ib)]))
          refine own_go (fun _ kS => XS.iload X13.here hx rfl (hb hby d6_72) rfl kS) ?_
          show own_Run p e below _ (T13.setTop (mkF m 74 #[.val (.ref a), .val (.ref gb), .val (.ref lb), .val (.int ev), .val (.int (Int32.ofInt ((nu + 1 + 2 * min jj dd : Nat) : Int))), .val (.int (Int32.ofInt ((jj : Nat) : Int))), .val (.int (G jj))] [(.int (G jj)), (.int ((Int32.ofInt ((nu + 1 + 2 * min jj dd : Nat) : Int)) + (1 : Int32))), (.ref ib)]))
          refine own_iastore X13 hx hZ e13 A12 (j := ((Int32.ofInt ((nu + 1 + 2 * min jj dd : Nat) : Int)) + (1 : Int32))) ⟨by omega, by omega⟩ rfl rfl (hb hby d6_74) (fun T14 h14 X14 e14 W14 A14 => ?_)
          replace E_a := E_a.wr W14
          replace F_width := F_width.other W14 (Or.inl (Ne.symm ne_ib_a))
          replace F_ints := F_ints.other W14 (Or.inl (Ne.symm ne_ib_a))
          replace F_used := F_used.other W14 (Or.inl (Ne.symm ne_ib_a))
          replace F_count := F_count.other W14 (Or.inl (Ne.symm ne_ib_a))
          replace A_g := A_g.other W14 ne_gb_ib
          replace A_l := A_l.other W14 ne_lb_ib
          replace hz := Nat.le_trans hz (Nat.le_of_eq W14.size.symm)
          replace N := Fr.snoc X14 N g_ib
          replace K := K.wr W14 (Or.inl (List.mem_of_getElem? (i := 1) rfl))
          replace A14 : own_Arr Z h14 ib .int nc (fun i => if i = ((Int32.ofInt ((nu + 1 + 2 * min jj dd : Nat) : Int)) + (1 : Int32)).toNatClampNeg then (.int (G jj)) else (fun i => if i = (Int32.ofInt ((nu + 1 + 2 * min jj dd : Nat) : Int)).toNatClampNeg then (.int (Int32.ofInt ((jj : Nat) : Int))) else fx i) i) := A14
          show own_Run p e below _ (T14.setTop (mkF m 75 #[.val (.ref a), .val (.ref gb), .val (.ref lb), .val (.int ev), .val (.int (Int32.ofInt ((nu + 1 + 2 * min jj dd : Nat) : Int))), .val (.int (Int32.ofInt ((jj : Nat) : Int))), .val (.int (G jj))] []))
          refine own_go (fun _ kS => XS.iinc X14.here hx rfl (hb hby d6_75) rfl (l' := #[.val (.ref a), .val (.ref gb), .val (.ref lb), .val (.int ev), .val (.int ((Int32.ofInt ((nu + 1 + 2 * min jj dd : Nat) : Int)) + (2 : Int32))), .val (.int (Int32.ofInt ((jj : Nat) : Int))), .val (.int (G jj))]) rfl kS) ?_
          show own_Run p e below _ (T14.setTop (mkF m 78 #[.val (.ref a), .val (.ref gb), .val (.ref lb), .val (.int ev), .val (.int ((Int32.ofInt ((nu + 1 + 2 * min jj dd : Nat) : Int)) + (2 : Int32))), .val (.int (Int32.ofInt ((jj : Nat) : Int))), .val (.int (G jj))] []))
          refine own_go (fun _ kS => XS.aloadN X14.here hx rfl (hb hby d6_78) rfl rfl kS) ?_
          show own_Run p e below _ (T14.setTop (mkF m 79 #[.val (.ref a), .val (.ref gb), .val (.ref lb), .val (.int ev), .val (.int ((Int32.ofInt ((nu + 1 + 2 * min jj dd : Nat) : Int)) + (2 : Int32))), .val (.int (Int32.ofInt ((jj : Nat) : Int))), .val (.int (G jj))] [(.ref lb)]))
          refine own_go (fun _ kS => XS.iload X14.here hx rfl (hb hby d6_79) rfl kS) ?_
          show own_Run p e below _ (T14.setTop (mkF m 81 #[.val (.ref a), .val (.ref gb), .val (.ref lb), .val (.int ev), .val (.int ((Int32.ofInt ((nu + 1 + 2 * min jj dd : Nat) : Int)) + (2 : Int32))), .val (.int (Int32.ofInt ((jj : Nat) : Int))), .val (.int (G jj))] [(.int (Int32.ofInt ((jj : Nat) : Int))), (.ref lb)]))
          refine own_go (fun _ kS => XS.iload X14.here hx rfl (hb hby d6_81) rfl kS) ?_
          show own_Run p e below _ (T14.setTop (mkF m 83 #[.val (.ref a), .val (.ref gb), .val (.ref lb), .val (.int ev), .val (.int ((Int32.ofInt ((nu + 1 + 2 * min jj dd : Nat) : Int)) + (2 : Int32))), .val (.int (Int32.ofInt ((jj : Nat) : Int))), .val (.int (G jj))] [(.int (G jj)), (.int (Int32.ofInt ((jj : Nat) : Int))), (.ref lb)]))
          refine own_iastore X14 hx hZ e14 A_l (j := (Int32.ofInt ((jj : Nat) : Int))) ⟨by omega, by omega⟩ rfl rfl (hb hby d6_83) (fun T15 h15 X15 e15 W15 A15 => ?_)
          replace E_a := E_a.wr W15
          replace F_width := F_width.other W15 (Or.inl (Ne.symm ne_lb_a))
          replace F_ints := F_ints.other W15 (Or.inl (Ne.symm ne_lb_a))
          replace F_used := F_used.other W15 (Or.inl (Ne.symm ne_lb_a))
          replace F_count := F_count.other W15 (Or.inl (Ne.symm ne_lb_a))
          replace A_g := A_g.other W15 ne_gb_lb
          replace A14 := A14.other W15 (Ne.symm ne_lb_ib)
          replace hz := Nat.le_trans hz (Nat.le_of_eq W15.size.symm)
          replace N := Fr.snoc X15 N g_lb
          replace K := K.wr W15 (Or.inl (List.mem_of_getElem? (i := 2) rfl))
          replace A15 : own_Arr Z h15 lb .int 16384 (fun k => .int ((own_mix G Lf (jj + 1)) k)) := A15.congr (fun k _ => own_mixst G Lf jj k cjj)
          show own_Run p e below _ (T15.setTop (mkF m 84 #[.val (.ref a), .val (.ref gb), .val (.ref lb), .val (.int ev), .val (.int ((Int32.ofInt ((nu + 1 + 2 * min jj dd : Nat) : Int)) + (2 : Int32))), .val (.int (Int32.ofInt ((jj : Nat) : Int))), .val (.int (G jj))] []))
          refine own_go (fun _ kS => XS.iinc X15.here hx rfl (hb hby d6_84) rfl (l' := #[.val (.ref a), .val (.ref gb), .val (.ref lb), .val (.int ev), .val (.int ((Int32.ofInt ((nu + 1 + 2 * min jj dd : Nat) : Int)) + (2 : Int32))), .val (.int ((Int32.ofInt ((jj : Nat) : Int)) + (1 : Int32))), .val (.int (G jj))]) rfl kS) ?_
          show own_Run p e below _ (T15.setTop (mkF m 87 #[.val (.ref a), .val (.ref gb), .val (.ref lb), .val (.int ev), .val (.int ((Int32.ofInt ((nu + 1 + 2 * min jj dd : Nat) : Int)) + (2 : Int32))), .val (.int ((Int32.ofInt ((jj : Nat) : Int)) + (1 : Int32))), .val (.int (G jj))] []))
          refine own_go (fun _ kS => XS.goto X15.here hx rfl (pc0 := 87) (pc' := 21) rfl (hb hby d6_87) (by decide) (by decide) kS) ?_
          show own_Run p e below _ (T15.setTop (mkF m 21 #[.val (.ref a), .val (.ref gb), .val (.ref lb), .val (.int ev), .val (.int ((Int32.ofInt ((nu + 1 + 2 * min jj dd : Nat) : Int)) + (2 : Int32))), .val (.int ((Int32.ofInt ((jj : Nat) : Int)) + (1 : Int32))), .val (.int (G jj))] []))
          rw [own_next jj]
          have hmin : min (jj + 1) dd = min jj dd + 1 := by omega
          rw [own_at2 (nu + 1 + 2 * min jj dd) (nu + 1 + 2 * min (jj + 1) dd) (by omega)]
          exact ih (jj + 1) _ _ _ _ _ (by omega) (One.val rfl) (Or.inr (by omega)) X15 e15 N hz K E_a F_width F_ints F_used F_count A14 A_g A15
  have q := loop nw 0 .unset _ _ _ _ (by omega) One.u (Or.inl (by omega)) X3 e3 N hz K E_a F_width F_ints F_used F_count A_i A_g (A_l.congr (fun k _ => rfl))
  have hat0 : (Int32.ofInt ((nu : Nat) : Int)) + (1 : Int32) = (Int32.ofInt ((nu + 1 + 2 * min 0 dd : Nat) : Int)) := own_inj (by rw [own_oi _ (by omega)]; omega)
  rw [← hat0] at q
  exact q
theorem own_pd1 : parseMethodDescriptor "([I[I)V" = some ⟨[(.array .int), (.array .int)], none⟩ := by decide +kernel
theorem own_pd2 : parseMethodDescriptor "([I[I)Z" = some ⟨[(.array .int), (.array .int)], some .boolean⟩ := by decide +kernel
theorem d7_0 : decode prog_24_method_6_code 0 = .ok (.aload_n 0, 1) := by decide +kernel
theorem d7_1 : decode prog_24_method_6_code 1 = .ok (.getfield 26, 3) := by decide +kernel
theorem d7_4 : decode prog_24_method_6_code 4 = .ok (.istore_n 3, 1) := by decide +kernel
theorem d7_5 : decode prog_24_method_6_code 5 = .ok (.aload_n 0, 1) := by decide +kernel
theorem d7_6 : decode prog_24_method_6_code 6 = .ok (.getfield 23, 3) := by decide +kernel
theorem d7_9 : decode prog_24_method_6_code 9 = .ok (.ifCond .eq 12, 3) := by decide +kernel
theorem d7_12 : decode prog_24_method_6_code 12 = .ok (.aload_n 0, 1) := by decide +kernel
theorem d7_13 : decode prog_24_method_6_code 13 = .ok (.aload_n 1, 1) := by decide +kernel
theorem d7_14 : decode prog_24_method_6_code 14 = .ok (.aload_n 2, 1) := by decide +kernel
theorem d7_15 : decode prog_24_method_6_code 15 = .ok (.invokevirtual 29, 3) := by decide +kernel
theorem d7_18 : decode prog_24_method_6_code 18 = .ok (.ifCond .ne 9, 3) := by decide +kernel
theorem d7_21 : decode prog_24_method_6_code 21 = .ok (.aload_n 0, 1) := by decide +kernel
theorem d7_22 : decode prog_24_method_6_code 22 = .ok (.aload_n 1, 1) := by decide +kernel
theorem d7_23 : decode prog_24_method_6_code 23 = .ok (.aload_n 2, 1) := by decide +kernel
theorem d7_24 : decode prog_24_method_6_code 24 = .ok (.invokevirtual 33, 3) := by decide +kernel
theorem d7_27 : decode prog_24_method_6_code 27 = .ok (.aload_n 0, 1) := by decide +kernel
theorem d7_28 : decode prog_24_method_6_code 28 = .ok (.dup, 1) := by decide +kernel
theorem d7_29 : decode prog_24_method_6_code 29 = .ok (.getfield 23, 3) := by decide +kernel
theorem d7_32 : decode prog_24_method_6_code 32 = .ok (.iconst 1, 1) := by decide +kernel
theorem d7_33 : decode prog_24_method_6_code 33 = .ok (.iadd, 1) := by decide +kernel
theorem d7_34 : decode prog_24_method_6_code 34 = .ok (.putfield 23, 3) := by decide +kernel
theorem d7_37 : decode prog_24_method_6_code 37 = .ok (.aload_n 0, 1) := by decide +kernel
theorem d7_38 : decode prog_24_method_6_code 38 = .ok (.getfield 26, 3) := by decide +kernel
theorem d7_41 : decode prog_24_method_6_code 41 = .ok (.iload_n 3, 1) := by decide +kernel
theorem d7_42 : decode prog_24_method_6_code 42 = .ok (.isub, 1) := by decide +kernel
theorem d7_43 : decode prog_24_method_6_code 43 = .ok (.ireturn, 1) := by decide +kernel
abbrev Q_add (Z : State) (a : Addr) (gb : Addr) (lb : Addr) (w ct : Int32) (ib : Addr) (nu nw nc dd : Nat) (fi : Nat → Value) (G Lf : Nat → Int32) (n0 : Nat) (h0 : Heap) : Option Value → Heap → List Loc → Prop := fun v h L => ∃ (r : Int32) (L2 : Nat → Int32), v = some (.int r) ∧ Fr n0 L ∧ Keep h0 h [a, ib, lb] ∧ Exa Z h a "com/example/smallscope/smallscope/Chunk" ∧ Fld Z h a "com/example/smallscope/smallscope/Chunk" "width" "I" (.int w) ∧ Fld Z h a "com/example/smallscope/smallscope/Chunk" "ints" "[I" (.ref ib) ∧ Fld Z h a "com/example/smallscope/smallscope/Chunk" "used" "I" (.int (Int32.ofInt ((own_use ct nu nw dd : Nat) : Int))) ∧ Fld Z h a "com/example/smallscope/smallscope/Chunk" "count" "I" (.int (ct + (1 : Int32))) ∧ (∃ fi2 : Nat → Value, own_Arr Z h ib .int nc fi2) ∧ own_Arr Z h lb .int 16384 (fun k => .int (L2 k)) ∧ ∀ j, j < nw → L2 j = G j
set_option maxRecDepth 65536 in
set_option maxHeartbeats 40000000 in
theorem rm_add (l : Launch) (Z : State) (a0 : Array Value) (hw : ∀ d ∈ tables_1, d.before a0 Z = true) (a : Addr) (gb : Addr) (lb : Addr) (w ct : Int32) (ib : Addr) (nu nw nc dd : Nat) (fi : Nat → Value) (G Lf : Nat → Int32) (n0 : Nat) (h0 : Heap) (Z0 : n0 ≤ h0.size) (E_a : Exa Z h0 a "com/example/smallscope/smallscope/Chunk") (F_width : Fld Z h0 a "com/example/smallscope/smallscope/Chunk" "width" "I" (.int w)) (F_ints : Fld Z h0 a "com/example/smallscope/smallscope/Chunk" "ints" "[I" (.ref ib)) (F_used : Fld Z h0 a "com/example/smallscope/smallscope/Chunk" "used" "I" (.int (Int32.ofInt ((nu : Nat) : Int)))) (F_count : Fld Z h0 a "com/example/smallscope/smallscope/Chunk" "count" "I" (.int ct)) (A_i : own_Arr Z h0 ib .int nc fi) (A_g : own_Arr Z h0 gb .int 16384 (fun k => .int (G k))) (A_l : own_Arr Z h0 lb .int 16384 (fun k => .int (Lf k))) (g_a : n0 ≤ a) (g_ib : n0 ≤ ib) (g_lb : n0 ≤ lb) (ne_ib_a : ib ≠ a) (ne_gb_a : gb ≠ a) (ne_lb_a : lb ≠ a) (ne_gb_ib : gb ≠ ib) (ne_gb_lb : gb ≠ lb) (ne_lb_ib : lb ≠ ib) (hwn : w.toInt = nw) (hnw : nw ≤ 16384) (hrm : nu + 1 + nw ≤ nc) (hnc : nc ≤ 16385) (hd : ¬ ct = (0 : Int32) → ∀ j, j < nw → (¬ G j = Lf j ↔ j < dd)) :
    own_Met l Z (⟨"com/example/smallscope/smallscope/Chunk", "add", "([I[I)I"⟩ : MethodName) prog_24_method_6_code 4 (some .int) ({ frames := 2, cells := 0, slots := 0, locals := 32 } : Room) #[(.ref a), (.ref gb), (.ref lb)] h0 (Q_add Z a gb lb w ct ib nu nw nc dd fi G Lf n0 h0) := by
  refine own_enter (g0 := fun m => (mkF m 0 #[.val (.ref a), .val (.ref gb), .val (.ref lb), .unset] [])) (plainFor_of_name (by first | (simp [plainName, overriddenIn]; done) | decide +kernel)) (fun m => by first | (simp [entryFrame, mkF, argsToLocals, Value.category]; done) | rfl) ?_
  intro p e s m below meth c T hx hby hml hown hnm hZ hret hlk X e0
  replace hown : s.vm.findClass "com/example/smallscope/smallscope/Chunk" = some m.cls := hown
  have N := Fr.nil n0
  have hz := Z0
  have K := Keep.refl h0 [a, ib, lb]
  show own_Run p e below _ (T.setTop (mkF m 0 #[.val (.ref a), .val (.ref gb), .val (.ref lb), .unset] []))
  refine own_go (fun _ kS => XS.aloadN X.here hx rfl (hb hby d7_0) rfl rfl kS) ?_
  show own_Run p e below _ (T.setTop (mkF m 1 #[.val (.ref a), .val (.ref gb), .val (.ref lb), .unset] [(.ref a)]))
  refine own_getF X hx hZ e0 hown (hw _ (List.mem_of_getElem? (i := 25) rfl)) F_used rfl rfl (hb hby d7_1) (fun T1 X1 e1 => ?_)
  show own_Run p e below _ (T1.setTop (mkF m 4 #[.val (.ref a), .val (.ref gb), .val (.ref lb), .unset] [(.int (Int32.ofInt ((nu : Nat) : Int)))]))
  refine own_go (fun _ kS => XS.istoreN X1.here hx rfl (hb hby d7_4) rfl (l' := #[.val (.ref a), .val (.ref gb), .val (.ref lb), .val (.int (Int32.ofInt ((nu : Nat) : Int)))]) rfl kS) ?_
  show own_Run p e below _ (T1.setTop (mkF m 5 #[.val (.ref a), .val (.ref gb), .val (.ref lb), .val (.int (Int32.ofInt ((nu : Nat) : Int)))] []))
  refine own_go (fun _ kS => XS.aloadN X1.here hx rfl (hb hby d7_5) rfl rfl kS) ?_
  show own_Run p e below _ (T1.setTop (mkF m 6 #[.val (.ref a), .val (.ref gb), .val (.ref lb), .val (.int (Int32.ofInt ((nu : Nat) : Int)))] [(.ref a)]))
  refine own_getF X1 hx hZ e1 hown (hw _ (List.mem_of_getElem? (i := 32) rfl)) F_count rfl rfl (hb hby d7_6) (fun T2 X2 e2 => ?_)
  show own_Run p e below _ (T2.setTop (mkF m 9 #[.val (.ref a), .val (.ref gb), .val (.ref lb), .val (.int (Int32.ofInt ((nu : Nat) : Int)))] [(.int ct)]))
  by_cases hc9 : ct = (0 : Int32)
  · refine own_go (fun _ kS => XS.ifYes X2.here hx rfl (pc0 := 9) (pc' := 21) rfl (hb hby d7_9) rfl ((if0 _ _).trans (teq hc9).1) (by decide) (by decide) kS) ?_
    show own_Run p e below _ (T2.setTop (mkF m 21 #[.val (.ref a), .val (.ref gb), .val (.ref lb), .val (.int (Int32.ofInt ((nu : Nat) : Int)))] []))
    refine own_go (fun _ kS => XS.aloadN X2.here hx rfl (hb hby d7_21) rfl rfl kS) ?_
    show own_Run p e below _ (T2.setTop (mkF m 22 #[.val (.ref a), .val (.ref gb), .val (.ref lb), .val (.int (Int32.ofInt ((nu : Nat) : Int)))] [(.ref a)]))
    refine own_go (fun _ kS => XS.aloadN X2.here hx rfl (hb hby d7_22) rfl rfl kS) ?_
    show own_Run p e below _ (T2.setTop (mkF m 23 #[.val (.ref a), .val (.ref gb), .val (.ref lb), .val (.int (Int32.ofInt ((nu : Nat) : Int)))] [(.ref gb), (.ref a)]))
    refine own_go (fun _ kS => XS.aloadN X2.here hx rfl (hb hby d7_23) rfl rfl kS) ?_
    show own_Run p e below _ (T2.setTop (mkF m 24 #[.val (.ref a), .val (.ref gb), .val (.ref lb), .val (.int (Int32.ofInt ((nu : Nat) : Int)))] [(.ref lb), (.ref gb), (.ref a)]))
    refine own_callP X2 hx hZ e2 hown (⟨"com/example/smallscope/smallscope/Chunk", "whole", "([I[I)V"⟩ : MethodName) (hw _ (List.mem_of_getElem? (i := 34) rfl)) (hw _ (List.mem_of_getElem? (i := 36) rfl)) (hw _ (List.mem_of_getElem? (i := 3) rfl)) (hw _ (List.mem_of_getElem? (i := 35) rfl)) (hw _ (List.mem_of_getElem? (i := 4) rfl)) (hw _ (List.mem_of_getElem? (i := 37) rfl)) (by decide) a E_a [(.ref gb), (.ref lb)] [] (rm_whole l Z a0 hw a gb lb w ct ib (nu) nw nc 0 fi (G) (Lf) n0 h0 hz E_a F_width F_ints F_used F_count A_i A_g A_l g_a g_ib g_lb ne_ib_a ne_gb_a ne_lb_a ne_gb_ib ne_gb_lb ne_lb_ib hwn hnw hrm hnc) (by decide) 0 (by decide) (by decide) (by decide) rfl (by rw [hml]; rfl) (lenOf own_pd1 rfl) rfl (by show 2 * 0 + _ ≤ _; exact Nat.le_of_eq rfl) (hb hby d7_24) (fun v3 h3 L3 T3 Q3 X3 e3 => ?_)
    obtain ⟨rfl, Nq3, Kq3, A3, F3_width, F3_ints, F3_used, F3_count, ⟨fi3, V3⟩, L3x, Y3, hL⟩ := Q3
    replace A_g := A_g.keep Kq3 (ninS ne_gb_a (ninS ne_gb_ib (ninS ne_gb_lb nin0)))
    replace hz := Nat.le_trans hz Kq3.1
    replace N := N.app Nq3
    replace K := K.trans Kq3 (allS (Or.inl (List.mem_of_getElem? (i := 0) rfl)) (allS (Or.inl (List.mem_of_getElem? (i := 1) rfl)) (allS (Or.inl (List.mem_of_getElem? (i := 2) rfl)) all0)))
    show own_Run p e below _ (T3.setTop (mkF m 27 #[.val (.ref a), .val (.ref gb), .val (.ref lb), .val (.int (Int32.ofInt ((nu : Nat) : Int)))] []))
    refine own_go (fun _ kS => XS.aloadN X3.here hx rfl (hb hby d7_27) rfl rfl kS) ?_
    show own_Run p e below _ (T3.setTop (mkF m 28 #[.val (.ref a), .val (.ref gb), .val (.ref lb), .val (.int (Int32.ofInt ((nu : Nat) : Int)))] [(.ref a)]))
    refine own_go (fun _ kS => XS.dup X3.here hx rfl (hb hby d7_28) rfl rfl kS) ?_
    show own_Run p e below _ (T3.setTop (mkF m 29 #[.val (.ref a), .val (.ref gb), .val (.ref lb), .val (.int (Int32.ofInt ((nu : Nat) : Int)))] [(.ref a), (.ref a)]))
    refine own_getF X3 hx hZ e3 hown (hw _ (List.mem_of_getElem? (i := 32) rfl)) F3_count rfl rfl (hb hby d7_29) (fun T4 X4 e4 => ?_)
    show own_Run p e below _ (T4.setTop (mkF m 32 #[.val (.ref a), .val (.ref gb), .val (.ref lb), .val (.int (Int32.ofInt ((nu : Nat) : Int)))] [(.int ct), (.ref a)]))
    refine own_go (fun _ kS => XS.iconst X4.here hx rfl (hb hby d7_32) kS) ?_
    show own_Run p e below _ (T4.setTop (mkF m 33 #[.val (.ref a), .val (.ref gb), .val (.ref lb), .val (.int (Int32.ofInt ((nu : Nat) : Int)))] [(.int (1 : Int32)), (.int ct), (.ref a)]))
    refine own_go (fun _ kS => XS.iadd X4.here hx rfl (hb hby d7_33) rfl kS) ?_
    show own_Run p e below _ (T4.setTop (mkF m 34 #[.val (.ref a), .val (.ref gb), .val (.ref lb), .val (.int (Int32.ofInt ((nu : Nat) : Int)))] [(.int (ct + (1 : Int32))), (.ref a)]))
    refine own_putF X4 hx hZ e4 hown .int (hw _ (List.mem_of_getElem? (i := 32) rfl)) F3_count A3 (Or.inl (hw _ (List.mem_of_getElem? (i := 33) rfl))) (hw _ (List.mem_of_getElem? (i := 3) rfl)) (v' := (.int (ct + (1 : Int32)))) (by decide) rfl rfl rfl rfl (hb hby d7_34) (fun T5 h5 X5 e5 W5 => ?_)
    replace A_g := A_g.other W5 ne_gb_a
    replace A3 := A3.wr W5
    replace F3_width := F3_width.other W5 (Or.inr (slot_ne (Or.inr (hw _ (List.mem_of_getElem? (i := 12) rfl))) (Or.inl (hw _ (List.mem_of_getElem? (i := 33) rfl))) (by decide) (t := .int) (t' := .int) (by decide) (by decide)))
    replace F3_ints := F3_ints.other W5 (Or.inr (slot_ne (Or.inr (hw _ (List.mem_of_getElem? (i := 18) rfl))) (Or.inl (hw _ (List.mem_of_getElem? (i := 33) rfl))) (by decide) (t := (.array .int)) (t' := .int) (by decide) (by decide)))
    replace F3_used := F3_used.other W5 (Or.inr (slot_ne (Or.inl (hw _ (List.mem_of_getElem? (i := 26) rfl))) (Or.inl (hw _ (List.mem_of_getElem? (i := 33) rfl))) (by decide) (t := .int) (t' := .int) (by decide) (by decide)))
    replace F3_count := F3_count.same W5
    replace V3 := V3.other W5 ne_ib_a
    replace Y3 := Y3.other W5 ne_lb_a
    replace hz := Nat.le_trans hz (Nat.le_of_eq W5.size.symm)
    replace N := Fr.snoc X5 N g_a
    replace K := K.wr W5 (Or.inl (List.mem_of_getElem? (i := 0) rfl))
    show own_Run p e below _ (T5.setTop (mkF m 37 #[.val (.ref a), .val (.ref gb), .val (.ref lb), .val (.int (Int32.ofInt ((nu : Nat) : Int)))] []))
    refine own_go (fun _ kS => XS.aloadN X5.here hx rfl (hb hby d7_37) rfl rfl kS) ?_
    show own_Run p e below _ (T5.setTop (mkF m 38 #[.val (.ref a), .val (.ref gb), .val (.ref lb), .val (.int (Int32.ofInt ((nu : Nat) : Int)))] [(.ref a)]))
    refine own_getF X5 hx hZ e5 hown (hw _ (List.mem_of_getElem? (i := 25) rfl)) F3_used rfl rfl (hb hby d7_38) (fun T6 X6 e6 => ?_)
    show own_Run p e below _ (T6.setTop (mkF m 41 #[.val (.ref a), .val (.ref gb), .val (.ref lb), .val (.int (Int32.ofInt ((nu : Nat) : Int)))] [(.int (Int32.ofInt ((nu + 1 + nw : Nat) : Int)))]))
    refine own_go (fun _ kS => XS.iloadN X6.here hx rfl (hb hby d7_41) rfl kS) ?_
    show own_Run p e below _ (T6.setTop (mkF m 42 #[.val (.ref a), .val (.ref gb), .val (.ref lb), .val (.int (Int32.ofInt ((nu : Nat) : Int)))] [(.int (Int32.ofInt ((nu : Nat) : Int))), (.int (Int32.ofInt ((nu + 1 + nw : Nat) : Int)))]))
    refine own_go (fun _ kS => XS.isub X6.here hx rfl (hb hby d7_42) rfl kS) ?_
    show own_Run p e below _ (T6.setTop (mkF m 43 #[.val (.ref a), .val (.ref gb), .val (.ref lb), .val (.int (Int32.ofInt ((nu : Nat) : Int)))] [(.int ((Int32.ofInt ((nu + 1 + nw : Nat) : Int)) - (Int32.ofInt ((nu : Nat) : Int))))]))
    refine own_retI X6 hx hret hlk (hb hby d7_43) (by decide) (by decide) ?_
    rw [e6]
    have hus : own_use ct nu nw dd = nu + 1 + nw := by unfold own_use; rw [if_pos hc9]
    rw [← hus] at F3_used
    exact ⟨_, _, rfl, N, K, A3, F3_width, F3_ints, F3_used, F3_count, ⟨_, V3⟩, Y3, hL⟩
  · refine own_go (fun _ kS => XS.ifNo X2.here hx rfl (hb hby d7_9) rfl ((if0 _ _).trans (feq hc9).1) kS) ?_
    show own_Run p e below _ (T2.setTop (mkF m 12 #[.val (.ref a), .val (.ref gb), .val (.ref lb), .val (.int (Int32.ofInt ((nu : Nat) : Int)))] []))
    refine own_go (fun _ kS => XS.aloadN X2.here hx rfl (hb hby d7_12) rfl rfl kS) ?_
    show own_Run p e below _ (T2.setTop (mkF m 13 #[.val (.ref a), .val (.ref gb), .val (.ref lb), .val (.int (Int32.ofInt ((nu : Nat) : Int)))] [(.ref a)]))
    refine own_go (fun _ kS => XS.aloadN X2.here hx rfl (hb hby d7_13) rfl rfl kS) ?_
    show own_Run p e below _ (T2.setTop (mkF m 14 #[.val (.ref a), .val (.ref gb), .val (.ref lb), .val (.int (Int32.ofInt ((nu : Nat) : Int)))] [(.ref gb), (.ref a)]))
    refine own_go (fun _ kS => XS.aloadN X2.here hx rfl (hb hby d7_14) rfl rfl kS) ?_
    show own_Run p e below _ (T2.setTop (mkF m 15 #[.val (.ref a), .val (.ref gb), .val (.ref lb), .val (.int (Int32.ofInt ((nu : Nat) : Int)))] [(.ref lb), (.ref gb), (.ref a)]))
    refine own_callP X2 hx hZ e2 hown (⟨"com/example/smallscope/smallscope/Chunk", "packed", "([I[I)Z"⟩ : MethodName) (hw _ (List.mem_of_getElem? (i := 42) rfl)) (hw _ (List.mem_of_getElem? (i := 44) rfl)) (hw _ (List.mem_of_getElem? (i := 3) rfl)) (hw _ (List.mem_of_getElem? (i := 43) rfl)) (hw _ (List.mem_of_getElem? (i := 4) rfl)) (hw _ (List.mem_of_getElem? (i := 45) rfl)) (by decide) a E_a [(.ref gb), (.ref lb)] [] (rm_packed l Z a0 hw a gb lb w ct ib (nu) nw nc dd fi (G) (Lf) n0 h0 hz E_a F_width F_ints F_used F_count A_i A_g A_l g_a g_ib g_lb ne_ib_a ne_gb_a ne_lb_a ne_gb_ib ne_gb_lb ne_lb_ib hwn hnw hrm hnc (hd hc9)) (by decide) 0 (by decide) (by decide) (by decide) rfl (by rw [hml]; rfl) (lenOf own_pd2 rfl) rfl (by show 2 * 0 + _ ≤ _; exact Nat.le_of_eq rfl) (hb hby d7_15) (fun v7 h7 L7 T7 Q7 X7 e7 => ?_)
    obtain ⟨rx, ux, L7x, rfl, Nq7, Kq7, A7, F7_width, F7_ints, F7_used, F7_count, ⟨fi7, V7⟩, Y7, hux⟩ := Q7
    replace A_g := A_g.keep Kq7 (ninS ne_gb_a (ninS ne_gb_ib (ninS ne_gb_lb nin0)))
    replace hz := Nat.le_trans hz Kq7.1
    replace N := N.app Nq7
    replace K := K.trans Kq7 (allS (Or.inl (List.mem_of_getElem? (i := 0) rfl)) (allS (Or.inl (List.mem_of_getElem? (i := 1) rfl)) (allS (Or.inl (List.mem_of_getElem? (i := 2) rfl)) all0)))
    show own_Run p e below _ (T7.setTop (mkF m 18 #[.val (.ref a), .val (.ref gb), .val (.ref lb), .val (.int (Int32.ofInt ((nu : Nat) : Int)))] [(.int rx)]))
    by_cases hc18 : rx = (0 : Int32)
    · refine own_go (fun _ kS => XS.ifNo X7.here hx rfl (hb hby d7_18) rfl ((if0 _ _).trans (teq hc18).2) kS) ?_
      show own_Run p e below _ (T7.setTop (mkF m 21 #[.val (.ref a), .val (.ref gb), .val (.ref lb), .val (.int (Int32.ofInt ((nu : Nat) : Int)))] []))
      obtain ⟨-, hnok, rfl⟩ := hux.resolve_left (fun q => absurd (q.1.symm.trans hc18) (by decide))
      refine own_go (fun _ kS => XS.aloadN X7.here hx rfl (hb hby d7_21) rfl rfl kS) ?_
      show own_Run p e below _ (T7.setTop (mkF m 22 #[.val (.ref a), .val (.ref gb), .val (.ref lb), .val (.int (Int32.ofInt ((nu : Nat) : Int)))] [(.ref a)]))
      refine own_go (fun _ kS => XS.aloadN X7.here hx rfl (hb hby d7_22) rfl rfl kS) ?_
      show own_Run p e below _ (T7.setTop (mkF m 23 #[.val (.ref a), .val (.ref gb), .val (.ref lb), .val (.int (Int32.ofInt ((nu : Nat) : Int)))] [(.ref gb), (.ref a)]))
      refine own_go (fun _ kS => XS.aloadN X7.here hx rfl (hb hby d7_23) rfl rfl kS) ?_
      show own_Run p e below _ (T7.setTop (mkF m 24 #[.val (.ref a), .val (.ref gb), .val (.ref lb), .val (.int (Int32.ofInt ((nu : Nat) : Int)))] [(.ref lb), (.ref gb), (.ref a)]))
      refine own_callP X7 hx hZ e7 hown (⟨"com/example/smallscope/smallscope/Chunk", "whole", "([I[I)V"⟩ : MethodName) (hw _ (List.mem_of_getElem? (i := 34) rfl)) (hw _ (List.mem_of_getElem? (i := 36) rfl)) (hw _ (List.mem_of_getElem? (i := 3) rfl)) (hw _ (List.mem_of_getElem? (i := 35) rfl)) (hw _ (List.mem_of_getElem? (i := 4) rfl)) (hw _ (List.mem_of_getElem? (i := 37) rfl)) (by decide) a A7 [(.ref gb), (.ref lb)] [] (rm_whole l Z a0 hw a gb lb w ct ib (nu) nw nc 0 fi7 (G) (L7x) n0 h7 hz A7 F7_width F7_ints F7_used F7_count V7 A_g Y7 g_a g_ib g_lb ne_ib_a ne_gb_a ne_lb_a ne_gb_ib ne_gb_lb ne_lb_ib hwn hnw hrm hnc) (by decide) 0 (by decide) (by decide) (by decide) rfl (by rw [hml]; rfl) (lenOf own_pd1 rfl) rfl (by show 2 * 0 + _ ≤ _; exact Nat.le_of_eq rfl) (hb hby d7_24) (fun v8 h8 L8 T8 Q8 X8 e8 => ?_)
      obtain ⟨rfl, Nq8, Kq8, A8, F8_width, F8_ints, F8_used, F8_count, ⟨fi8, V8⟩, L8x, Y8, hL⟩ := Q8
      replace A_g := A_g.keep Kq8 (ninS ne_gb_a (ninS ne_gb_ib (ninS ne_gb_lb nin0)))
      replace hz := Nat.le_trans hz Kq8.1
      replace N := N.app Nq8
      replace K := K.trans Kq8 (allS (Or.inl (List.mem_of_getElem? (i := 0) rfl)) (allS (Or.inl (List.mem_of_getElem? (i := 1) rfl)) (allS (Or.inl (List.mem_of_getElem? (i := 2) rfl)) all0)))
      show own_Run p e below _ (T8.setTop (mkF m 27 #[.val (.ref a), .val (.ref gb), .val (.ref lb), .val (.int (Int32.ofInt ((nu : Nat) : Int)))] []))
      refine own_go (fun _ kS => XS.aloadN X8.here hx rfl (hb hby d7_27) rfl rfl kS) ?_
      show own_Run p e below _ (T8.setTop (mkF m 28 #[.val (.ref a), .val (.ref gb), .val (.ref lb), .val (.int (Int32.ofInt ((nu : Nat) : Int)))] [(.ref a)]))
      refine own_go (fun _ kS => XS.dup X8.here hx rfl (hb hby d7_28) rfl rfl kS) ?_
      show own_Run p e below _ (T8.setTop (mkF m 29 #[.val (.ref a), .val (.ref gb), .val (.ref lb), .val (.int (Int32.ofInt ((nu : Nat) : Int)))] [(.ref a), (.ref a)]))
      refine own_getF X8 hx hZ e8 hown (hw _ (List.mem_of_getElem? (i := 32) rfl)) F8_count rfl rfl (hb hby d7_29) (fun T9 X9 e9 => ?_)
      show own_Run p e below _ (T9.setTop (mkF m 32 #[.val (.ref a), .val (.ref gb), .val (.ref lb), .val (.int (Int32.ofInt ((nu : Nat) : Int)))] [(.int ct), (.ref a)]))
      refine own_go (fun _ kS => XS.iconst X9.here hx rfl (hb hby d7_32) kS) ?_
      show own_Run p e below _ (T9.setTop (mkF m 33 #[.val (.ref a), .val (.ref gb), .val (.ref lb), .val (.int (Int32.ofInt ((nu : Nat) : Int)))] [(.int (1 : Int32)), (.int ct), (.ref a)]))
      refine own_go (fun _ kS => XS.iadd X9.here hx rfl (hb hby d7_33) rfl kS) ?_
      show own_Run p e below _ (T9.setTop (mkF m 34 #[.val (.ref a), .val (.ref gb), .val (.ref lb), .val (.int (Int32.ofInt ((nu : Nat) : Int)))] [(.int (ct + (1 : Int32))), (.ref a)]))
      refine own_putF X9 hx hZ e9 hown .int (hw _ (List.mem_of_getElem? (i := 32) rfl)) F8_count A8 (Or.inl (hw _ (List.mem_of_getElem? (i := 33) rfl))) (hw _ (List.mem_of_getElem? (i := 3) rfl)) (v' := (.int (ct + (1 : Int32)))) (by decide) rfl rfl rfl rfl (hb hby d7_34) (fun T10 h10 X10 e10 W10 => ?_)
      replace A_g := A_g.other W10 ne_gb_a
      replace A8 := A8.wr W10
      replace F8_width := F8_width.other W10 (Or.inr (slot_ne (Or.inr (hw _ (List.mem_of_getElem? (i := 12) rfl))) (Or.inl (hw _ (List.mem_of_getElem? (i := 33) rfl))) (by decide) (t := .int) (t' := .int) (by decide) (by decide)))
      replace F8_ints := F8_ints.other W10 (Or.inr (slot_ne (Or.inr (hw _ (List.mem_of_getElem? (i := 18) rfl))) (Or.inl (hw _ (List.mem_of_getElem? (i := 33) rfl))) (by decide) (t := (.array .int)) (t' := .int) (by decide) (by decide)))
      replace F8_used := F8_used.other W10 (Or.inr (slot_ne (Or.inl (hw _ (List.mem_of_getElem? (i := 26) rfl))) (Or.inl (hw _ (List.mem_of_getElem? (i := 33) rfl))) (by decide) (t := .int) (t' := .int) (by decide) (by decide)))
      replace F8_count := F8_count.same W10
      replace V8 := V8.other W10 ne_ib_a
      replace Y8 := Y8.other W10 ne_lb_a
      replace hz := Nat.le_trans hz (Nat.le_of_eq W10.size.symm)
      replace N := Fr.snoc X10 N g_a
      replace K := K.wr W10 (Or.inl (List.mem_of_getElem? (i := 0) rfl))
      show own_Run p e below _ (T10.setTop (mkF m 37 #[.val (.ref a), .val (.ref gb), .val (.ref lb), .val (.int (Int32.ofInt ((nu : Nat) : Int)))] []))
      refine own_go (fun _ kS => XS.aloadN X10.here hx rfl (hb hby d7_37) rfl rfl kS) ?_
      show own_Run p e below _ (T10.setTop (mkF m 38 #[.val (.ref a), .val (.ref gb), .val (.ref lb), .val (.int (Int32.ofInt ((nu : Nat) : Int)))] [(.ref a)]))
      refine own_getF X10 hx hZ e10 hown (hw _ (List.mem_of_getElem? (i := 25) rfl)) F8_used rfl rfl (hb hby d7_38) (fun T11 X11 e11 => ?_)
      show own_Run p e below _ (T11.setTop (mkF m 41 #[.val (.ref a), .val (.ref gb), .val (.ref lb), .val (.int (Int32.ofInt ((nu : Nat) : Int)))] [(.int (Int32.ofInt ((nu + 1 + nw : Nat) : Int)))]))
      refine own_go (fun _ kS => XS.iloadN X11.here hx rfl (hb hby d7_41) rfl kS) ?_
      show own_Run p e below _ (T11.setTop (mkF m 42 #[.val (.ref a), .val (.ref gb), .val (.ref lb), .val (.int (Int32.ofInt ((nu : Nat) : Int)))] [(.int (Int32.ofInt ((nu : Nat) : Int))), (.int (Int32.ofInt ((nu + 1 + nw : Nat) : Int)))]))
      refine own_go (fun _ kS => XS.isub X11.here hx rfl (hb hby d7_42) rfl kS) ?_
      show own_Run p e below _ (T11.setTop (mkF m 43 #[.val (.ref a), .val (.ref gb), .val (.ref lb), .val (.int (Int32.ofInt ((nu : Nat) : Int)))] [(.int ((Int32.ofInt ((nu + 1 + nw : Nat) : Int)) - (Int32.ofInt ((nu : Nat) : Int))))]))
      refine own_retI X11 hx hret hlk (hb hby d7_43) (by decide) (by decide) ?_
      rw [e11]
      have hus : own_use ct nu nw dd = nu + 1 + nw := by unfold own_use; rw [if_neg hc9, if_neg hnok]
      rw [← hus] at F8_used
      exact ⟨_, _, rfl, N, K, A8, F8_width, F8_ints, F8_used, F8_count, ⟨_, V8⟩, Y8, hL⟩
    · refine own_go (fun _ kS => XS.ifYes X7.here hx rfl (pc0 := 18) (pc' := 27) rfl (hb hby d7_18) rfl ((if0 _ _).trans (feq hc18).2) (by decide) (by decide) kS) ?_
      show own_Run p e below _ (T7.setTop (mkF m 27 #[.val (.ref a), .val (.ref gb), .val (.ref lb), .val (.int (Int32.ofInt ((nu : Nat) : Int)))] []))
      obtain ⟨-, hok, rfl, hL⟩ := hux.resolve_right (fun q => hc18 q.1)
      refine own_go (fun _ kS => XS.aloadN X7.here hx rfl (hb hby d7_27) rfl rfl kS) ?_
      show own_Run p e below _ (T7.setTop (mkF m 28 #[.val (.ref a), .val (.ref gb), .val (.ref lb), .val (.int (Int32.ofInt ((nu : Nat) : Int)))] [(.ref a)]))
      refine own_go (fun _ kS => XS.dup X7.here hx rfl (hb hby d7_28) rfl rfl kS) ?_
      show own_Run p e below _ (T7.setTop (mkF m 29 #[.val (.ref a), .val (.ref gb), .val (.ref lb), .val (.int (Int32.ofInt ((nu : Nat) : Int)))] [(.ref a), (.ref a)]))
      refine own_getF X7 hx hZ e7 hown (hw _ (List.mem_of_getElem? (i := 32) rfl)) F7_count rfl rfl (hb hby d7_29) (fun T12 X12 e12 => ?_)
      show own_Run p e below _ (T12.setTop (mkF m 32 #[.val (.ref a), .val (.ref gb), .val (.ref lb), .val (.int (Int32.ofInt ((nu : Nat) : Int)))] [(.int ct), (.ref a)]))
      refine own_go (fun _ kS => XS.iconst X12.here hx rfl (hb hby d7_32) kS) ?_
      show own_Run p e below _ (T12.setTop (mkF m 33 #[.val (.ref a), .val (.ref gb), .val (.ref lb), .val (.int (Int32.ofInt ((nu : Nat) : Int)))] [(.int (1 : Int32)), (.int ct), (.ref a)]))
      refine own_go (fun _ kS => XS.iadd X12.here hx rfl (hb hby d7_33) rfl kS) ?_
      show own_Run p e below _ (T12.setTop (mkF m 34 #[.val (.ref a), .val (.ref gb), .val (.ref lb), .val (.int (Int32.ofInt ((nu : Nat) : Int)))] [(.int (ct + (1 : Int32))), (.ref a)]))
      refine own_putF X12 hx hZ e12 hown .int (hw _ (List.mem_of_getElem? (i := 32) rfl)) F7_count A7 (Or.inl (hw _ (List.mem_of_getElem? (i := 33) rfl))) (hw _ (List.mem_of_getElem? (i := 3) rfl)) (v' := (.int (ct + (1 : Int32)))) (by decide) rfl rfl rfl rfl (hb hby d7_34) (fun T13 h13 X13 e13 W13 => ?_)
      replace A_g := A_g.other W13 ne_gb_a
      replace A7 := A7.wr W13
      replace F7_width := F7_width.other W13 (Or.inr (slot_ne (Or.inr (hw _ (List.mem_of_getElem? (i := 12) rfl))) (Or.inl (hw _ (List.mem_of_getElem? (i := 33) rfl))) (by decide) (t := .int) (t' := .int) (by decide) (by decide)))
      replace F7_ints := F7_ints.other W13 (Or.inr (slot_ne (Or.inr (hw _ (List.mem_of_getElem? (i := 18) rfl))) (Or.inl (hw _ (List.mem_of_getElem? (i := 33) rfl))) (by decide) (t := (.array .int)) (t' := .int) (by decide) (by decide)))
      replace F7_used := F7_used.other W13 (Or.inr (slot_ne (Or.inl (hw _ (List.mem_of_getElem? (i := 26) rfl))) (Or.inl (hw _ (List.mem_of_getElem? (i := 33) rfl))) (by decide) (t := .int) (t' := .int) (by decide) (by decide)))
      replace F7_count := F7_count.same W13
      replace V7 := V7.other W13 ne_ib_a
      replace Y7 := Y7.other W13 ne_lb_a
      replace hz := Nat.le_trans hz (Nat.le_of_eq W13.size.symm)
      replace N := Fr.snoc X13 N g_a
      replace K := K.wr W13 (Or.inl (List.mem_of_getElem? (i := 0) rfl))
      show own_Run p e below _ (T13.setTop (mkF m 37 #[.val (.ref a), .val (.ref gb), .val (.ref lb), .val (.int (Int32.ofInt ((nu : Nat) : Int)))] []))
      refine own_go (fun _ kS => XS.aloadN X13.here hx rfl (hb hby d7_37) rfl rfl kS) ?_
      show own_Run p e below _ (T13.setTop (mkF m 38 #[.val (.ref a), .val (.ref gb), .val (.ref lb), .val (.int (Int32.ofInt ((nu : Nat) : Int)))] [(.ref a)]))
      refine own_getF X13 hx hZ e13 hown (hw _ (List.mem_of_getElem? (i := 25) rfl)) F7_used rfl rfl (hb hby d7_38) (fun T14 X14 e14 => ?_)
      show own_Run p e below _ (T14.setTop (mkF m 41 #[.val (.ref a), .val (.ref gb), .val (.ref lb), .val (.int (Int32.ofInt ((nu : Nat) : Int)))] [(.int (Int32.ofInt ((nu + 1 + 2 * min nw dd : Nat) : Int)))]))
      refine own_go (fun _ kS => XS.iloadN X14.here hx rfl (hb hby d7_41) rfl kS) ?_
      show own_Run p e below _ (T14.setTop (mkF m 42 #[.val (.ref a), .val (.ref gb), .val (.ref lb), .val (.int (Int32.ofInt ((nu : Nat) : Int)))] [(.int (Int32.ofInt ((nu : Nat) : Int))), (.int (Int32.ofInt ((nu + 1 + 2 * min nw dd : Nat) : Int)))]))
      refine own_go (fun _ kS => XS.isub X14.here hx rfl (hb hby d7_42) rfl kS) ?_
      show own_Run p e below _ (T14.setTop (mkF m 43 #[.val (.ref a), .val (.ref gb), .val (.ref lb), .val (.int (Int32.ofInt ((nu : Nat) : Int)))] [(.int ((Int32.ofInt ((nu + 1 + 2 * min nw dd : Nat) : Int)) - (Int32.ofInt ((nu : Nat) : Int))))]))
      refine own_retI X14 hx hret hlk (hb hby d7_43) (by decide) (by decide) ?_
      rw [e14]
      have hus : own_use ct nu nw dd = nu + 1 + 2 * min nw dd := by unfold own_use; rw [if_neg hc9, if_pos hok]
      rw [← hus] at F7_used
      exact ⟨_, _, rfl, N, K, A7, F7_width, F7_ints, F7_used, F7_count, ⟨_, V7⟩, Y7, hL⟩
theorem own_pd3 : parseMethodDescriptor "(I)V" = some ⟨[.int], none⟩ := by decide +kernel
theorem own_pd4 : parseMethodDescriptor "()Z" = some ⟨[], some .boolean⟩ := by decide +kernel
theorem own_pd5 : parseMethodDescriptor "([I[I)I" = some ⟨[(.array .int), (.array .int)], some .int⟩ := by decide +kernel
abbrev Q_law (Z : State) (p1 : Int32) (p2 : Int32) (n0 : Nat) (h0 : Heap) : Option Value → Heap → List Loc → Prop := fun v h L => v = some (.int 1) ∧ Fr n0 L
set_option maxRecDepth 65536 in
set_option maxHeartbeats 40000000 in
theorem rm_law (l : Launch) (Z : State) (a0 : Array Value) (hw : ∀ d ∈ tables_1, d.before a0 Z = true) (p1 : Int32) (p2 : Int32) (n0 : Nat) (h0 : Heap) (Z0 : n0 ≤ h0.size)  :
    own_Met l Z x code maxLocals ret room_1 #[(.int p1), (.int p2)] h0 (Q_law Z p1 p2 n0 h0) := by
  refine own_enter (g0 := fun m => (mkF m 0 #[.val (.int p1), .val (.int p2), .unset, .unset, .unset, .unset, .unset, .unset, .unset, .unset, .unset, .unset, .unset] [])) (plainFor_of_name (by first | (simp [plainName, overriddenIn]; done) | decide +kernel)) (fun m => by first | (simp [entryFrame, mkF, argsToLocals, Value.category, maxLocals]; done) | rfl) ?_
  intro p e s m below meth c T hx hby hml hown hnm hZ hret hlk X e0
  have hml : c.maxLocals = 13 := hml
  replace hown : s.vm.findClass "com/example/smallscope/smallscope/ChunkHasRoomPinLaw" = some m.cls := hown
  have N := Fr.nil n0
  have hz := Z0
  have z0 : (0 : Int32).toInt = 0 := rfl
  have z1 : (1 : Int32).toInt = 1 := rfl
  have z2 : (2 : Int32).toInt = 2 := rfl
  have z3 : (3 : Int32).toInt = 3 := rfl
  have z16 : (16384 : Int32).toInt = 16384 := rfl
  show own_Run p e below _ (T.setTop (mkF m 0 #[.val (.int p1), .val (.int p2), .unset, .unset, .unset, .unset, .unset, .unset, .unset, .unset, .unset, .unset, .unset] []))
  refine own_go (fun _ kS => XS.iloadN X.here hx rfl (hb hby at_0) rfl kS) ?_
  show own_Run p e below _ (T.setTop (mkF m 1 #[.val (.int p1), .val (.int p2), .unset, .unset, .unset, .unset, .unset, .unset, .unset, .unset, .unset, .unset, .unset] [(.int p1)]))
  refine own_ldc X hx hZ hown (hw _ (List.mem_of_getElem? (i := 0) rfl)) rfl (hb hby at_1) ?_
  show own_Run p e below _ (T.setTop (mkF m 3 #[.val (.int p1), .val (.int p2), .unset, .unset, .unset, .unset, .unset, .unset, .unset, .unset, .unset, .unset, .unset] [(.int (2147483647 : Int32)), (.int p1)]))
  refine own_go (fun _ kS => XS.iand X.here hx rfl (hb hby at_3) rfl kS) ?_
  show own_Run p e below _ (T.setTop (mkF m 4 #[.val (.int p1), .val (.int p2), .unset, .unset, .unset, .unset, .unset, .unset, .unset, .unset, .unset, .unset, .unset] [(.int (p1 &&& (2147483647 : Int32)))]))
  refine own_go (fun _ kS => XS.sipush X.here hx rfl (hb hby at_4) kS) ?_
  show own_Run p e below _ (T.setTop (mkF m 7 #[.val (.int p1), .val (.int p2), .unset, .unset, .unset, .unset, .unset, .unset, .unset, .unset, .unset, .unset, .unset] [(.int (16385 : Int32)), (.int (p1 &&& (2147483647 : Int32)))]))
  refine own_go (fun _ kS => iremM X hx rfl (hb hby at_7) rfl (by decide) kS) ?_
  show own_Run p e below _ (T.setTop (mkF m 8 #[.val (.int p1), .val (.int p2), .unset, .unset, .unset, .unset, .unset, .unset, .unset, .unset, .unset, .unset, .unset] [(.int ((p1 &&& (2147483647 : Int32)) % (16385 : Int32)))]))
  refine own_go (fun _ kS => XS.istoreN X.here hx rfl (hb hby at_8) rfl (l' := #[.val (.int p1), .val (.int p2), .val (.int ((p1 &&& (2147483647 : Int32)) % (16385 : Int32))), .unset, .unset, .unset, .unset, .unset, .unset, .unset, .unset, .unset, .unset]) rfl kS) ?_
  show own_Run p e below _ (T.setTop (mkF m 9 #[.val (.int p1), .val (.int p2), .val (.int ((p1 &&& (2147483647 : Int32)) % (16385 : Int32))), .unset, .unset, .unset, .unset, .unset, .unset, .unset, .unset, .unset, .unset] []))
  generalize e_wv : ((p1 &&& (2147483647 : Int32)) % (16385 : Int32)) = wv
  have r_wv := e_wv ▸ own_rem p1
  obtain ⟨nw, hwn⟩ : ∃ q : Nat, wv.toInt = q := ⟨wv.toInt.toNat, by omega⟩
  refine own_go (fun _ kS => XS.iloadN X.here hx rfl (hb hby at_9) rfl kS) ?_
  show own_Run p e below _ (T.setTop (mkF m 10 #[.val (.int p1), .val (.int p2), .val (.int wv), .unset, .unset, .unset, .unset, .unset, .unset, .unset, .unset, .unset, .unset] [(.int p2)]))
  refine own_go (fun _ kS => XS.iconst X.here hx rfl (hb hby at_10) kS) ?_
  show own_Run p e below _ (T.setTop (mkF m 11 #[.val (.int p1), .val (.int p2), .val (.int wv), .unset, .unset, .unset, .unset, .unset, .unset, .unset, .unset, .unset, .unset] [(.int (3 : Int32)), (.int p2)]))
  refine own_go (fun _ kS => XS.iand X.here hx rfl (hb hby at_11) rfl kS) ?_
  show own_Run p e below _ (T.setTop (mkF m 12 #[.val (.int p1), .val (.int p2), .val (.int wv), .unset, .unset, .unset, .unset, .unset, .unset, .unset, .unset, .unset, .unset] [(.int (p2 &&& (3 : Int32)))]))
  refine own_go (fun _ kS => XS.istoreN X.here hx rfl (hb hby at_12) rfl (l' := #[.val (.int p1), .val (.int p2), .val (.int wv), .val (.int (p2 &&& (3 : Int32))), .unset, .unset, .unset, .unset, .unset, .unset, .unset, .unset, .unset]) rfl kS) ?_
  show own_Run p e below _ (T.setTop (mkF m 13 #[.val (.int p1), .val (.int p2), .val (.int wv), .val (.int (p2 &&& (3 : Int32))), .unset, .unset, .unset, .unset, .unset, .unset, .unset, .unset, .unset] []))
  generalize e_nv : (p2 &&& (3 : Int32)) = nv
  refine own_go (fun _ kS => XS.iloadN X.here hx rfl (hb hby at_13) rfl kS) ?_
  show own_Run p e below _ (T.setTop (mkF m 14 #[.val (.int p1), .val (.int p2), .val (.int wv), .val (.int nv), .unset, .unset, .unset, .unset, .unset, .unset, .unset, .unset, .unset] [(.int p2)]))
  refine own_go (fun _ kS => XS.iconst X.here hx rfl (hb hby at_14) kS) ?_
  show own_Run p e below _ (T.setTop (mkF m 15 #[.val (.int p1), .val (.int p2), .val (.int wv), .val (.int nv), .unset, .unset, .unset, .unset, .unset, .unset, .unset, .unset, .unset] [(.int (2 : Int32)), (.int p2)]))
  refine own_go (fun _ kS => XS.iushr X.here hx rfl (hb hby at_15) rfl kS) ?_
  show own_Run p e below _ (T.setTop (mkF m 16 #[.val (.int p1), .val (.int p2), .val (.int wv), .val (.int nv), .unset, .unset, .unset, .unset, .unset, .unset, .unset, .unset, .unset] [(.int ((p2.toUInt32 >>> ((2 : Int32) &&& 31).toUInt32).toInt32))]))
  refine own_go (fun _ kS => XS.iconst X.here hx rfl (hb hby at_16) kS) ?_
  show own_Run p e below _ (T.setTop (mkF m 17 #[.val (.int p1), .val (.int p2), .val (.int wv), .val (.int nv), .unset, .unset, .unset, .unset, .unset, .unset, .unset, .unset, .unset] [(.int (3 : Int32)), (.int ((p2.toUInt32 >>> ((2 : Int32) &&& 31).toUInt32).toInt32))]))
  refine own_go (fun _ kS => XS.iand X.here hx rfl (hb hby at_17) rfl kS) ?_
  show own_Run p e below _ (T.setTop (mkF m 18 #[.val (.int p1), .val (.int p2), .val (.int wv), .val (.int nv), .unset, .unset, .unset, .unset, .unset, .unset, .unset, .unset, .unset] [(.int (((p2.toUInt32 >>> ((2 : Int32) &&& 31).toUInt32).toInt32) &&& (3 : Int32)))]))
  refine own_go (fun _ kS => XS.istore X.here hx rfl (hb hby at_18) rfl (l' := #[.val (.int p1), .val (.int p2), .val (.int wv), .val (.int nv), .val (.int (((p2.toUInt32 >>> ((2 : Int32) &&& 31).toUInt32).toInt32) &&& (3 : Int32))), .unset, .unset, .unset, .unset, .unset, .unset, .unset, .unset]) rfl kS) ?_
  show own_Run p e below _ (T.setTop (mkF m 20 #[.val (.int p1), .val (.int p2), .val (.int wv), .val (.int nv), .val (.int (((p2.toUInt32 >>> ((2 : Int32) &&& 31).toUInt32).toInt32) &&& (3 : Int32))), .unset, .unset, .unset, .unset, .unset, .unset, .unset, .unset] []))
  generalize e_d2 : (((p2.toUInt32 >>> ((2 : Int32) &&& 31).toUInt32).toInt32) &&& (3 : Int32)) = d2
  have r_d2 := e_d2 ▸ c_and _ 3 (by decide)
  obtain ⟨nd2, hnd2⟩ : ∃ q : Nat, d2.toInt = q := ⟨d2.toInt.toNat, by omega⟩
  refine own_go (fun _ kS => XS.iloadN X.here hx rfl (hb hby at_20) rfl kS) ?_
  show own_Run p e below _ (T.setTop (mkF m 21 #[.val (.int p1), .val (.int p2), .val (.int wv), .val (.int nv), .val (.int d2), .unset, .unset, .unset, .unset, .unset, .unset, .unset, .unset] [(.int p2)]))
  refine own_go (fun _ kS => XS.iconst X.here hx rfl (hb hby at_21) kS) ?_
  show own_Run p e below _ (T.setTop (mkF m 22 #[.val (.int p1), .val (.int p2), .val (.int wv), .val (.int nv), .val (.int d2), .unset, .unset, .unset, .unset, .unset, .unset, .unset, .unset] [(.int (4 : Int32)), (.int p2)]))
  refine own_go (fun _ kS => XS.iushr X.here hx rfl (hb hby at_22) rfl kS) ?_
  show own_Run p e below _ (T.setTop (mkF m 23 #[.val (.int p1), .val (.int p2), .val (.int wv), .val (.int nv), .val (.int d2), .unset, .unset, .unset, .unset, .unset, .unset, .unset, .unset] [(.int ((p2.toUInt32 >>> ((4 : Int32) &&& 31).toUInt32).toInt32))]))
  refine own_go (fun _ kS => XS.iconst X.here hx rfl (hb hby at_23) kS) ?_
  show own_Run p e below _ (T.setTop (mkF m 24 #[.val (.int p1), .val (.int p2), .val (.int wv), .val (.int nv), .val (.int d2), .unset, .unset, .unset, .unset, .unset, .unset, .unset, .unset] [(.int (3 : Int32)), (.int ((p2.toUInt32 >>> ((4 : Int32) &&& 31).toUInt32).toInt32))]))
  refine own_go (fun _ kS => XS.iand X.here hx rfl (hb hby at_24) rfl kS) ?_
  show own_Run p e below _ (T.setTop (mkF m 25 #[.val (.int p1), .val (.int p2), .val (.int wv), .val (.int nv), .val (.int d2), .unset, .unset, .unset, .unset, .unset, .unset, .unset, .unset] [(.int (((p2.toUInt32 >>> ((4 : Int32) &&& 31).toUInt32).toInt32) &&& (3 : Int32)))]))
  refine own_go (fun _ kS => XS.istore X.here hx rfl (hb hby at_25) rfl (l' := #[.val (.int p1), .val (.int p2), .val (.int wv), .val (.int nv), .val (.int d2), .val (.int (((p2.toUInt32 >>> ((4 : Int32) &&& 31).toUInt32).toInt32) &&& (3 : Int32))), .unset, .unset, .unset, .unset, .unset, .unset, .unset]) rfl kS) ?_
  show own_Run p e below _ (T.setTop (mkF m 27 #[.val (.int p1), .val (.int p2), .val (.int wv), .val (.int nv), .val (.int d2), .val (.int (((p2.toUInt32 >>> ((4 : Int32) &&& 31).toUInt32).toInt32) &&& (3 : Int32))), .unset, .unset, .unset, .unset, .unset, .unset, .unset] []))
  generalize e_d3 : (((p2.toUInt32 >>> ((4 : Int32) &&& 31).toUInt32).toInt32) &&& (3 : Int32)) = d3
  have r_d3 := e_d3 ▸ c_and _ 3 (by decide)
  obtain ⟨nd3, hnd3⟩ : ∃ q : Nat, d3.toInt = q := ⟨d3.toInt.toNat, by omega⟩
  obtain ⟨cz, ecz⟩ : ∃ q : Int32, q = own_max (16384 : Int32) ((1 : Int32) + wv) := ⟨_, rfl⟩
  have hcz0 := own_capv wv nw hwn (by omega)
  obtain ⟨nc, hcz⟩ : ∃ q : Nat, (own_max (16384 : Int32) ((1 : Int32) + wv)).toInt = q := ⟨(own_max (16384 : Int32) ((1 : Int32) + wv)).toInt.toNat, by omega⟩
  have hnw : nw ≤ 16384 := by omega
  have hnc : nc ≤ 16385 := by omega
  have hw1 : ((1 : Int32) + wv).toInt = ((1 + nw : Nat) : Int) := by have q1 := c_iadd (1 : Int32) wv; have q2 := rng32 ((1 : Int32) + wv); omega
  refine own_go (fun _ kS => XS.sipush X.here hx rfl (hb hby at_27) kS) ?_
  show own_Run p e below _ (T.setTop (mkF m 30 #[.val (.int p1), .val (.int p2), .val (.int wv), .val (.int nv), .val (.int d2), .val (.int d3), .unset, .unset, .unset, .unset, .unset, .unset, .unset] [(.int (16384 : Int32))]))
  refine own_newP X hx hZ e0 (hw _ (List.mem_of_getElem? (i := 1) rfl)) rfl (hb hby at_30) rfl 16384 16384 rfl (by decide) (by decide) (by decide) (by decide) "[I" rfl (fun b1 T1 h1 gb1 X1 e1 E1 A1 G1 => ?_)
  have g_b1 : n0 ≤ b1 := Nat.le_trans hz (Nat.le_of_eq gb1.symm)
  replace hz := Nat.le_trans hz E1.1
  replace A1 : own_Arr Z h1 b1 .int 16384 (fun _ => (.int (0 : Int32))) := A1
  show own_Run p e below _ (T1.setTop (mkF m 32 #[.val (.int p1), .val (.int p2), .val (.int wv), .val (.int nv), .val (.int d2), .val (.int d3), .unset, .unset, .unset, .unset, .unset, .unset, .unset] [(.ref b1)]))
  refine own_go (fun _ kS => XS.astore X1.here hx rfl (hb hby at_32) rfl rfl (l' := #[.val (.int p1), .val (.int p2), .val (.int wv), .val (.int nv), .val (.int d2), .val (.int d3), .val (.ref b1), .unset, .unset, .unset, .unset, .unset, .unset]) rfl kS) ?_
  show own_Run p e below _ (T1.setTop (mkF m 34 #[.val (.int p1), .val (.int p2), .val (.int wv), .val (.int nv), .val (.int d2), .val (.int d3), .val (.ref b1), .unset, .unset, .unset, .unset, .unset, .unset] []))
  refine own_go (fun _ kS => XS.sipush X1.here hx rfl (hb hby at_34) kS) ?_
  show own_Run p e below _ (T1.setTop (mkF m 37 #[.val (.int p1), .val (.int p2), .val (.int wv), .val (.int nv), .val (.int d2), .val (.int d3), .val (.ref b1), .unset, .unset, .unset, .unset, .unset, .unset] [(.int (16384 : Int32))]))
  refine own_newP X1 hx hZ e1 (hw _ (List.mem_of_getElem? (i := 1) rfl)) rfl (hb hby at_37) rfl 16384 16384 rfl (by decide) (by decide) (by decide) (by decide) "[I" rfl (fun b2 T2 h2 gb2 X2 e2 E2 A2 G2 => ?_)
  have ne_b1_b2 : b1 ≠ b2 := Nat.ne_of_lt (Nat.lt_of_lt_of_le A1.lt (Nat.le_of_eq gb2.symm))
  have g_b2 : n0 ≤ b2 := Nat.le_trans hz (Nat.le_of_eq gb2.symm)
  replace A1 := A1.ext E2
  replace hz := Nat.le_trans hz E2.1
  replace A2 : own_Arr Z h2 b2 .int 16384 (fun _ => (.int (0 : Int32))) := A2
  show own_Run p e below _ (T2.setTop (mkF m 39 #[.val (.int p1), .val (.int p2), .val (.int wv), .val (.int nv), .val (.int d2), .val (.int d3), .val (.ref b1), .unset, .unset, .unset, .unset, .unset, .unset] [(.ref b2)]))
  refine own_go (fun _ kS => XS.astore X2.here hx rfl (hb hby at_39) rfl rfl (l' := #[.val (.int p1), .val (.int p2), .val (.int wv), .val (.int nv), .val (.int d2), .val (.int d3), .val (.ref b1), .val (.ref b2), .unset, .unset, .unset, .unset, .unset]) rfl kS) ?_
  show own_Run p e below _ (T2.setTop (mkF m 41 #[.val (.int p1), .val (.int p2), .val (.int wv), .val (.int nv), .val (.int d2), .val (.int d3), .val (.ref b1), .val (.ref b2), .unset, .unset, .unset, .unset, .unset] []))
  replace A1 : own_Arr Z h2 b1 .int 16384 (fun k => .int ((fun _ => (0 : Int32)) k)) := A1.congr (fun k hk => rfl)
  replace A2 : own_Arr Z h2 b2 .int 16384 (fun k => .int ((fun _ => (0 : Int32)) k)) := A2.congr (fun k hk => rfl)
  refine own_newO X2 hx hZ e2 hown (hw _ (List.mem_of_getElem? (i := 2) rfl)) (hw _ (List.mem_of_getElem? (i := 3) rfl)) (hw _ (List.mem_of_getElem? (i := 4) rfl)) rfl (hb hby at_41) (by decide) (by decide) (fun b3 T3 h3 gb3 X3 e3 E3 A3 D3 => ?_)
  have ne_b1_b3 : b1 ≠ b3 := Nat.ne_of_lt (Nat.lt_of_lt_of_le A1.lt (Nat.le_of_eq gb3.symm))
  have ne_b2_b3 : b2 ≠ b3 := Nat.ne_of_lt (Nat.lt_of_lt_of_le A2.lt (Nat.le_of_eq gb3.symm))
  have g_b3 : n0 ≤ b3 := Nat.le_trans hz (Nat.le_of_eq gb3.symm)
  replace A1 := A1.ext E3
  replace A2 := A2.ext E3
  replace hz := Nat.le_trans hz E3.1
  have F3_width : Fld Z h3 b3 "com/example/smallscope/smallscope/Chunk" "width" "I" (.int (0 : Int32)) := D3 (Or.inr (hw _ (List.mem_of_getElem? (i := 12) rfl))) (ty := .int) (by decide)
  have F3_ints : Fld Z h3 b3 "com/example/smallscope/smallscope/Chunk" "ints" "[I" .null := D3 (Or.inr (hw _ (List.mem_of_getElem? (i := 18) rfl))) (ty := (.array .int)) (by decide)
  have F3_used : Fld Z h3 b3 "com/example/smallscope/smallscope/Chunk" "used" "I" (.int (0 : Int32)) := D3 (Or.inl (hw _ (List.mem_of_getElem? (i := 26) rfl))) (ty := .int) (by decide)
  have F3_count : Fld Z h3 b3 "com/example/smallscope/smallscope/Chunk" "count" "I" (.int (0 : Int32)) := D3 (Or.inl (hw _ (List.mem_of_getElem? (i := 33) rfl))) (ty := .int) (by decide)
  show own_Run p e below _ (T3.setTop (mkF m 44 #[.val (.int p1), .val (.int p2), .val (.int wv), .val (.int nv), .val (.int d2), .val (.int d3), .val (.ref b1), .val (.ref b2), .unset, .unset, .unset, .unset, .unset] [(.ref b3)]))
  refine own_go (fun _ kS => XS.dup X3.here hx rfl (hb hby at_44) rfl rfl kS) ?_
  show own_Run p e below _ (T3.setTop (mkF m 45 #[.val (.int p1), .val (.int p2), .val (.int wv), .val (.int nv), .val (.int d2), .val (.int d3), .val (.ref b1), .val (.ref b2), .unset, .unset, .unset, .unset, .unset] [(.ref b3), (.ref b3)]))
  refine own_go (fun _ kS => XS.iloadN X3.here hx rfl (hb hby at_45) rfl kS) ?_
  show own_Run p e below _ (T3.setTop (mkF m 46 #[.val (.int p1), .val (.int p2), .val (.int wv), .val (.int nv), .val (.int d2), .val (.int d3), .val (.ref b1), .val (.ref b2), .unset, .unset, .unset, .unset, .unset] [(.int wv), (.ref b3), (.ref b3)]))
  refine own_callN X3 hx hZ e3 hown (⟨"com/example/smallscope/smallscope/Chunk", "<init>", "(I)V"⟩ : MethodName) rfl (hw _ (List.mem_of_getElem? (i := 5) rfl)) (hw _ (List.mem_of_getElem? (i := 6) rfl)) (hw _ (List.mem_of_getElem? (i := 4) rfl)) (hw _ (List.mem_of_getElem? (i := 7) rfl)) (by decide) b3 [(.int wv)] [(.ref b3)] (rm_init l Z a0 hw b3 wv nc n0 h3 hz A3 g_b3 F3_width F3_ints F3_used F3_count hcz hnc) (by decide) 1 (by decide) (by decide) (by decide) rfl (by rw [hml]; rfl) (lenOf own_pd3 rfl) rfl (by show 2 * 0 + _ ≤ _; exact Nat.le_of_eq rfl) (hb hby at_46) (fun v4 h4 L4 T4 Q4 X4 e4 => ?_)
  obtain ⟨rfl, Nq4, Kq4, A4, F4_width, b4, g_b4, zq4, F4_ints, V4, F4_used, F4_count⟩ := Q4
  have ne_b1_b4 : b1 ≠ b4 := Nat.ne_of_lt (Nat.lt_of_lt_of_le A1.lt zq4)
  have ne_b2_b4 : b2 ≠ b4 := Nat.ne_of_lt (Nat.lt_of_lt_of_le A2.lt zq4)
  have ne_b3_b4 : b3 ≠ b4 := Nat.ne_of_lt (Nat.lt_of_lt_of_le A3.lt zq4)
  replace A1 := A1.keep Kq4 (ninS ne_b1_b3 nin0)
  replace A2 := A2.keep Kq4 (ninS ne_b2_b3 nin0)
  replace hz := Nat.le_trans hz Kq4.1
  replace N := N.app Nq4
  show own_Run p e below _ (T4.setTop (mkF m 49 #[.val (.int p1), .val (.int p2), .val (.int wv), .val (.int nv), .val (.int d2), .val (.int d3), .val (.ref b1), .val (.ref b2), .unset, .unset, .unset, .unset, .unset] [(.ref b3)]))
  replace F4_used : Fld Z h4 b3 "com/example/smallscope/smallscope/Chunk" "used" "I" (.int (Int32.ofInt ((0 : Nat) : Int))) := F4_used
  refine own_go (fun _ kS => XS.astore X4.here hx rfl (hb hby at_49) rfl rfl (l' := #[.val (.int p1), .val (.int p2), .val (.int wv), .val (.int nv), .val (.int d2), .val (.int d3), .val (.ref b1), .val (.ref b2), .val (.ref b3), .unset, .unset, .unset, .unset]) rfl kS) ?_
  show own_Run p e below _ (T4.setTop (mkF m 51 #[.val (.int p1), .val (.int p2), .val (.int wv), .val (.int nv), .val (.int d2), .val (.int d3), .val (.ref b1), .val (.ref b2), .val (.ref b3), .unset, .unset, .unset, .unset] []))
  refine own_go (fun _ kS => XS.sipush X4.here hx rfl (hb hby at_51) kS) ?_
  show own_Run p e below _ (T4.setTop (mkF m 54 #[.val (.int p1), .val (.int p2), .val (.int wv), .val (.int nv), .val (.int d2), .val (.int d3), .val (.ref b1), .val (.ref b2), .val (.ref b3), .unset, .unset, .unset, .unset] [(.int (16384 : Int32))]))
  refine own_go (fun _ kS => XS.iconst X4.here hx rfl (hb hby at_54) kS) ?_
  show own_Run p e below _ (T4.setTop (mkF m 55 #[.val (.int p1), .val (.int p2), .val (.int wv), .val (.int nv), .val (.int d2), .val (.int d3), .val (.ref b1), .val (.ref b2), .val (.ref b3), .unset, .unset, .unset, .unset] [(.int (1 : Int32)), (.int (16384 : Int32))]))
  refine own_go (fun _ kS => XS.iloadN X4.here hx rfl (hb hby at_55) rfl kS) ?_
  show own_Run p e below _ (T4.setTop (mkF m 56 #[.val (.int p1), .val (.int p2), .val (.int wv), .val (.int nv), .val (.int d2), .val (.int d3), .val (.ref b1), .val (.ref b2), .val (.ref b3), .unset, .unset, .unset, .unset] [(.int wv), (.int (1 : Int32)), (.int (16384 : Int32))]))
  refine own_go (fun _ kS => XS.iadd X4.here hx rfl (hb hby at_56) rfl kS) ?_
  show own_Run p e below _ (T4.setTop (mkF m 57 #[.val (.int p1), .val (.int p2), .val (.int wv), .val (.int nv), .val (.int d2), .val (.int d3), .val (.ref b1), .val (.ref b2), .val (.ref b3), .unset, .unset, .unset, .unset] [(.int ((1 : Int32) + wv)), (.int (16384 : Int32))]))
  refine own_callS X4 hx hZ e4 hown (⟨"java/lang/Math", "max", "(II)I"⟩ : MethodName) (hw _ (List.mem_of_getElem? (i := 19) rfl)) (hw _ (List.mem_of_getElem? (i := 14) rfl)) (hw _ (List.mem_of_getElem? (i := 15) rfl)) (hw _ (List.mem_of_getElem? (i := 16) rfl)) (by decide) [(.int (16384 : Int32)), (.int ((1 : Int32) + wv))] [] (rm_max l Z a0 hw (16384 : Int32) ((1 : Int32) + wv) h4) (by decide) 0 (by decide) (by decide) (by decide) rfl (by rw [hml]; rfl) (lenOf own_pd0 rfl) rfl (by show 2 * 0 + _ ≤ _; exact Nat.le_of_eq rfl) (hb hby at_57) (fun v5 h5 L5 T5 Q5 X5 e5 => ?_)
  obtain ⟨rfl, rfl, rfl⟩ := Q5
  replace N := N.app (Fr.nil n0)
  show own_Run p e below _ (T5.setTop (mkF m 60 #[.val (.int p1), .val (.int p2), .val (.int wv), .val (.int nv), .val (.int d2), .val (.int d3), .val (.ref b1), .val (.ref b2), .val (.ref b3), .unset, .unset, .unset, .unset] [(.int (own_max (16384 : Int32) ((1 : Int32) + wv)))]))
  rw [← ecz]
  rw [← ecz] at hcz
  refine own_go (fun _ kS => XS.istore X5.here hx rfl (hb hby at_60) rfl (l' := #[.val (.int p1), .val (.int p2), .val (.int wv), .val (.int nv), .val (.int d2), .val (.int d3), .val (.ref b1), .val (.ref b2), .val (.ref b3), .val (.int cz), .unset, .unset, .unset]) rfl kS) ?_
  show own_Run p e below _ (T5.setTop (mkF m 62 #[.val (.int p1), .val (.int p2), .val (.int wv), .val (.int nv), .val (.int d2), .val (.int d3), .val (.ref b1), .val (.ref b2), .val (.ref b3), .val (.int cz), .unset, .unset, .unset] []))
  refine own_go (fun _ kS => XS.iconst X5.here hx rfl (hb hby at_62) kS) ?_
  show own_Run p e below _ (T5.setTop (mkF m 63 #[.val (.int p1), .val (.int p2), .val (.int wv), .val (.int nv), .val (.int d2), .val (.int d3), .val (.ref b1), .val (.ref b2), .val (.ref b3), .val (.int cz), .unset, .unset, .unset] [(.int (0 : Int32))]))
  refine own_go (fun _ kS => XS.istore X5.here hx rfl (hb hby at_63) rfl (l' := #[.val (.int p1), .val (.int p2), .val (.int wv), .val (.int nv), .val (.int d2), .val (.int d3), .val (.ref b1), .val (.ref b2), .val (.ref b3), .val (.int cz), .val (.int (0 : Int32)), .unset, .unset]) rfl kS) ?_
  show own_Run p e below _ (T5.setTop (mkF m 65 #[.val (.int p1), .val (.int p2), .val (.int wv), .val (.int nv), .val (.int d2), .val (.int d3), .val (.ref b1), .val (.ref b2), .val (.ref b3), .val (.int cz), .val (.int (0 : Int32)), .unset, .unset] []))
  show own_Run p e below _ (T5.setTop (mkF m 65 #[.val (.int p1), .val (.int p2), .val (.int wv), .val (.int nv), .val (.int d2), .val (.int d3), .val (.ref b1), .val (.ref b2), .val (.ref b3), .val (.int cz), .val (.int (Int32.ofInt ((0 : Nat) : Int))), .unset, .unset] []))
  refine own_go (fun _ kS => XS.iload X5.here hx rfl (hb hby at_65) rfl kS) ?_
  show own_Run p e below _ (T5.setTop (mkF m 67 #[.val (.int p1), .val (.int p2), .val (.int wv), .val (.int nv), .val (.int d2), .val (.int d3), .val (.ref b1), .val (.ref b2), .val (.ref b3), .val (.int cz), .val (.int (Int32.ofInt ((0 : Nat) : Int))), .unset, .unset] [(.int cz)]))
  refine own_go (fun _ kS => XS.iload X5.here hx rfl (hb hby at_67) rfl kS) ?_
  show own_Run p e below _ (T5.setTop (mkF m 69 #[.val (.int p1), .val (.int p2), .val (.int wv), .val (.int nv), .val (.int d2), .val (.int d3), .val (.ref b1), .val (.ref b2), .val (.ref b3), .val (.int cz), .val (.int (Int32.ofInt ((0 : Nat) : Int))), .unset, .unset] [(.int (Int32.ofInt ((0 : Nat) : Int))), (.int cz)]))
  refine own_go (fun _ kS => XS.isub X5.here hx rfl (hb hby at_69) rfl kS) ?_
  show own_Run p e below _ (T5.setTop (mkF m 70 #[.val (.int p1), .val (.int p2), .val (.int wv), .val (.int nv), .val (.int d2), .val (.int d3), .val (.ref b1), .val (.ref b2), .val (.ref b3), .val (.int cz), .val (.int (Int32.ofInt ((0 : Nat) : Int))), .unset, .unset] [(.int (cz - (Int32.ofInt ((0 : Nat) : Int))))]))
  refine own_go (fun _ kS => XS.iconst X5.here hx rfl (hb hby at_70) kS) ?_
  show own_Run p e below _ (T5.setTop (mkF m 71 #[.val (.int p1), .val (.int p2), .val (.int wv), .val (.int nv), .val (.int d2), .val (.int d3), .val (.ref b1), .val (.ref b2), .val (.ref b3), .val (.int cz), .val (.int (Int32.ofInt ((0 : Nat) : Int))), .unset, .unset] [(.int (1 : Int32)), (.int (cz - (Int32.ofInt ((0 : Nat) : Int))))]))
  refine own_go (fun _ kS => XS.iloadN X5.here hx rfl (hb hby at_71) rfl kS) ?_
  show own_Run p e below _ (T5.setTop (mkF m 72 #[.val (.int p1), .val (.int p2), .val (.int wv), .val (.int nv), .val (.int d2), .val (.int d3), .val (.ref b1), .val (.ref b2), .val (.ref b3), .val (.int cz), .val (.int (Int32.ofInt ((0 : Nat) : Int))), .unset, .unset] [(.int wv), (.int (1 : Int32)), (.int (cz - (Int32.ofInt ((0 : Nat) : Int))))]))
  refine own_go (fun _ kS => XS.iadd X5.here hx rfl (hb hby at_72) rfl kS) ?_
  show own_Run p e below _ (T5.setTop (mkF m 73 #[.val (.int p1), .val (.int p2), .val (.int wv), .val (.int nv), .val (.int d2), .val (.int d3), .val (.ref b1), .val (.ref b2), .val (.ref b3), .val (.int cz), .val (.int (Int32.ofInt ((0 : Nat) : Int))), .unset, .unset] [(.int ((1 : Int32) + wv)), (.int (cz - (Int32.ofInt ((0 : Nat) : Int))))]))
  by_cases hc73 : (cz - (Int32.ofInt ((0 : Nat) : Int))) < ((1 : Int32) + wv)
  · refine own_go (fun _ kS => XS.icmpYes X5.here hx rfl (pc0 := 73) (pc' := 80) rfl (hb hby at_73) rfl (tlt hc73).1 (by decide) (by decide) kS) ?_
    show own_Run p e below _ (T5.setTop (mkF m 80 #[.val (.int p1), .val (.int p2), .val (.int wv), .val (.int nv), .val (.int d2), .val (.int d3), .val (.ref b1), .val (.ref b2), .val (.ref b3), .val (.int cz), .val (.int (Int32.ofInt ((0 : Nat) : Int))), .unset, .unset] []))
    refine own_go (fun _ kS => XS.iconst X5.here hx rfl (hb hby at_80) kS) ?_
    show own_Run p e below _ (T5.setTop (mkF m 81 #[.val (.int p1), .val (.int p2), .val (.int wv), .val (.int nv), .val (.int d2), .val (.int d3), .val (.ref b1), .val (.ref b2), .val (.ref b3), .val (.int cz), .val (.int (Int32.ofInt ((0 : Nat) : Int))), .unset, .unset] [(.int (0 : Int32))]))
    refine own_go (fun _ kS => XS.istore X5.here hx rfl (hb hby at_81) rfl (l' := #[.val (.int p1), .val (.int p2), .val (.int wv), .val (.int nv), .val (.int d2), .val (.int d3), .val (.ref b1), .val (.ref b2), .val (.ref b3), .val (.int cz), .val (.int (Int32.ofInt ((0 : Nat) : Int))), .val (.int (0 : Int32)), .unset]) rfl kS) ?_
    show own_Run p e below _ (T5.setTop (mkF m 83 #[.val (.int p1), .val (.int p2), .val (.int wv), .val (.int nv), .val (.int d2), .val (.int d3), .val (.ref b1), .val (.ref b2), .val (.ref b3), .val (.int cz), .val (.int (Int32.ofInt ((0 : Nat) : Int))), .val (.int (0 : Int32)), .unset] []))
    refine own_go (fun _ kS => XS.aload X5.here hx rfl (hb hby at_83) rfl rfl kS) ?_
    show own_Run p e below _ (T5.setTop (mkF m 85 #[.val (.int p1), .val (.int p2), .val (.int wv), .val (.int nv), .val (.int d2), .val (.int d3), .val (.ref b1), .val (.ref b2), .val (.ref b3), .val (.int cz), .val (.int (Int32.ofInt ((0 : Nat) : Int))), .val (.int (0 : Int32)), .unset] [(.ref b3)]))
    refine own_callV X5 hx hZ e5 hown (⟨"com/example/smallscope/smallscope/Chunk", "hasRoom", "()Z"⟩ : MethodName) (hw _ (List.mem_of_getElem? (i := 20) rfl)) (hw _ (List.mem_of_getElem? (i := 21) rfl)) (hw _ (List.mem_of_getElem? (i := 23) rfl)) (hw _ (List.mem_of_getElem? (i := 22) rfl)) (hw _ (List.mem_of_getElem? (i := 4) rfl)) (hw _ (List.mem_of_getElem? (i := 24) rfl)) (by decide) b3 A4 [] [] (rm_hr l Z a0 hw b3 (Int32.ofInt ((0 : Nat) : Int)) wv cz b4 nc (fun _ => .int (0 : Int32)) h4 F4_used F4_width F4_ints V4 hcz) (by decide) 0 (by decide) (by decide) (by decide) rfl (by rw [hml]; rfl) (lenOf own_pd4 rfl) rfl (by show 2 * 0 + _ ≤ _; exact Nat.le_of_eq rfl) (hb hby at_85) (fun v6 h6 L6 T6 Q6 X6 e6 => ?_)
    obtain ⟨rfl, rfl, rfl⟩ := Q6
    replace N := N.app (Fr.nil n0)
    show own_Run p e below _ (T6.setTop (mkF m 88 #[.val (.int p1), .val (.int p2), .val (.int wv), .val (.int nv), .val (.int d2), .val (.int d3), .val (.ref b1), .val (.ref b2), .val (.ref b3), .val (.int cz), .val (.int (Int32.ofInt ((0 : Nat) : Int))), .val (.int (0 : Int32)), .unset] [(.int (own_hr (Int32.ofInt ((0 : Nat) : Int)) wv cz))]))
    refine own_go (fun _ kS => XS.iload X6.here hx rfl (hb hby at_88) rfl kS) ?_
    show own_Run p e below _ (T6.setTop (mkF m 90 #[.val (.int p1), .val (.int p2), .val (.int wv), .val (.int nv), .val (.int d2), .val (.int d3), .val (.ref b1), .val (.ref b2), .val (.ref b3), .val (.int cz), .val (.int (Int32.ofInt ((0 : Nat) : Int))), .val (.int (0 : Int32)), .unset] [(.int (0 : Int32)), (.int (own_hr (Int32.ofInt ((0 : Nat) : Int)) wv cz))]))
    refine own_go (fun _ kS => XS.icmpNo X6.here hx rfl (hb hby at_90) rfl (teq (show (own_hr (Int32.ofInt ((0 : Nat) : Int)) wv cz) = (0 : Int32) from (own_hr0 wv cz nw nc (0) hwn hcz hw1 (by omega) hc73))).2 kS) ?_
    show own_Run p e below _ (T6.setTop (mkF m 93 #[.val (.int p1), .val (.int p2), .val (.int wv), .val (.int nv), .val (.int d2), .val (.int d3), .val (.ref b1), .val (.ref b2), .val (.ref b3), .val (.int cz), .val (.int (Int32.ofInt ((0 : Nat) : Int))), .val (.int (0 : Int32)), .unset] []))
    refine own_go (fun _ kS => XS.iconst X6.here hx rfl (hb hby at_93) kS) ?_
    show own_Run p e below _ (T6.setTop (mkF m 94 #[.val (.int p1), .val (.int p2), .val (.int wv), .val (.int nv), .val (.int d2), .val (.int d3), .val (.ref b1), .val (.ref b2), .val (.ref b3), .val (.int cz), .val (.int (Int32.ofInt ((0 : Nat) : Int))), .val (.int (0 : Int32)), .unset] [(.int (1 : Int32))]))
    refine own_go (fun _ kS => XS.goto X6.here hx rfl (pc0 := 94) (pc' := 98) rfl (hb hby at_94) (by decide) (by decide) kS) ?_
    show own_Run p e below _ (T6.setTop (mkF m 98 #[.val (.int p1), .val (.int p2), .val (.int wv), .val (.int nv), .val (.int d2), .val (.int d3), .val (.ref b1), .val (.ref b2), .val (.ref b3), .val (.int cz), .val (.int (Int32.ofInt ((0 : Nat) : Int))), .val (.int (0 : Int32)), .unset] [(.int (1 : Int32))]))
    refine own_go (fun _ kS => XS.istore X6.here hx rfl (hb hby at_98) rfl (l' := #[.val (.int p1), .val (.int p2), .val (.int wv), .val (.int nv), .val (.int d2), .val (.int d3), .val (.ref b1), .val (.ref b2), .val (.ref b3), .val (.int cz), .val (.int (Int32.ofInt ((0 : Nat) : Int))), .val (.int (0 : Int32)), .val (.int (1 : Int32))]) rfl kS) ?_
    show own_Run p e below _ (T6.setTop (mkF m 100 #[.val (.int p1), .val (.int p2), .val (.int wv), .val (.int nv), .val (.int d2), .val (.int d3), .val (.ref b1), .val (.ref b2), .val (.ref b3), .val (.int cz), .val (.int (Int32.ofInt ((0 : Nat) : Int))), .val (.int (0 : Int32)), .val (.int (1 : Int32))] []))
    refine own_go (fun _ kS => XS.iloadN X6.here hx rfl (hb hby at_100) rfl kS) ?_
    show own_Run p e below _ (T6.setTop (mkF m 101 #[.val (.int p1), .val (.int p2), .val (.int wv), .val (.int nv), .val (.int d2), .val (.int d3), .val (.ref b1), .val (.ref b2), .val (.ref b3), .val (.int cz), .val (.int (Int32.ofInt ((0 : Nat) : Int))), .val (.int (0 : Int32)), .val (.int (1 : Int32))] [(.int nv)]))
    refine own_go (fun _ kS => XS.iconst X6.here hx rfl (hb hby at_101) kS) ?_
    show own_Run p e below _ (T6.setTop (mkF m 102 #[.val (.int p1), .val (.int p2), .val (.int wv), .val (.int nv), .val (.int d2), .val (.int d3), .val (.ref b1), .val (.ref b2), .val (.ref b3), .val (.int cz), .val (.int (Int32.ofInt ((0 : Nat) : Int))), .val (.int (0 : Int32)), .val (.int (1 : Int32))] [(.int (1 : Int32)), (.int nv)]))
    by_cases hc102 : nv < (1 : Int32)
    · refine own_go (fun _ kS => XS.icmpYes X6.here hx rfl (pc0 := 102) (pc' := 376) rfl (hb hby at_102) rfl (tlt hc102).1 (by decide) (by decide) kS) ?_
      show own_Run p e below _ (T6.setTop (mkF m 376 #[.val (.int p1), .val (.int p2), .val (.int wv), .val (.int nv), .val (.int d2), .val (.int d3), .val (.ref b1), .val (.ref b2), .val (.ref b3), .val (.int cz), .val (.int (Int32.ofInt ((0 : Nat) : Int))), .val (.int (0 : Int32)), .val (.int (1 : Int32))] []))
      refine own_go (fun _ kS => XS.iload X6.here hx rfl (hb hby at_376) rfl kS) ?_
      show own_Run p e below _ (T6.setTop (mkF m 378 #[.val (.int p1), .val (.int p2), .val (.int wv), .val (.int nv), .val (.int d2), .val (.int d3), .val (.ref b1), .val (.ref b2), .val (.ref b3), .val (.int cz), .val (.int (Int32.ofInt ((0 : Nat) : Int))), .val (.int (0 : Int32)), .val (.int (1 : Int32))] [(.int (1 : Int32))]))
      refine own_retN X6 hx (t := .boolean) hret hlk (by simp) (hb hby at_378) (by decide) (by decide) ?_
      exact ⟨rfl, N⟩
    · refine own_go (fun _ kS => XS.icmpNo X6.here hx rfl (hb hby at_102) rfl (flt hc102).1 kS) ?_
      show own_Run p e below _ (T6.setTop (mkF m 105 #[.val (.int p1), .val (.int p2), .val (.int wv), .val (.int nv), .val (.int d2), .val (.int d3), .val (.ref b1), .val (.ref b2), .val (.ref b3), .val (.int cz), .val (.int (Int32.ofInt ((0 : Nat) : Int))), .val (.int (0 : Int32)), .val (.int (1 : Int32))] []))
      refine own_go (fun _ kS => XS.iload X6.here hx rfl (hb hby at_105) rfl kS) ?_
      show own_Run p e below _ (T6.setTop (mkF m 107 #[.val (.int p1), .val (.int p2), .val (.int wv), .val (.int nv), .val (.int d2), .val (.int d3), .val (.ref b1), .val (.ref b2), .val (.ref b3), .val (.int cz), .val (.int (Int32.ofInt ((0 : Nat) : Int))), .val (.int (0 : Int32)), .val (.int (1 : Int32))] [(.int (0 : Int32))]))
      refine own_go (fun _ kS => XS.ifYes X6.here hx rfl (pc0 := 107) (pc' := 376) rfl (hb hby at_107) rfl ((if0 _ _).trans (teq (show (0 : Int32) = (0 : Int32) from (by decide))).1) (by decide) (by decide) kS) ?_
      show own_Run p e below _ (T6.setTop (mkF m 376 #[.val (.int p1), .val (.int p2), .val (.int wv), .val (.int nv), .val (.int d2), .val (.int d3), .val (.ref b1), .val (.ref b2), .val (.ref b3), .val (.int cz), .val (.int (Int32.ofInt ((0 : Nat) : Int))), .val (.int (0 : Int32)), .val (.int (1 : Int32))] []))
      refine own_go (fun _ kS => XS.iload X6.here hx rfl (hb hby at_376) rfl kS) ?_
      show own_Run p e below _ (T6.setTop (mkF m 378 #[.val (.int p1), .val (.int p2), .val (.int wv), .val (.int nv), .val (.int d2), .val (.int d3), .val (.ref b1), .val (.ref b2), .val (.ref b3), .val (.int cz), .val (.int (Int32.ofInt ((0 : Nat) : Int))), .val (.int (0 : Int32)), .val (.int (1 : Int32))] [(.int (1 : Int32))]))
      refine own_retN X6 hx (t := .boolean) hret hlk (by simp) (hb hby at_378) (by decide) (by decide) ?_
      exact ⟨rfl, N⟩
  · refine own_go (fun _ kS => XS.icmpNo X5.here hx rfl (hb hby at_73) rfl (flt hc73).1 kS) ?_
    show own_Run p e below _ (T5.setTop (mkF m 76 #[.val (.int p1), .val (.int p2), .val (.int wv), .val (.int nv), .val (.int d2), .val (.int d3), .val (.ref b1), .val (.ref b2), .val (.ref b3), .val (.int cz), .val (.int (Int32.ofInt ((0 : Nat) : Int))), .unset, .unset] []))
    have hm0 : 0 + 1 + nw ≤ nc := own_rm wv cz nw nc (0) hwn hcz hw1 (by omega) hc73
    refine own_go (fun _ kS => XS.iconst X5.here hx rfl (hb hby at_76) kS) ?_
    show own_Run p e below _ (T5.setTop (mkF m 77 #[.val (.int p1), .val (.int p2), .val (.int wv), .val (.int nv), .val (.int d2), .val (.int d3), .val (.ref b1), .val (.ref b2), .val (.ref b3), .val (.int cz), .val (.int (Int32.ofInt ((0 : Nat) : Int))), .unset, .unset] [(.int (1 : Int32))]))
    refine own_go (fun _ kS => XS.goto X5.here hx rfl (pc0 := 77) (pc' := 81) rfl (hb hby at_77) (by decide) (by decide) kS) ?_
    show own_Run p e below _ (T5.setTop (mkF m 81 #[.val (.int p1), .val (.int p2), .val (.int wv), .val (.int nv), .val (.int d2), .val (.int d3), .val (.ref b1), .val (.ref b2), .val (.ref b3), .val (.int cz), .val (.int (Int32.ofInt ((0 : Nat) : Int))), .unset, .unset] [(.int (1 : Int32))]))
    refine own_go (fun _ kS => XS.istore X5.here hx rfl (hb hby at_81) rfl (l' := #[.val (.int p1), .val (.int p2), .val (.int wv), .val (.int nv), .val (.int d2), .val (.int d3), .val (.ref b1), .val (.ref b2), .val (.ref b3), .val (.int cz), .val (.int (Int32.ofInt ((0 : Nat) : Int))), .val (.int (1 : Int32)), .unset]) rfl kS) ?_
    show own_Run p e below _ (T5.setTop (mkF m 83 #[.val (.int p1), .val (.int p2), .val (.int wv), .val (.int nv), .val (.int d2), .val (.int d3), .val (.ref b1), .val (.ref b2), .val (.ref b3), .val (.int cz), .val (.int (Int32.ofInt ((0 : Nat) : Int))), .val (.int (1 : Int32)), .unset] []))
    refine own_go (fun _ kS => XS.aload X5.here hx rfl (hb hby at_83) rfl rfl kS) ?_
    show own_Run p e below _ (T5.setTop (mkF m 85 #[.val (.int p1), .val (.int p2), .val (.int wv), .val (.int nv), .val (.int d2), .val (.int d3), .val (.ref b1), .val (.ref b2), .val (.ref b3), .val (.int cz), .val (.int (Int32.ofInt ((0 : Nat) : Int))), .val (.int (1 : Int32)), .unset] [(.ref b3)]))
    refine own_callV X5 hx hZ e5 hown (⟨"com/example/smallscope/smallscope/Chunk", "hasRoom", "()Z"⟩ : MethodName) (hw _ (List.mem_of_getElem? (i := 20) rfl)) (hw _ (List.mem_of_getElem? (i := 21) rfl)) (hw _ (List.mem_of_getElem? (i := 23) rfl)) (hw _ (List.mem_of_getElem? (i := 22) rfl)) (hw _ (List.mem_of_getElem? (i := 4) rfl)) (hw _ (List.mem_of_getElem? (i := 24) rfl)) (by decide) b3 A4 [] [] (rm_hr l Z a0 hw b3 (Int32.ofInt ((0 : Nat) : Int)) wv cz b4 nc (fun _ => .int (0 : Int32)) h4 F4_used F4_width F4_ints V4 hcz) (by decide) 0 (by decide) (by decide) (by decide) rfl (by rw [hml]; rfl) (lenOf own_pd4 rfl) rfl (by show 2 * 0 + _ ≤ _; exact Nat.le_of_eq rfl) (hb hby at_85) (fun v7 h7 L7 T7 Q7 X7 e7 => ?_)
    obtain ⟨rfl, rfl, rfl⟩ := Q7
    replace N := N.app (Fr.nil n0)
    show own_Run p e below _ (T7.setTop (mkF m 88 #[.val (.int p1), .val (.int p2), .val (.int wv), .val (.int nv), .val (.int d2), .val (.int d3), .val (.ref b1), .val (.ref b2), .val (.ref b3), .val (.int cz), .val (.int (Int32.ofInt ((0 : Nat) : Int))), .val (.int (1 : Int32)), .unset] [(.int (own_hr (Int32.ofInt ((0 : Nat) : Int)) wv cz))]))
    refine own_go (fun _ kS => XS.iload X7.here hx rfl (hb hby at_88) rfl kS) ?_
    show own_Run p e below _ (T7.setTop (mkF m 90 #[.val (.int p1), .val (.int p2), .val (.int wv), .val (.int nv), .val (.int d2), .val (.int d3), .val (.ref b1), .val (.ref b2), .val (.ref b3), .val (.int cz), .val (.int (Int32.ofInt ((0 : Nat) : Int))), .val (.int (1 : Int32)), .unset] [(.int (1 : Int32)), (.int (own_hr (Int32.ofInt ((0 : Nat) : Int)) wv cz))]))
    refine own_go (fun _ kS => XS.icmpNo X7.here hx rfl (hb hby at_90) rfl (teq (show (own_hr (Int32.ofInt ((0 : Nat) : Int)) wv cz) = (1 : Int32) from (own_hr1 wv cz nw nc (0) hwn hcz hw1 (by omega) hc73))).2 kS) ?_
    show own_Run p e below _ (T7.setTop (mkF m 93 #[.val (.int p1), .val (.int p2), .val (.int wv), .val (.int nv), .val (.int d2), .val (.int d3), .val (.ref b1), .val (.ref b2), .val (.ref b3), .val (.int cz), .val (.int (Int32.ofInt ((0 : Nat) : Int))), .val (.int (1 : Int32)), .unset] []))
    refine own_go (fun _ kS => XS.iconst X7.here hx rfl (hb hby at_93) kS) ?_
    show own_Run p e below _ (T7.setTop (mkF m 94 #[.val (.int p1), .val (.int p2), .val (.int wv), .val (.int nv), .val (.int d2), .val (.int d3), .val (.ref b1), .val (.ref b2), .val (.ref b3), .val (.int cz), .val (.int (Int32.ofInt ((0 : Nat) : Int))), .val (.int (1 : Int32)), .unset] [(.int (1 : Int32))]))
    refine own_go (fun _ kS => XS.goto X7.here hx rfl (pc0 := 94) (pc' := 98) rfl (hb hby at_94) (by decide) (by decide) kS) ?_
    show own_Run p e below _ (T7.setTop (mkF m 98 #[.val (.int p1), .val (.int p2), .val (.int wv), .val (.int nv), .val (.int d2), .val (.int d3), .val (.ref b1), .val (.ref b2), .val (.ref b3), .val (.int cz), .val (.int (Int32.ofInt ((0 : Nat) : Int))), .val (.int (1 : Int32)), .unset] [(.int (1 : Int32))]))
    refine own_go (fun _ kS => XS.istore X7.here hx rfl (hb hby at_98) rfl (l' := #[.val (.int p1), .val (.int p2), .val (.int wv), .val (.int nv), .val (.int d2), .val (.int d3), .val (.ref b1), .val (.ref b2), .val (.ref b3), .val (.int cz), .val (.int (Int32.ofInt ((0 : Nat) : Int))), .val (.int (1 : Int32)), .val (.int (1 : Int32))]) rfl kS) ?_
    show own_Run p e below _ (T7.setTop (mkF m 100 #[.val (.int p1), .val (.int p2), .val (.int wv), .val (.int nv), .val (.int d2), .val (.int d3), .val (.ref b1), .val (.ref b2), .val (.ref b3), .val (.int cz), .val (.int (Int32.ofInt ((0 : Nat) : Int))), .val (.int (1 : Int32)), .val (.int (1 : Int32))] []))
    refine own_go (fun _ kS => XS.iloadN X7.here hx rfl (hb hby at_100) rfl kS) ?_
    show own_Run p e below _ (T7.setTop (mkF m 101 #[.val (.int p1), .val (.int p2), .val (.int wv), .val (.int nv), .val (.int d2), .val (.int d3), .val (.ref b1), .val (.ref b2), .val (.ref b3), .val (.int cz), .val (.int (Int32.ofInt ((0 : Nat) : Int))), .val (.int (1 : Int32)), .val (.int (1 : Int32))] [(.int nv)]))
    refine own_go (fun _ kS => XS.iconst X7.here hx rfl (hb hby at_101) kS) ?_
    show own_Run p e below _ (T7.setTop (mkF m 102 #[.val (.int p1), .val (.int p2), .val (.int wv), .val (.int nv), .val (.int d2), .val (.int d3), .val (.ref b1), .val (.ref b2), .val (.ref b3), .val (.int cz), .val (.int (Int32.ofInt ((0 : Nat) : Int))), .val (.int (1 : Int32)), .val (.int (1 : Int32))] [(.int (1 : Int32)), (.int nv)]))
    by_cases hc102 : nv < (1 : Int32)
    · refine own_go (fun _ kS => XS.icmpYes X7.here hx rfl (pc0 := 102) (pc' := 376) rfl (hb hby at_102) rfl (tlt hc102).1 (by decide) (by decide) kS) ?_
      show own_Run p e below _ (T7.setTop (mkF m 376 #[.val (.int p1), .val (.int p2), .val (.int wv), .val (.int nv), .val (.int d2), .val (.int d3), .val (.ref b1), .val (.ref b2), .val (.ref b3), .val (.int cz), .val (.int (Int32.ofInt ((0 : Nat) : Int))), .val (.int (1 : Int32)), .val (.int (1 : Int32))] []))
      refine own_go (fun _ kS => XS.iload X7.here hx rfl (hb hby at_376) rfl kS) ?_
      show own_Run p e below _ (T7.setTop (mkF m 378 #[.val (.int p1), .val (.int p2), .val (.int wv), .val (.int nv), .val (.int d2), .val (.int d3), .val (.ref b1), .val (.ref b2), .val (.ref b3), .val (.int cz), .val (.int (Int32.ofInt ((0 : Nat) : Int))), .val (.int (1 : Int32)), .val (.int (1 : Int32))] [(.int (1 : Int32))]))
      refine own_retN X7 hx (t := .boolean) hret hlk (by simp) (hb hby at_378) (by decide) (by decide) ?_
      exact ⟨rfl, N⟩
    · refine own_go (fun _ kS => XS.icmpNo X7.here hx rfl (hb hby at_102) rfl (flt hc102).1 kS) ?_
      show own_Run p e below _ (T7.setTop (mkF m 105 #[.val (.int p1), .val (.int p2), .val (.int wv), .val (.int nv), .val (.int d2), .val (.int d3), .val (.ref b1), .val (.ref b2), .val (.ref b3), .val (.int cz), .val (.int (Int32.ofInt ((0 : Nat) : Int))), .val (.int (1 : Int32)), .val (.int (1 : Int32))] []))
      refine own_go (fun _ kS => XS.iload X7.here hx rfl (hb hby at_105) rfl kS) ?_
      show own_Run p e below _ (T7.setTop (mkF m 107 #[.val (.int p1), .val (.int p2), .val (.int wv), .val (.int nv), .val (.int d2), .val (.int d3), .val (.ref b1), .val (.ref b2), .val (.ref b3), .val (.int cz), .val (.int (Int32.ofInt ((0 : Nat) : Int))), .val (.int (1 : Int32)), .val (.int (1 : Int32))] [(.int (1 : Int32))]))
      refine own_go (fun _ kS => XS.ifNo X7.here hx rfl (hb hby at_107) rfl ((if0 _ _).trans (feq (show ¬ ((1 : Int32) = (0 : Int32)) from (by decide))).1) kS) ?_
      show own_Run p e below _ (T7.setTop (mkF m 110 #[.val (.int p1), .val (.int p2), .val (.int wv), .val (.int nv), .val (.int d2), .val (.int d3), .val (.ref b1), .val (.ref b2), .val (.ref b3), .val (.int cz), .val (.int (Int32.ofInt ((0 : Nat) : Int))), .val (.int (1 : Int32)), .val (.int (1 : Int32))] []))
      refine own_go (fun _ kS => XS.aload X7.here hx rfl (hb hby at_110) rfl rfl kS) ?_
      show own_Run p e below _ (T7.setTop (mkF m 112 #[.val (.int p1), .val (.int p2), .val (.int wv), .val (.int nv), .val (.int d2), .val (.int d3), .val (.ref b1), .val (.ref b2), .val (.ref b3), .val (.int cz), .val (.int (Int32.ofInt ((0 : Nat) : Int))), .val (.int (1 : Int32)), .val (.int (1 : Int32))] [(.ref b3)]))
      refine own_go (fun _ kS => XS.aload X7.here hx rfl (hb hby at_112) rfl rfl kS) ?_
      show own_Run p e below _ (T7.setTop (mkF m 114 #[.val (.int p1), .val (.int p2), .val (.int wv), .val (.int nv), .val (.int d2), .val (.int d3), .val (.ref b1), .val (.ref b2), .val (.ref b3), .val (.int cz), .val (.int (Int32.ofInt ((0 : Nat) : Int))), .val (.int (1 : Int32)), .val (.int (1 : Int32))] [(.ref b1), (.ref b3)]))
      refine own_go (fun _ kS => XS.aload X7.here hx rfl (hb hby at_114) rfl rfl kS) ?_
      show own_Run p e below _ (T7.setTop (mkF m 116 #[.val (.int p1), .val (.int p2), .val (.int wv), .val (.int nv), .val (.int d2), .val (.int d3), .val (.ref b1), .val (.ref b2), .val (.ref b3), .val (.int cz), .val (.int (Int32.ofInt ((0 : Nat) : Int))), .val (.int (1 : Int32)), .val (.int (1 : Int32))] [(.ref b2), (.ref b1), (.ref b3)]))
      refine own_callV X7 hx hZ e7 hown (⟨"com/example/smallscope/smallscope/Chunk", "add", "([I[I)I"⟩ : MethodName) (hw _ (List.mem_of_getElem? (i := 27) rfl)) (hw _ (List.mem_of_getElem? (i := 28) rfl)) (hw _ (List.mem_of_getElem? (i := 30) rfl)) (hw _ (List.mem_of_getElem? (i := 29) rfl)) (hw _ (List.mem_of_getElem? (i := 4) rfl)) (hw _ (List.mem_of_getElem? (i := 31) rfl)) (by decide) b3 A4 [(.ref b1), (.ref b2)] [] (rm_add l Z a0 hw b3 b1 b2 wv (0 : Int32) b4 (0) nw nc 0 (fun _ => .int (0 : Int32)) ((fun _ => (0 : Int32))) ((fun _ => (0 : Int32))) n0 h4 hz A4 F4_width F4_ints F4_used F4_count V4 A1 A2 g_b3 g_b4 g_b2 (Ne.symm ne_b3_b4) ne_b1_b3 ne_b2_b3 ne_b1_b4 ne_b1_b2 ne_b2_b4 hwn hnw hm0 hnc (fun q => absurd rfl q)) (by decide) 0 (by decide) (by decide) (by decide) rfl (by rw [hml]; rfl) (lenOf own_pd5 rfl) rfl (by show 2 * 0 + _ ≤ _; exact Nat.le_of_eq rfl) (hb hby at_116) (fun v8 h8 L8 T8 Q8 X8 e8 => ?_)
      obtain ⟨rx8, L8x, rfl, Nq8, Kq8, A8, F8_width, F8_ints, F8_used, F8_count, ⟨fi8, V8⟩, Y8, hL8⟩ := Q8
      replace A1 := A1.keep Kq8 (ninS ne_b1_b3 (ninS ne_b1_b4 (ninS ne_b1_b2 nin0)))
      replace hz := Nat.le_trans hz Kq8.1
      replace N := N.app Nq8
      show own_Run p e below _ (T8.setTop (mkF m 119 #[.val (.int p1), .val (.int p2), .val (.int wv), .val (.int nv), .val (.int d2), .val (.int d3), .val (.ref b1), .val (.ref b2), .val (.ref b3), .val (.int cz), .val (.int (Int32.ofInt ((0 : Nat) : Int))), .val (.int (1 : Int32)), .val (.int (1 : Int32))] [(.int rx8)]))
      refine own_go (fun _ kS => XS.pop X8.here hx rfl (hb hby at_119) rfl rfl kS) ?_
      show own_Run p e below _ (T8.setTop (mkF m 120 #[.val (.int p1), .val (.int p2), .val (.int wv), .val (.int nv), .val (.int d2), .val (.int d3), .val (.ref b1), .val (.ref b2), .val (.ref b3), .val (.int cz), .val (.int (Int32.ofInt ((0 : Nat) : Int))), .val (.int (1 : Int32)), .val (.int (1 : Int32))] []))
      refine own_go (fun _ kS => XS.iload X8.here hx rfl (hb hby at_120) rfl kS) ?_
      show own_Run p e below _ (T8.setTop (mkF m 122 #[.val (.int p1), .val (.int p2), .val (.int wv), .val (.int nv), .val (.int d2), .val (.int d3), .val (.ref b1), .val (.ref b2), .val (.ref b3), .val (.int cz), .val (.int (Int32.ofInt ((0 : Nat) : Int))), .val (.int (1 : Int32)), .val (.int (1 : Int32))] [(.int (Int32.ofInt ((0 : Nat) : Int)))]))
      refine own_go (fun _ kS => XS.iconst X8.here hx rfl (hb hby at_122) kS) ?_
      show own_Run p e below _ (T8.setTop (mkF m 123 #[.val (.int p1), .val (.int p2), .val (.int wv), .val (.int nv), .val (.int d2), .val (.int d3), .val (.ref b1), .val (.ref b2), .val (.ref b3), .val (.int cz), .val (.int (Int32.ofInt ((0 : Nat) : Int))), .val (.int (1 : Int32)), .val (.int (1 : Int32))] [(.int (1 : Int32)), (.int (Int32.ofInt ((0 : Nat) : Int)))]))
      refine own_go (fun _ kS => XS.iadd X8.here hx rfl (hb hby at_123) rfl kS) ?_
      show own_Run p e below _ (T8.setTop (mkF m 124 #[.val (.int p1), .val (.int p2), .val (.int wv), .val (.int nv), .val (.int d2), .val (.int d3), .val (.ref b1), .val (.ref b2), .val (.ref b3), .val (.int cz), .val (.int (Int32.ofInt ((0 : Nat) : Int))), .val (.int (1 : Int32)), .val (.int (1 : Int32))] [(.int ((Int32.ofInt ((0 : Nat) : Int)) + (1 : Int32)))]))
      refine own_go (fun _ kS => XS.iloadN X8.here hx rfl (hb hby at_124) rfl kS) ?_
      show own_Run p e below _ (T8.setTop (mkF m 125 #[.val (.int p1), .val (.int p2), .val (.int wv), .val (.int nv), .val (.int d2), .val (.int d3), .val (.ref b1), .val (.ref b2), .val (.ref b3), .val (.int cz), .val (.int (Int32.ofInt ((0 : Nat) : Int))), .val (.int (1 : Int32)), .val (.int (1 : Int32))] [(.int wv), (.int ((Int32.ofInt ((0 : Nat) : Int)) + (1 : Int32)))]))
      refine own_go (fun _ kS => XS.iadd X8.here hx rfl (hb hby at_125) rfl kS) ?_
      show own_Run p e below _ (T8.setTop (mkF m 126 #[.val (.int p1), .val (.int p2), .val (.int wv), .val (.int nv), .val (.int d2), .val (.int d3), .val (.ref b1), .val (.ref b2), .val (.ref b3), .val (.int cz), .val (.int (Int32.ofInt ((0 : Nat) : Int))), .val (.int (1 : Int32)), .val (.int (1 : Int32))] [(.int (((Int32.ofInt ((0 : Nat) : Int)) + (1 : Int32)) + wv))]))
      refine own_go (fun _ kS => XS.istore X8.here hx rfl (hb hby at_126) rfl (l' := #[.val (.int p1), .val (.int p2), .val (.int wv), .val (.int nv), .val (.int d2), .val (.int d3), .val (.ref b1), .val (.ref b2), .val (.ref b3), .val (.int cz), .val (.int (((Int32.ofInt ((0 : Nat) : Int)) + (1 : Int32)) + wv)), .val (.int (1 : Int32)), .val (.int (1 : Int32))]) rfl kS) ?_
      show own_Run p e below _ (T8.setTop (mkF m 128 #[.val (.int p1), .val (.int p2), .val (.int wv), .val (.int nv), .val (.int d2), .val (.int d3), .val (.ref b1), .val (.ref b2), .val (.ref b3), .val (.int cz), .val (.int (((Int32.ofInt ((0 : Nat) : Int)) + (1 : Int32)) + wv)), .val (.int (1 : Int32)), .val (.int (1 : Int32))] []))
      obtain ⟨n1, hn1⟩ : ∃ q : Nat, q = own_use (0 : Int32) (0) nw 0 := ⟨_, rfl⟩
      have hb_n1 := own_useb_of hn1
      rw [← hn1] at F8_used
      rw [own_u1 wv nw n1 hwn hw1 (by omega) hn1]
      refine own_go (fun _ kS => XS.iload X8.here hx rfl (hb hby at_128) rfl kS) ?_
      show own_Run p e below _ (T8.setTop (mkF m 130 #[.val (.int p1), .val (.int p2), .val (.int wv), .val (.int nv), .val (.int d2), .val (.int d3), .val (.ref b1), .val (.ref b2), .val (.ref b3), .val (.int cz), .val (.int (Int32.ofInt ((n1 : Nat) : Int))), .val (.int (1 : Int32)), .val (.int (1 : Int32))] [(.int cz)]))
      refine own_go (fun _ kS => XS.iload X8.here hx rfl (hb hby at_130) rfl kS) ?_
      show own_Run p e below _ (T8.setTop (mkF m 132 #[.val (.int p1), .val (.int p2), .val (.int wv), .val (.int nv), .val (.int d2), .val (.int d3), .val (.ref b1), .val (.ref b2), .val (.ref b3), .val (.int cz), .val (.int (Int32.ofInt ((n1 : Nat) : Int))), .val (.int (1 : Int32)), .val (.int (1 : Int32))] [(.int (Int32.ofInt ((n1 : Nat) : Int))), (.int cz)]))
      refine own_go (fun _ kS => XS.isub X8.here hx rfl (hb hby at_132) rfl kS) ?_
      show own_Run p e below _ (T8.setTop (mkF m 133 #[.val (.int p1), .val (.int p2), .val (.int wv), .val (.int nv), .val (.int d2), .val (.int d3), .val (.ref b1), .val (.ref b2), .val (.ref b3), .val (.int cz), .val (.int (Int32.ofInt ((n1 : Nat) : Int))), .val (.int (1 : Int32)), .val (.int (1 : Int32))] [(.int (cz - (Int32.ofInt ((n1 : Nat) : Int))))]))
      refine own_go (fun _ kS => XS.iconst X8.here hx rfl (hb hby at_133) kS) ?_
      show own_Run p e below _ (T8.setTop (mkF m 134 #[.val (.int p1), .val (.int p2), .val (.int wv), .val (.int nv), .val (.int d2), .val (.int d3), .val (.ref b1), .val (.ref b2), .val (.ref b3), .val (.int cz), .val (.int (Int32.ofInt ((n1 : Nat) : Int))), .val (.int (1 : Int32)), .val (.int (1 : Int32))] [(.int (1 : Int32)), (.int (cz - (Int32.ofInt ((n1 : Nat) : Int))))]))
      refine own_go (fun _ kS => XS.iloadN X8.here hx rfl (hb hby at_134) rfl kS) ?_
      show own_Run p e below _ (T8.setTop (mkF m 135 #[.val (.int p1), .val (.int p2), .val (.int wv), .val (.int nv), .val (.int d2), .val (.int d3), .val (.ref b1), .val (.ref b2), .val (.ref b3), .val (.int cz), .val (.int (Int32.ofInt ((n1 : Nat) : Int))), .val (.int (1 : Int32)), .val (.int (1 : Int32))] [(.int wv), (.int (1 : Int32)), (.int (cz - (Int32.ofInt ((n1 : Nat) : Int))))]))
      refine own_go (fun _ kS => XS.iadd X8.here hx rfl (hb hby at_135) rfl kS) ?_
      show own_Run p e below _ (T8.setTop (mkF m 136 #[.val (.int p1), .val (.int p2), .val (.int wv), .val (.int nv), .val (.int d2), .val (.int d3), .val (.ref b1), .val (.ref b2), .val (.ref b3), .val (.int cz), .val (.int (Int32.ofInt ((n1 : Nat) : Int))), .val (.int (1 : Int32)), .val (.int (1 : Int32))] [(.int ((1 : Int32) + wv)), (.int (cz - (Int32.ofInt ((n1 : Nat) : Int))))]))
      by_cases hc136 : (cz - (Int32.ofInt ((n1 : Nat) : Int))) < ((1 : Int32) + wv)
      · refine own_go (fun _ kS => XS.icmpYes X8.here hx rfl (pc0 := 136) (pc' := 143) rfl (hb hby at_136) rfl (tlt hc136).1 (by decide) (by decide) kS) ?_
        show own_Run p e below _ (T8.setTop (mkF m 143 #[.val (.int p1), .val (.int p2), .val (.int wv), .val (.int nv), .val (.int d2), .val (.int d3), .val (.ref b1), .val (.ref b2), .val (.ref b3), .val (.int cz), .val (.int (Int32.ofInt ((n1 : Nat) : Int))), .val (.int (1 : Int32)), .val (.int (1 : Int32))] []))
        refine own_go (fun _ kS => XS.iconst X8.here hx rfl (hb hby at_143) kS) ?_
        show own_Run p e below _ (T8.setTop (mkF m 144 #[.val (.int p1), .val (.int p2), .val (.int wv), .val (.int nv), .val (.int d2), .val (.int d3), .val (.ref b1), .val (.ref b2), .val (.ref b3), .val (.int cz), .val (.int (Int32.ofInt ((n1 : Nat) : Int))), .val (.int (1 : Int32)), .val (.int (1 : Int32))] [(.int (0 : Int32))]))
        refine own_go (fun _ kS => XS.istore X8.here hx rfl (hb hby at_144) rfl (l' := #[.val (.int p1), .val (.int p2), .val (.int wv), .val (.int nv), .val (.int d2), .val (.int d3), .val (.ref b1), .val (.ref b2), .val (.ref b3), .val (.int cz), .val (.int (Int32.ofInt ((n1 : Nat) : Int))), .val (.int (0 : Int32)), .val (.int (1 : Int32))]) rfl kS) ?_
        show own_Run p e below _ (T8.setTop (mkF m 146 #[.val (.int p1), .val (.int p2), .val (.int wv), .val (.int nv), .val (.int d2), .val (.int d3), .val (.ref b1), .val (.ref b2), .val (.ref b3), .val (.int cz), .val (.int (Int32.ofInt ((n1 : Nat) : Int))), .val (.int (0 : Int32)), .val (.int (1 : Int32))] []))
        refine own_go (fun _ kS => XS.iload X8.here hx rfl (hb hby at_146) rfl kS) ?_
        show own_Run p e below _ (T8.setTop (mkF m 148 #[.val (.int p1), .val (.int p2), .val (.int wv), .val (.int nv), .val (.int d2), .val (.int d3), .val (.ref b1), .val (.ref b2), .val (.ref b3), .val (.int cz), .val (.int (Int32.ofInt ((n1 : Nat) : Int))), .val (.int (0 : Int32)), .val (.int (1 : Int32))] [(.int (1 : Int32))]))
        refine own_go (fun _ kS => XS.ifNo X8.here hx rfl (hb hby at_148) rfl ((if0 _ _).trans (feq (show ¬ ((1 : Int32) = (0 : Int32)) from (by decide))).1) kS) ?_
        show own_Run p e below _ (T8.setTop (mkF m 151 #[.val (.int p1), .val (.int p2), .val (.int wv), .val (.int nv), .val (.int d2), .val (.int d3), .val (.ref b1), .val (.ref b2), .val (.ref b3), .val (.int cz), .val (.int (Int32.ofInt ((n1 : Nat) : Int))), .val (.int (0 : Int32)), .val (.int (1 : Int32))] []))
        refine own_go (fun _ kS => XS.aload X8.here hx rfl (hb hby at_151) rfl rfl kS) ?_
        show own_Run p e below _ (T8.setTop (mkF m 153 #[.val (.int p1), .val (.int p2), .val (.int wv), .val (.int nv), .val (.int d2), .val (.int d3), .val (.ref b1), .val (.ref b2), .val (.ref b3), .val (.int cz), .val (.int (Int32.ofInt ((n1 : Nat) : Int))), .val (.int (0 : Int32)), .val (.int (1 : Int32))] [(.ref b3)]))
        refine own_callV X8 hx hZ e8 hown (⟨"com/example/smallscope/smallscope/Chunk", "hasRoom", "()Z"⟩ : MethodName) (hw _ (List.mem_of_getElem? (i := 20) rfl)) (hw _ (List.mem_of_getElem? (i := 21) rfl)) (hw _ (List.mem_of_getElem? (i := 23) rfl)) (hw _ (List.mem_of_getElem? (i := 22) rfl)) (hw _ (List.mem_of_getElem? (i := 4) rfl)) (hw _ (List.mem_of_getElem? (i := 24) rfl)) (by decide) b3 A8 [] [] (rm_hr l Z a0 hw b3 (Int32.ofInt ((n1 : Nat) : Int)) wv cz b4 nc fi8 h8 F8_used F8_width F8_ints V8 hcz) (by decide) 0 (by decide) (by decide) (by decide) rfl (by rw [hml]; rfl) (lenOf own_pd4 rfl) rfl (by show 2 * 0 + _ ≤ _; exact Nat.le_of_eq rfl) (hb hby at_153) (fun v9 h9 L9 T9 Q9 X9 e9 => ?_)
        obtain ⟨rfl, rfl, rfl⟩ := Q9
        replace N := N.app (Fr.nil n0)
        show own_Run p e below _ (T9.setTop (mkF m 156 #[.val (.int p1), .val (.int p2), .val (.int wv), .val (.int nv), .val (.int d2), .val (.int d3), .val (.ref b1), .val (.ref b2), .val (.ref b3), .val (.int cz), .val (.int (Int32.ofInt ((n1 : Nat) : Int))), .val (.int (0 : Int32)), .val (.int (1 : Int32))] [(.int (own_hr (Int32.ofInt ((n1 : Nat) : Int)) wv cz))]))
        refine own_go (fun _ kS => XS.iload X9.here hx rfl (hb hby at_156) rfl kS) ?_
        show own_Run p e below _ (T9.setTop (mkF m 158 #[.val (.int p1), .val (.int p2), .val (.int wv), .val (.int nv), .val (.int d2), .val (.int d3), .val (.ref b1), .val (.ref b2), .val (.ref b3), .val (.int cz), .val (.int (Int32.ofInt ((n1 : Nat) : Int))), .val (.int (0 : Int32)), .val (.int (1 : Int32))] [(.int (0 : Int32)), (.int (own_hr (Int32.ofInt ((n1 : Nat) : Int)) wv cz))]))
        refine own_go (fun _ kS => XS.icmpNo X9.here hx rfl (hb hby at_158) rfl (teq (show (own_hr (Int32.ofInt ((n1 : Nat) : Int)) wv cz) = (0 : Int32) from (own_hr0 wv cz nw nc (n1) hwn hcz hw1 (by omega) hc136))).2 kS) ?_
        show own_Run p e below _ (T9.setTop (mkF m 161 #[.val (.int p1), .val (.int p2), .val (.int wv), .val (.int nv), .val (.int d2), .val (.int d3), .val (.ref b1), .val (.ref b2), .val (.ref b3), .val (.int cz), .val (.int (Int32.ofInt ((n1 : Nat) : Int))), .val (.int (0 : Int32)), .val (.int (1 : Int32))] []))
        refine own_go (fun _ kS => XS.iconst X9.here hx rfl (hb hby at_161) kS) ?_
        show own_Run p e below _ (T9.setTop (mkF m 162 #[.val (.int p1), .val (.int p2), .val (.int wv), .val (.int nv), .val (.int d2), .val (.int d3), .val (.ref b1), .val (.ref b2), .val (.ref b3), .val (.int cz), .val (.int (Int32.ofInt ((n1 : Nat) : Int))), .val (.int (0 : Int32)), .val (.int (1 : Int32))] [(.int (1 : Int32))]))
        refine own_go (fun _ kS => XS.goto X9.here hx rfl (pc0 := 162) (pc' := 166) rfl (hb hby at_162) (by decide) (by decide) kS) ?_
        show own_Run p e below _ (T9.setTop (mkF m 166 #[.val (.int p1), .val (.int p2), .val (.int wv), .val (.int nv), .val (.int d2), .val (.int d3), .val (.ref b1), .val (.ref b2), .val (.ref b3), .val (.int cz), .val (.int (Int32.ofInt ((n1 : Nat) : Int))), .val (.int (0 : Int32)), .val (.int (1 : Int32))] [(.int (1 : Int32))]))
        refine own_go (fun _ kS => XS.istore X9.here hx rfl (hb hby at_166) rfl (l' := #[.val (.int p1), .val (.int p2), .val (.int wv), .val (.int nv), .val (.int d2), .val (.int d3), .val (.ref b1), .val (.ref b2), .val (.ref b3), .val (.int cz), .val (.int (Int32.ofInt ((n1 : Nat) : Int))), .val (.int (0 : Int32)), .val (.int (1 : Int32))]) rfl kS) ?_
        show own_Run p e below _ (T9.setTop (mkF m 168 #[.val (.int p1), .val (.int p2), .val (.int wv), .val (.int nv), .val (.int d2), .val (.int d3), .val (.ref b1), .val (.ref b2), .val (.ref b3), .val (.int cz), .val (.int (Int32.ofInt ((n1 : Nat) : Int))), .val (.int (0 : Int32)), .val (.int (1 : Int32))] []))
        refine own_go (fun _ kS => XS.iloadN X9.here hx rfl (hb hby at_168) rfl kS) ?_
        show own_Run p e below _ (T9.setTop (mkF m 169 #[.val (.int p1), .val (.int p2), .val (.int wv), .val (.int nv), .val (.int d2), .val (.int d3), .val (.ref b1), .val (.ref b2), .val (.ref b3), .val (.int cz), .val (.int (Int32.ofInt ((n1 : Nat) : Int))), .val (.int (0 : Int32)), .val (.int (1 : Int32))] [(.int nv)]))
        refine own_go (fun _ kS => XS.iconst X9.here hx rfl (hb hby at_169) kS) ?_
        show own_Run p e below _ (T9.setTop (mkF m 170 #[.val (.int p1), .val (.int p2), .val (.int wv), .val (.int nv), .val (.int d2), .val (.int d3), .val (.ref b1), .val (.ref b2), .val (.ref b3), .val (.int cz), .val (.int (Int32.ofInt ((n1 : Nat) : Int))), .val (.int (0 : Int32)), .val (.int (1 : Int32))] [(.int (2 : Int32)), (.int nv)]))
        by_cases hc170 : nv < (2 : Int32)
        · refine own_go (fun _ kS => XS.icmpYes X9.here hx rfl (pc0 := 170) (pc' := 376) rfl (hb hby at_170) rfl (tlt hc170).1 (by decide) (by decide) kS) ?_
          show own_Run p e below _ (T9.setTop (mkF m 376 #[.val (.int p1), .val (.int p2), .val (.int wv), .val (.int nv), .val (.int d2), .val (.int d3), .val (.ref b1), .val (.ref b2), .val (.ref b3), .val (.int cz), .val (.int (Int32.ofInt ((n1 : Nat) : Int))), .val (.int (0 : Int32)), .val (.int (1 : Int32))] []))
          refine own_go (fun _ kS => XS.iload X9.here hx rfl (hb hby at_376) rfl kS) ?_
          show own_Run p e below _ (T9.setTop (mkF m 378 #[.val (.int p1), .val (.int p2), .val (.int wv), .val (.int nv), .val (.int d2), .val (.int d3), .val (.ref b1), .val (.ref b2), .val (.ref b3), .val (.int cz), .val (.int (Int32.ofInt ((n1 : Nat) : Int))), .val (.int (0 : Int32)), .val (.int (1 : Int32))] [(.int (1 : Int32))]))
          refine own_retN X9 hx (t := .boolean) hret hlk (by simp) (hb hby at_378) (by decide) (by decide) ?_
          exact ⟨rfl, N⟩
        · refine own_go (fun _ kS => XS.icmpNo X9.here hx rfl (hb hby at_170) rfl (flt hc170).1 kS) ?_
          show own_Run p e below _ (T9.setTop (mkF m 173 #[.val (.int p1), .val (.int p2), .val (.int wv), .val (.int nv), .val (.int d2), .val (.int d3), .val (.ref b1), .val (.ref b2), .val (.ref b3), .val (.int cz), .val (.int (Int32.ofInt ((n1 : Nat) : Int))), .val (.int (0 : Int32)), .val (.int (1 : Int32))] []))
          refine own_go (fun _ kS => XS.iload X9.here hx rfl (hb hby at_173) rfl kS) ?_
          show own_Run p e below _ (T9.setTop (mkF m 175 #[.val (.int p1), .val (.int p2), .val (.int wv), .val (.int nv), .val (.int d2), .val (.int d3), .val (.ref b1), .val (.ref b2), .val (.ref b3), .val (.int cz), .val (.int (Int32.ofInt ((n1 : Nat) : Int))), .val (.int (0 : Int32)), .val (.int (1 : Int32))] [(.int (0 : Int32))]))
          refine own_go (fun _ kS => XS.ifYes X9.here hx rfl (pc0 := 175) (pc' := 376) rfl (hb hby at_175) rfl ((if0 _ _).trans (teq (show (0 : Int32) = (0 : Int32) from (by decide))).1) (by decide) (by decide) kS) ?_
          show own_Run p e below _ (T9.setTop (mkF m 376 #[.val (.int p1), .val (.int p2), .val (.int wv), .val (.int nv), .val (.int d2), .val (.int d3), .val (.ref b1), .val (.ref b2), .val (.ref b3), .val (.int cz), .val (.int (Int32.ofInt ((n1 : Nat) : Int))), .val (.int (0 : Int32)), .val (.int (1 : Int32))] []))
          refine own_go (fun _ kS => XS.iload X9.here hx rfl (hb hby at_376) rfl kS) ?_
          show own_Run p e below _ (T9.setTop (mkF m 378 #[.val (.int p1), .val (.int p2), .val (.int wv), .val (.int nv), .val (.int d2), .val (.int d3), .val (.ref b1), .val (.ref b2), .val (.ref b3), .val (.int cz), .val (.int (Int32.ofInt ((n1 : Nat) : Int))), .val (.int (0 : Int32)), .val (.int (1 : Int32))] [(.int (1 : Int32))]))
          refine own_retN X9 hx (t := .boolean) hret hlk (by simp) (hb hby at_378) (by decide) (by decide) ?_
          exact ⟨rfl, N⟩
      · refine own_go (fun _ kS => XS.icmpNo X8.here hx rfl (hb hby at_136) rfl (flt hc136).1 kS) ?_
        show own_Run p e below _ (T8.setTop (mkF m 139 #[.val (.int p1), .val (.int p2), .val (.int wv), .val (.int nv), .val (.int d2), .val (.int d3), .val (.ref b1), .val (.ref b2), .val (.ref b3), .val (.int cz), .val (.int (Int32.ofInt ((n1 : Nat) : Int))), .val (.int (1 : Int32)), .val (.int (1 : Int32))] []))
        have hm1 : n1 + 1 + nw ≤ nc := own_rm wv cz nw nc (n1) hwn hcz hw1 (by omega) hc136
        refine own_go (fun _ kS => XS.iconst X8.here hx rfl (hb hby at_139) kS) ?_
        show own_Run p e below _ (T8.setTop (mkF m 140 #[.val (.int p1), .val (.int p2), .val (.int wv), .val (.int nv), .val (.int d2), .val (.int d3), .val (.ref b1), .val (.ref b2), .val (.ref b3), .val (.int cz), .val (.int (Int32.ofInt ((n1 : Nat) : Int))), .val (.int (1 : Int32)), .val (.int (1 : Int32))] [(.int (1 : Int32))]))
        refine own_go (fun _ kS => XS.goto X8.here hx rfl (pc0 := 140) (pc' := 144) rfl (hb hby at_140) (by decide) (by decide) kS) ?_
        show own_Run p e below _ (T8.setTop (mkF m 144 #[.val (.int p1), .val (.int p2), .val (.int wv), .val (.int nv), .val (.int d2), .val (.int d3), .val (.ref b1), .val (.ref b2), .val (.ref b3), .val (.int cz), .val (.int (Int32.ofInt ((n1 : Nat) : Int))), .val (.int (1 : Int32)), .val (.int (1 : Int32))] [(.int (1 : Int32))]))
        refine own_go (fun _ kS => XS.istore X8.here hx rfl (hb hby at_144) rfl (l' := #[.val (.int p1), .val (.int p2), .val (.int wv), .val (.int nv), .val (.int d2), .val (.int d3), .val (.ref b1), .val (.ref b2), .val (.ref b3), .val (.int cz), .val (.int (Int32.ofInt ((n1 : Nat) : Int))), .val (.int (1 : Int32)), .val (.int (1 : Int32))]) rfl kS) ?_
        show own_Run p e below _ (T8.setTop (mkF m 146 #[.val (.int p1), .val (.int p2), .val (.int wv), .val (.int nv), .val (.int d2), .val (.int d3), .val (.ref b1), .val (.ref b2), .val (.ref b3), .val (.int cz), .val (.int (Int32.ofInt ((n1 : Nat) : Int))), .val (.int (1 : Int32)), .val (.int (1 : Int32))] []))
        refine own_go (fun _ kS => XS.iload X8.here hx rfl (hb hby at_146) rfl kS) ?_
        show own_Run p e below _ (T8.setTop (mkF m 148 #[.val (.int p1), .val (.int p2), .val (.int wv), .val (.int nv), .val (.int d2), .val (.int d3), .val (.ref b1), .val (.ref b2), .val (.ref b3), .val (.int cz), .val (.int (Int32.ofInt ((n1 : Nat) : Int))), .val (.int (1 : Int32)), .val (.int (1 : Int32))] [(.int (1 : Int32))]))
        refine own_go (fun _ kS => XS.ifNo X8.here hx rfl (hb hby at_148) rfl ((if0 _ _).trans (feq (show ¬ ((1 : Int32) = (0 : Int32)) from (by decide))).1) kS) ?_
        show own_Run p e below _ (T8.setTop (mkF m 151 #[.val (.int p1), .val (.int p2), .val (.int wv), .val (.int nv), .val (.int d2), .val (.int d3), .val (.ref b1), .val (.ref b2), .val (.ref b3), .val (.int cz), .val (.int (Int32.ofInt ((n1 : Nat) : Int))), .val (.int (1 : Int32)), .val (.int (1 : Int32))] []))
        refine own_go (fun _ kS => XS.aload X8.here hx rfl (hb hby at_151) rfl rfl kS) ?_
        show own_Run p e below _ (T8.setTop (mkF m 153 #[.val (.int p1), .val (.int p2), .val (.int wv), .val (.int nv), .val (.int d2), .val (.int d3), .val (.ref b1), .val (.ref b2), .val (.ref b3), .val (.int cz), .val (.int (Int32.ofInt ((n1 : Nat) : Int))), .val (.int (1 : Int32)), .val (.int (1 : Int32))] [(.ref b3)]))
        refine own_callV X8 hx hZ e8 hown (⟨"com/example/smallscope/smallscope/Chunk", "hasRoom", "()Z"⟩ : MethodName) (hw _ (List.mem_of_getElem? (i := 20) rfl)) (hw _ (List.mem_of_getElem? (i := 21) rfl)) (hw _ (List.mem_of_getElem? (i := 23) rfl)) (hw _ (List.mem_of_getElem? (i := 22) rfl)) (hw _ (List.mem_of_getElem? (i := 4) rfl)) (hw _ (List.mem_of_getElem? (i := 24) rfl)) (by decide) b3 A8 [] [] (rm_hr l Z a0 hw b3 (Int32.ofInt ((n1 : Nat) : Int)) wv cz b4 nc fi8 h8 F8_used F8_width F8_ints V8 hcz) (by decide) 0 (by decide) (by decide) (by decide) rfl (by rw [hml]; rfl) (lenOf own_pd4 rfl) rfl (by show 2 * 0 + _ ≤ _; exact Nat.le_of_eq rfl) (hb hby at_153) (fun v10 h10 L10 T10 Q10 X10 e10 => ?_)
        obtain ⟨rfl, rfl, rfl⟩ := Q10
        replace N := N.app (Fr.nil n0)
        show own_Run p e below _ (T10.setTop (mkF m 156 #[.val (.int p1), .val (.int p2), .val (.int wv), .val (.int nv), .val (.int d2), .val (.int d3), .val (.ref b1), .val (.ref b2), .val (.ref b3), .val (.int cz), .val (.int (Int32.ofInt ((n1 : Nat) : Int))), .val (.int (1 : Int32)), .val (.int (1 : Int32))] [(.int (own_hr (Int32.ofInt ((n1 : Nat) : Int)) wv cz))]))
        refine own_go (fun _ kS => XS.iload X10.here hx rfl (hb hby at_156) rfl kS) ?_
        show own_Run p e below _ (T10.setTop (mkF m 158 #[.val (.int p1), .val (.int p2), .val (.int wv), .val (.int nv), .val (.int d2), .val (.int d3), .val (.ref b1), .val (.ref b2), .val (.ref b3), .val (.int cz), .val (.int (Int32.ofInt ((n1 : Nat) : Int))), .val (.int (1 : Int32)), .val (.int (1 : Int32))] [(.int (1 : Int32)), (.int (own_hr (Int32.ofInt ((n1 : Nat) : Int)) wv cz))]))
        refine own_go (fun _ kS => XS.icmpNo X10.here hx rfl (hb hby at_158) rfl (teq (show (own_hr (Int32.ofInt ((n1 : Nat) : Int)) wv cz) = (1 : Int32) from (own_hr1 wv cz nw nc (n1) hwn hcz hw1 (by omega) hc136))).2 kS) ?_
        show own_Run p e below _ (T10.setTop (mkF m 161 #[.val (.int p1), .val (.int p2), .val (.int wv), .val (.int nv), .val (.int d2), .val (.int d3), .val (.ref b1), .val (.ref b2), .val (.ref b3), .val (.int cz), .val (.int (Int32.ofInt ((n1 : Nat) : Int))), .val (.int (1 : Int32)), .val (.int (1 : Int32))] []))
        refine own_go (fun _ kS => XS.iconst X10.here hx rfl (hb hby at_161) kS) ?_
        show own_Run p e below _ (T10.setTop (mkF m 162 #[.val (.int p1), .val (.int p2), .val (.int wv), .val (.int nv), .val (.int d2), .val (.int d3), .val (.ref b1), .val (.ref b2), .val (.ref b3), .val (.int cz), .val (.int (Int32.ofInt ((n1 : Nat) : Int))), .val (.int (1 : Int32)), .val (.int (1 : Int32))] [(.int (1 : Int32))]))
        refine own_go (fun _ kS => XS.goto X10.here hx rfl (pc0 := 162) (pc' := 166) rfl (hb hby at_162) (by decide) (by decide) kS) ?_
        show own_Run p e below _ (T10.setTop (mkF m 166 #[.val (.int p1), .val (.int p2), .val (.int wv), .val (.int nv), .val (.int d2), .val (.int d3), .val (.ref b1), .val (.ref b2), .val (.ref b3), .val (.int cz), .val (.int (Int32.ofInt ((n1 : Nat) : Int))), .val (.int (1 : Int32)), .val (.int (1 : Int32))] [(.int (1 : Int32))]))
        refine own_go (fun _ kS => XS.istore X10.here hx rfl (hb hby at_166) rfl (l' := #[.val (.int p1), .val (.int p2), .val (.int wv), .val (.int nv), .val (.int d2), .val (.int d3), .val (.ref b1), .val (.ref b2), .val (.ref b3), .val (.int cz), .val (.int (Int32.ofInt ((n1 : Nat) : Int))), .val (.int (1 : Int32)), .val (.int (1 : Int32))]) rfl kS) ?_
        show own_Run p e below _ (T10.setTop (mkF m 168 #[.val (.int p1), .val (.int p2), .val (.int wv), .val (.int nv), .val (.int d2), .val (.int d3), .val (.ref b1), .val (.ref b2), .val (.ref b3), .val (.int cz), .val (.int (Int32.ofInt ((n1 : Nat) : Int))), .val (.int (1 : Int32)), .val (.int (1 : Int32))] []))
        refine own_go (fun _ kS => XS.iloadN X10.here hx rfl (hb hby at_168) rfl kS) ?_
        show own_Run p e below _ (T10.setTop (mkF m 169 #[.val (.int p1), .val (.int p2), .val (.int wv), .val (.int nv), .val (.int d2), .val (.int d3), .val (.ref b1), .val (.ref b2), .val (.ref b3), .val (.int cz), .val (.int (Int32.ofInt ((n1 : Nat) : Int))), .val (.int (1 : Int32)), .val (.int (1 : Int32))] [(.int nv)]))
        refine own_go (fun _ kS => XS.iconst X10.here hx rfl (hb hby at_169) kS) ?_
        show own_Run p e below _ (T10.setTop (mkF m 170 #[.val (.int p1), .val (.int p2), .val (.int wv), .val (.int nv), .val (.int d2), .val (.int d3), .val (.ref b1), .val (.ref b2), .val (.ref b3), .val (.int cz), .val (.int (Int32.ofInt ((n1 : Nat) : Int))), .val (.int (1 : Int32)), .val (.int (1 : Int32))] [(.int (2 : Int32)), (.int nv)]))
        by_cases hc170 : nv < (2 : Int32)
        · refine own_go (fun _ kS => XS.icmpYes X10.here hx rfl (pc0 := 170) (pc' := 376) rfl (hb hby at_170) rfl (tlt hc170).1 (by decide) (by decide) kS) ?_
          show own_Run p e below _ (T10.setTop (mkF m 376 #[.val (.int p1), .val (.int p2), .val (.int wv), .val (.int nv), .val (.int d2), .val (.int d3), .val (.ref b1), .val (.ref b2), .val (.ref b3), .val (.int cz), .val (.int (Int32.ofInt ((n1 : Nat) : Int))), .val (.int (1 : Int32)), .val (.int (1 : Int32))] []))
          refine own_go (fun _ kS => XS.iload X10.here hx rfl (hb hby at_376) rfl kS) ?_
          show own_Run p e below _ (T10.setTop (mkF m 378 #[.val (.int p1), .val (.int p2), .val (.int wv), .val (.int nv), .val (.int d2), .val (.int d3), .val (.ref b1), .val (.ref b2), .val (.ref b3), .val (.int cz), .val (.int (Int32.ofInt ((n1 : Nat) : Int))), .val (.int (1 : Int32)), .val (.int (1 : Int32))] [(.int (1 : Int32))]))
          refine own_retN X10 hx (t := .boolean) hret hlk (by simp) (hb hby at_378) (by decide) (by decide) ?_
          exact ⟨rfl, N⟩
        · refine own_go (fun _ kS => XS.icmpNo X10.here hx rfl (hb hby at_170) rfl (flt hc170).1 kS) ?_
          show own_Run p e below _ (T10.setTop (mkF m 173 #[.val (.int p1), .val (.int p2), .val (.int wv), .val (.int nv), .val (.int d2), .val (.int d3), .val (.ref b1), .val (.ref b2), .val (.ref b3), .val (.int cz), .val (.int (Int32.ofInt ((n1 : Nat) : Int))), .val (.int (1 : Int32)), .val (.int (1 : Int32))] []))
          refine own_go (fun _ kS => XS.iload X10.here hx rfl (hb hby at_173) rfl kS) ?_
          show own_Run p e below _ (T10.setTop (mkF m 175 #[.val (.int p1), .val (.int p2), .val (.int wv), .val (.int nv), .val (.int d2), .val (.int d3), .val (.ref b1), .val (.ref b2), .val (.ref b3), .val (.int cz), .val (.int (Int32.ofInt ((n1 : Nat) : Int))), .val (.int (1 : Int32)), .val (.int (1 : Int32))] [(.int (1 : Int32))]))
          refine own_go (fun _ kS => XS.ifNo X10.here hx rfl (hb hby at_175) rfl ((if0 _ _).trans (feq (show ¬ ((1 : Int32) = (0 : Int32)) from (by decide))).1) kS) ?_
          show own_Run p e below _ (T10.setTop (mkF m 178 #[.val (.int p1), .val (.int p2), .val (.int wv), .val (.int nv), .val (.int d2), .val (.int d3), .val (.ref b1), .val (.ref b2), .val (.ref b3), .val (.int cz), .val (.int (Int32.ofInt ((n1 : Nat) : Int))), .val (.int (1 : Int32)), .val (.int (1 : Int32))] []))
          replace A1 : own_Arr Z h8 b1 .int 16384 (fun k => .int ((own_gs 0 nd2 (1 : Int32) (fun _ => (0 : Int32))) k)) := A1.congr (fun k hk => congrArg Value.int (own_gs0 nd2 (1 : Int32) (fun _ => (0 : Int32)) k).symm)
          refine own_go (fun _ kS => XS.iload X10.here hx rfl (hb hby at_178) rfl kS) ?_
          show own_Run p e below _ (T10.setTop (mkF m 180 #[.val (.int p1), .val (.int p2), .val (.int wv), .val (.int nv), .val (.int d2), .val (.int d3), .val (.ref b1), .val (.ref b2), .val (.ref b3), .val (.int cz), .val (.int (Int32.ofInt ((n1 : Nat) : Int))), .val (.int (1 : Int32)), .val (.int (1 : Int32))] [(.int d2)]))
          refine own_go (fun _ kS => XS.iconst X10.here hx rfl (hb hby at_180) kS) ?_
          show own_Run p e below _ (T10.setTop (mkF m 181 #[.val (.int p1), .val (.int p2), .val (.int wv), .val (.int nv), .val (.int d2), .val (.int d3), .val (.ref b1), .val (.ref b2), .val (.ref b3), .val (.int cz), .val (.int (Int32.ofInt ((n1 : Nat) : Int))), .val (.int (1 : Int32)), .val (.int (1 : Int32))] [(.int (1 : Int32)), (.int d2)]))
          have J189 : ∀  (T_189 : State) (h_189 : Heap) (locs_189 : List Loc), Stand p l e room_1 s m #[(.int p1), (.int p2)] below meth c T_189 locs_189 4 49158 → T_189.heap = h_189 → Fr n0 locs_189 → n0 ≤ h_189.size → own_Arr Z h_189 b1 .int 16384 (fun k => .int ((own_gs 1 nd2 (1 : Int32) (fun _ => (0 : Int32))) k)) → Exa Z h_189 b3 "com/example/smallscope/smallscope/Chunk" → Fld Z h_189 b3 "com/example/smallscope/smallscope/Chunk" "width" "I" (.int wv) → Fld Z h_189 b3 "com/example/smallscope/smallscope/Chunk" "ints" "[I" (.ref b4) → Fld Z h_189 b3 "com/example/smallscope/smallscope/Chunk" "used" "I" (.int (Int32.ofInt ((n1 : Nat) : Int))) → Fld Z h_189 b3 "com/example/smallscope/smallscope/Chunk" "count" "I" (.int ((0 : Int32) + (1 : Int32))) → own_Arr Z h_189 b4 .int nc fi8 → own_Arr Z h_189 b2 .int 16384 (fun k => .int (L8x k)) → own_Run p e below (own_End s room_1 (Q_law Z p1 p2 n0 h0)) (T_189.setTop (mkF m 189 #[.val (.int p1), .val (.int p2), .val (.int wv), .val (.int nv), .val (.int d2), .val (.int d3), .val (.ref b1), .val (.ref b2), .val (.ref b3), .val (.int cz), .val (.int (Int32.ofInt ((n1 : Nat) : Int))), .val (.int (1 : Int32)), .val (.int (1 : Int32))] [])) := by
            intro  T_189 h_189 locs_189 X_189 e_189 N hz A1 A8 F8_width F8_ints F8_used F8_count V8 Y8
            show own_Run p e below _ (T_189.setTop (mkF m 189 #[.val (.int p1), .val (.int p2), .val (.int wv), .val (.int nv), .val (.int d2), .val (.int d3), .val (.ref b1), .val (.ref b2), .val (.ref b3), .val (.int cz), .val (.int (Int32.ofInt ((n1 : Nat) : Int))), .val (.int (1 : Int32)), .val (.int (1 : Int32))] []))
            refine own_go (fun _ kS => XS.iload X_189.here hx rfl (hb hby at_189) rfl kS) ?_
            show own_Run p e below _ (T_189.setTop (mkF m 191 #[.val (.int p1), .val (.int p2), .val (.int wv), .val (.int nv), .val (.int d2), .val (.int d3), .val (.ref b1), .val (.ref b2), .val (.ref b3), .val (.int cz), .val (.int (Int32.ofInt ((n1 : Nat) : Int))), .val (.int (1 : Int32)), .val (.int (1 : Int32))] [(.int d2)]))
            refine own_go (fun _ kS => XS.iconst X_189.here hx rfl (hb hby at_191) kS) ?_
            show own_Run p e below _ (T_189.setTop (mkF m 192 #[.val (.int p1), .val (.int p2), .val (.int wv), .val (.int nv), .val (.int d2), .val (.int d3), .val (.ref b1), .val (.ref b2), .val (.ref b3), .val (.int cz), .val (.int (Int32.ofInt ((n1 : Nat) : Int))), .val (.int (1 : Int32)), .val (.int (1 : Int32))] [(.int (2 : Int32)), (.int d2)]))
            have J200 : ∀  (T_200 : State) (h_200 : Heap) (locs_200 : List Loc), Stand p l e room_1 s m #[(.int p1), (.int p2)] below meth c T_200 locs_200 4 49158 → T_200.heap = h_200 → Fr n0 locs_200 → n0 ≤ h_200.size → own_Arr Z h_200 b1 .int 16384 (fun k => .int ((own_gs 2 nd2 (1 : Int32) (fun _ => (0 : Int32))) k)) → Exa Z h_200 b3 "com/example/smallscope/smallscope/Chunk" → Fld Z h_200 b3 "com/example/smallscope/smallscope/Chunk" "width" "I" (.int wv) → Fld Z h_200 b3 "com/example/smallscope/smallscope/Chunk" "ints" "[I" (.ref b4) → Fld Z h_200 b3 "com/example/smallscope/smallscope/Chunk" "used" "I" (.int (Int32.ofInt ((n1 : Nat) : Int))) → Fld Z h_200 b3 "com/example/smallscope/smallscope/Chunk" "count" "I" (.int ((0 : Int32) + (1 : Int32))) → own_Arr Z h_200 b4 .int nc fi8 → own_Arr Z h_200 b2 .int 16384 (fun k => .int (L8x k)) → own_Run p e below (own_End s room_1 (Q_law Z p1 p2 n0 h0)) (T_200.setTop (mkF m 200 #[.val (.int p1), .val (.int p2), .val (.int wv), .val (.int nv), .val (.int d2), .val (.int d3), .val (.ref b1), .val (.ref b2), .val (.ref b3), .val (.int cz), .val (.int (Int32.ofInt ((n1 : Nat) : Int))), .val (.int (1 : Int32)), .val (.int (1 : Int32))] [])) := by
              intro  T_200 h_200 locs_200 X_200 e_200 N hz A1 A8 F8_width F8_ints F8_used F8_count V8 Y8
              show own_Run p e below _ (T_200.setTop (mkF m 200 #[.val (.int p1), .val (.int p2), .val (.int wv), .val (.int nv), .val (.int d2), .val (.int d3), .val (.ref b1), .val (.ref b2), .val (.ref b3), .val (.int cz), .val (.int (Int32.ofInt ((n1 : Nat) : Int))), .val (.int (1 : Int32)), .val (.int (1 : Int32))] []))
              refine own_go (fun _ kS => XS.iload X_200.here hx rfl (hb hby at_200) rfl kS) ?_
              show own_Run p e below _ (T_200.setTop (mkF m 202 #[.val (.int p1), .val (.int p2), .val (.int wv), .val (.int nv), .val (.int d2), .val (.int d3), .val (.ref b1), .val (.ref b2), .val (.ref b3), .val (.int cz), .val (.int (Int32.ofInt ((n1 : Nat) : Int))), .val (.int (1 : Int32)), .val (.int (1 : Int32))] [(.int d2)]))
              refine own_go (fun _ kS => XS.iconst X_200.here hx rfl (hb hby at_202) kS) ?_
              show own_Run p e below _ (T_200.setTop (mkF m 203 #[.val (.int p1), .val (.int p2), .val (.int wv), .val (.int nv), .val (.int d2), .val (.int d3), .val (.ref b1), .val (.ref b2), .val (.ref b3), .val (.int cz), .val (.int (Int32.ofInt ((n1 : Nat) : Int))), .val (.int (1 : Int32)), .val (.int (1 : Int32))] [(.int (3 : Int32)), (.int d2)]))
              have J211 : ∀  (T_211 : State) (h_211 : Heap) (locs_211 : List Loc), Stand p l e room_1 s m #[(.int p1), (.int p2)] below meth c T_211 locs_211 4 49158 → T_211.heap = h_211 → Fr n0 locs_211 → n0 ≤ h_211.size → own_Arr Z h_211 b1 .int 16384 (fun k => .int ((own_gs 3 nd2 (1 : Int32) (fun _ => (0 : Int32))) k)) → Exa Z h_211 b3 "com/example/smallscope/smallscope/Chunk" → Fld Z h_211 b3 "com/example/smallscope/smallscope/Chunk" "width" "I" (.int wv) → Fld Z h_211 b3 "com/example/smallscope/smallscope/Chunk" "ints" "[I" (.ref b4) → Fld Z h_211 b3 "com/example/smallscope/smallscope/Chunk" "used" "I" (.int (Int32.ofInt ((n1 : Nat) : Int))) → Fld Z h_211 b3 "com/example/smallscope/smallscope/Chunk" "count" "I" (.int ((0 : Int32) + (1 : Int32))) → own_Arr Z h_211 b4 .int nc fi8 → own_Arr Z h_211 b2 .int 16384 (fun k => .int (L8x k)) → own_Run p e below (own_End s room_1 (Q_law Z p1 p2 n0 h0)) (T_211.setTop (mkF m 211 #[.val (.int p1), .val (.int p2), .val (.int wv), .val (.int nv), .val (.int d2), .val (.int d3), .val (.ref b1), .val (.ref b2), .val (.ref b3), .val (.int cz), .val (.int (Int32.ofInt ((n1 : Nat) : Int))), .val (.int (1 : Int32)), .val (.int (1 : Int32))] [])) := by
                intro  T_211 h_211 locs_211 X_211 e_211 N hz A1 A8 F8_width F8_ints F8_used F8_count V8 Y8
                show own_Run p e below _ (T_211.setTop (mkF m 211 #[.val (.int p1), .val (.int p2), .val (.int wv), .val (.int nv), .val (.int d2), .val (.int d3), .val (.ref b1), .val (.ref b2), .val (.ref b3), .val (.int cz), .val (.int (Int32.ofInt ((n1 : Nat) : Int))), .val (.int (1 : Int32)), .val (.int (1 : Int32))] []))
                refine own_go (fun _ kS => XS.aload X_211.here hx rfl (hb hby at_211) rfl rfl kS) ?_
                show own_Run p e below _ (T_211.setTop (mkF m 213 #[.val (.int p1), .val (.int p2), .val (.int wv), .val (.int nv), .val (.int d2), .val (.int d3), .val (.ref b1), .val (.ref b2), .val (.ref b3), .val (.int cz), .val (.int (Int32.ofInt ((n1 : Nat) : Int))), .val (.int (1 : Int32)), .val (.int (1 : Int32))] [(.ref b3)]))
                refine own_go (fun _ kS => XS.aload X_211.here hx rfl (hb hby at_213) rfl rfl kS) ?_
                show own_Run p e below _ (T_211.setTop (mkF m 215 #[.val (.int p1), .val (.int p2), .val (.int wv), .val (.int nv), .val (.int d2), .val (.int d3), .val (.ref b1), .val (.ref b2), .val (.ref b3), .val (.int cz), .val (.int (Int32.ofInt ((n1 : Nat) : Int))), .val (.int (1 : Int32)), .val (.int (1 : Int32))] [(.ref b1), (.ref b3)]))
                refine own_go (fun _ kS => XS.aload X_211.here hx rfl (hb hby at_215) rfl rfl kS) ?_
                show own_Run p e below _ (T_211.setTop (mkF m 217 #[.val (.int p1), .val (.int p2), .val (.int wv), .val (.int nv), .val (.int d2), .val (.int d3), .val (.ref b1), .val (.ref b2), .val (.ref b3), .val (.int cz), .val (.int (Int32.ofInt ((n1 : Nat) : Int))), .val (.int (1 : Int32)), .val (.int (1 : Int32))] [(.ref b2), (.ref b1), (.ref b3)]))
                refine own_callV X_211 hx hZ e_211 hown (⟨"com/example/smallscope/smallscope/Chunk", "add", "([I[I)I"⟩ : MethodName) (hw _ (List.mem_of_getElem? (i := 27) rfl)) (hw _ (List.mem_of_getElem? (i := 28) rfl)) (hw _ (List.mem_of_getElem? (i := 30) rfl)) (hw _ (List.mem_of_getElem? (i := 29) rfl)) (hw _ (List.mem_of_getElem? (i := 4) rfl)) (hw _ (List.mem_of_getElem? (i := 31) rfl)) (by decide) b3 A8 [(.ref b1), (.ref b2)] [] (rm_add l Z a0 hw b3 b1 b2 wv ((0 : Int32) + (1 : Int32)) b4 (n1) nw nc nd2 fi8 ((own_gs 3 nd2 (1 : Int32) (fun _ => (0 : Int32)))) (L8x) n0 h_211 hz A8 F8_width F8_ints F8_used F8_count V8 A1 Y8 g_b3 g_b4 g_b2 (Ne.symm ne_b3_b4) ne_b1_b3 ne_b2_b3 ne_b1_b4 ne_b1_b2 ne_b2_b4 hwn hnw hm1 hnc (fun _ j hj => by rw [hL8 j hj]; exact own_diff2 nd2 (by omega) j)) (by decide) 0 (by decide) (by decide) (by decide) rfl (by rw [hml]; rfl) (lenOf own_pd5 rfl) rfl (by show 2 * 0 + _ ≤ _; exact Nat.le_of_eq rfl) (hb hby at_217) (fun v11 h11 L11 T11 Q11 X11 e11 => ?_)
                obtain ⟨rx11, L11x, rfl, Nq11, Kq11, A11, F11_width, F11_ints, F11_used, F11_count, ⟨fi11, V11⟩, Y11, hL11⟩ := Q11
                replace A1 := A1.keep Kq11 (ninS ne_b1_b3 (ninS ne_b1_b4 (ninS ne_b1_b2 nin0)))
                replace hz := Nat.le_trans hz Kq11.1
                replace N := N.app Nq11
                show own_Run p e below _ (T11.setTop (mkF m 220 #[.val (.int p1), .val (.int p2), .val (.int wv), .val (.int nv), .val (.int d2), .val (.int d3), .val (.ref b1), .val (.ref b2), .val (.ref b3), .val (.int cz), .val (.int (Int32.ofInt ((n1 : Nat) : Int))), .val (.int (1 : Int32)), .val (.int (1 : Int32))] [(.int rx11)]))
                refine own_go (fun _ kS => XS.pop X11.here hx rfl (hb hby at_220) rfl rfl kS) ?_
                show own_Run p e below _ (T11.setTop (mkF m 221 #[.val (.int p1), .val (.int p2), .val (.int wv), .val (.int nv), .val (.int d2), .val (.int d3), .val (.ref b1), .val (.ref b2), .val (.ref b3), .val (.int cz), .val (.int (Int32.ofInt ((n1 : Nat) : Int))), .val (.int (1 : Int32)), .val (.int (1 : Int32))] []))
                refine own_go (fun _ kS => XS.iload X11.here hx rfl (hb hby at_221) rfl kS) ?_
                show own_Run p e below _ (T11.setTop (mkF m 223 #[.val (.int p1), .val (.int p2), .val (.int wv), .val (.int nv), .val (.int d2), .val (.int d3), .val (.ref b1), .val (.ref b2), .val (.ref b3), .val (.int cz), .val (.int (Int32.ofInt ((n1 : Nat) : Int))), .val (.int (1 : Int32)), .val (.int (1 : Int32))] [(.int (Int32.ofInt ((n1 : Nat) : Int)))]))
                refine own_go (fun _ kS => XS.iload X11.here hx rfl (hb hby at_223) rfl kS) ?_
                show own_Run p e below _ (T11.setTop (mkF m 225 #[.val (.int p1), .val (.int p2), .val (.int wv), .val (.int nv), .val (.int d2), .val (.int d3), .val (.ref b1), .val (.ref b2), .val (.ref b3), .val (.int cz), .val (.int (Int32.ofInt ((n1 : Nat) : Int))), .val (.int (1 : Int32)), .val (.int (1 : Int32))] [(.int d2), (.int (Int32.ofInt ((n1 : Nat) : Int)))]))
                refine own_go (fun _ kS => XS.iloadN X11.here hx rfl (hb hby at_225) rfl kS) ?_
                show own_Run p e below _ (T11.setTop (mkF m 226 #[.val (.int p1), .val (.int p2), .val (.int wv), .val (.int nv), .val (.int d2), .val (.int d3), .val (.ref b1), .val (.ref b2), .val (.ref b3), .val (.int cz), .val (.int (Int32.ofInt ((n1 : Nat) : Int))), .val (.int (1 : Int32)), .val (.int (1 : Int32))] [(.int wv), (.int d2), (.int (Int32.ofInt ((n1 : Nat) : Int)))]))
                refine own_callS X11 hx hZ e11 hown (⟨"com/example/smallscope/smallscope/ChunkHasRoomPinLaw", "cost", "(II)I"⟩ : MethodName) (hw _ (List.mem_of_getElem? (i := 46) rfl)) (hw _ (List.mem_of_getElem? (i := 47) rfl)) (hw _ (List.mem_of_getElem? (i := 48) rfl)) (hw _ (List.mem_of_getElem? (i := 49) rfl)) (by decide) [(.int d2), (.int wv)] [(.int (Int32.ofInt ((n1 : Nat) : Int)))] (rm_cost l Z a0 hw d2 wv h11) (by decide) 1 (by decide) (by decide) (by decide) rfl (by rw [hml]; rfl) (lenOf own_pd0 rfl) rfl (by show 2 * 0 + _ ≤ _; exact Nat.le_of_eq rfl) (hb hby at_226) (fun v12 h12 L12 T12 Q12 X12 e12 => ?_)
                obtain ⟨rfl, rfl, rfl⟩ := Q12
                replace N := N.app (Fr.nil n0)
                show own_Run p e below _ (T12.setTop (mkF m 229 #[.val (.int p1), .val (.int p2), .val (.int wv), .val (.int nv), .val (.int d2), .val (.int d3), .val (.ref b1), .val (.ref b2), .val (.ref b3), .val (.int cz), .val (.int (Int32.ofInt ((n1 : Nat) : Int))), .val (.int (1 : Int32)), .val (.int (1 : Int32))] [(.int (own_cost d2 wv)), (.int (Int32.ofInt ((n1 : Nat) : Int)))]))
                refine own_go (fun _ kS => XS.iadd X12.here hx rfl (hb hby at_229) rfl kS) ?_
                show own_Run p e below _ (T12.setTop (mkF m 230 #[.val (.int p1), .val (.int p2), .val (.int wv), .val (.int nv), .val (.int d2), .val (.int d3), .val (.ref b1), .val (.ref b2), .val (.ref b3), .val (.int cz), .val (.int (Int32.ofInt ((n1 : Nat) : Int))), .val (.int (1 : Int32)), .val (.int (1 : Int32))] [(.int ((Int32.ofInt ((n1 : Nat) : Int)) + (own_cost d2 wv)))]))
                refine own_go (fun _ kS => XS.istore X12.here hx rfl (hb hby at_230) rfl (l' := #[.val (.int p1), .val (.int p2), .val (.int wv), .val (.int nv), .val (.int d2), .val (.int d3), .val (.ref b1), .val (.ref b2), .val (.ref b3), .val (.int cz), .val (.int ((Int32.ofInt ((n1 : Nat) : Int)) + (own_cost d2 wv))), .val (.int (1 : Int32)), .val (.int (1 : Int32))]) rfl kS) ?_
                show own_Run p e below _ (T12.setTop (mkF m 232 #[.val (.int p1), .val (.int p2), .val (.int wv), .val (.int nv), .val (.int d2), .val (.int d3), .val (.ref b1), .val (.ref b2), .val (.ref b3), .val (.int cz), .val (.int ((Int32.ofInt ((n1 : Nat) : Int)) + (own_cost d2 wv))), .val (.int (1 : Int32)), .val (.int (1 : Int32))] []))
                obtain ⟨n2, hn2⟩ : ∃ q : Nat, q = own_use ((0 : Int32) + (1 : Int32)) (n1) nw nd2 := ⟨_, rfl⟩
                have hb_n2 := own_useb_of hn2
                rw [← hn2] at F11_used
                rw [own_u2 d2 wv nw nc n1 nd2 n2 hwn hnd2 (by omega) hnw hnc (by omega) (by decide) hn2]
                refine own_go (fun _ kS => XS.iload X12.here hx rfl (hb hby at_232) rfl kS) ?_
                show own_Run p e below _ (T12.setTop (mkF m 234 #[.val (.int p1), .val (.int p2), .val (.int wv), .val (.int nv), .val (.int d2), .val (.int d3), .val (.ref b1), .val (.ref b2), .val (.ref b3), .val (.int cz), .val (.int (Int32.ofInt ((n2 : Nat) : Int))), .val (.int (1 : Int32)), .val (.int (1 : Int32))] [(.int cz)]))
                refine own_go (fun _ kS => XS.iload X12.here hx rfl (hb hby at_234) rfl kS) ?_
                show own_Run p e below _ (T12.setTop (mkF m 236 #[.val (.int p1), .val (.int p2), .val (.int wv), .val (.int nv), .val (.int d2), .val (.int d3), .val (.ref b1), .val (.ref b2), .val (.ref b3), .val (.int cz), .val (.int (Int32.ofInt ((n2 : Nat) : Int))), .val (.int (1 : Int32)), .val (.int (1 : Int32))] [(.int (Int32.ofInt ((n2 : Nat) : Int))), (.int cz)]))
                refine own_go (fun _ kS => XS.isub X12.here hx rfl (hb hby at_236) rfl kS) ?_
                show own_Run p e below _ (T12.setTop (mkF m 237 #[.val (.int p1), .val (.int p2), .val (.int wv), .val (.int nv), .val (.int d2), .val (.int d3), .val (.ref b1), .val (.ref b2), .val (.ref b3), .val (.int cz), .val (.int (Int32.ofInt ((n2 : Nat) : Int))), .val (.int (1 : Int32)), .val (.int (1 : Int32))] [(.int (cz - (Int32.ofInt ((n2 : Nat) : Int))))]))
                refine own_go (fun _ kS => XS.iconst X12.here hx rfl (hb hby at_237) kS) ?_
                show own_Run p e below _ (T12.setTop (mkF m 238 #[.val (.int p1), .val (.int p2), .val (.int wv), .val (.int nv), .val (.int d2), .val (.int d3), .val (.ref b1), .val (.ref b2), .val (.ref b3), .val (.int cz), .val (.int (Int32.ofInt ((n2 : Nat) : Int))), .val (.int (1 : Int32)), .val (.int (1 : Int32))] [(.int (1 : Int32)), (.int (cz - (Int32.ofInt ((n2 : Nat) : Int))))]))
                refine own_go (fun _ kS => XS.iloadN X12.here hx rfl (hb hby at_238) rfl kS) ?_
                show own_Run p e below _ (T12.setTop (mkF m 239 #[.val (.int p1), .val (.int p2), .val (.int wv), .val (.int nv), .val (.int d2), .val (.int d3), .val (.ref b1), .val (.ref b2), .val (.ref b3), .val (.int cz), .val (.int (Int32.ofInt ((n2 : Nat) : Int))), .val (.int (1 : Int32)), .val (.int (1 : Int32))] [(.int wv), (.int (1 : Int32)), (.int (cz - (Int32.ofInt ((n2 : Nat) : Int))))]))
                refine own_go (fun _ kS => XS.iadd X12.here hx rfl (hb hby at_239) rfl kS) ?_
                show own_Run p e below _ (T12.setTop (mkF m 240 #[.val (.int p1), .val (.int p2), .val (.int wv), .val (.int nv), .val (.int d2), .val (.int d3), .val (.ref b1), .val (.ref b2), .val (.ref b3), .val (.int cz), .val (.int (Int32.ofInt ((n2 : Nat) : Int))), .val (.int (1 : Int32)), .val (.int (1 : Int32))] [(.int ((1 : Int32) + wv)), (.int (cz - (Int32.ofInt ((n2 : Nat) : Int))))]))
                by_cases hc240 : (cz - (Int32.ofInt ((n2 : Nat) : Int))) < ((1 : Int32) + wv)
                · refine own_go (fun _ kS => XS.icmpYes X12.here hx rfl (pc0 := 240) (pc' := 247) rfl (hb hby at_240) rfl (tlt hc240).1 (by decide) (by decide) kS) ?_
                  show own_Run p e below _ (T12.setTop (mkF m 247 #[.val (.int p1), .val (.int p2), .val (.int wv), .val (.int nv), .val (.int d2), .val (.int d3), .val (.ref b1), .val (.ref b2), .val (.ref b3), .val (.int cz), .val (.int (Int32.ofInt ((n2 : Nat) : Int))), .val (.int (1 : Int32)), .val (.int (1 : Int32))] []))
                  refine own_go (fun _ kS => XS.iconst X12.here hx rfl (hb hby at_247) kS) ?_
                  show own_Run p e below _ (T12.setTop (mkF m 248 #[.val (.int p1), .val (.int p2), .val (.int wv), .val (.int nv), .val (.int d2), .val (.int d3), .val (.ref b1), .val (.ref b2), .val (.ref b3), .val (.int cz), .val (.int (Int32.ofInt ((n2 : Nat) : Int))), .val (.int (1 : Int32)), .val (.int (1 : Int32))] [(.int (0 : Int32))]))
                  refine own_go (fun _ kS => XS.istore X12.here hx rfl (hb hby at_248) rfl (l' := #[.val (.int p1), .val (.int p2), .val (.int wv), .val (.int nv), .val (.int d2), .val (.int d3), .val (.ref b1), .val (.ref b2), .val (.ref b3), .val (.int cz), .val (.int (Int32.ofInt ((n2 : Nat) : Int))), .val (.int (0 : Int32)), .val (.int (1 : Int32))]) rfl kS) ?_
                  show own_Run p e below _ (T12.setTop (mkF m 250 #[.val (.int p1), .val (.int p2), .val (.int wv), .val (.int nv), .val (.int d2), .val (.int d3), .val (.ref b1), .val (.ref b2), .val (.ref b3), .val (.int cz), .val (.int (Int32.ofInt ((n2 : Nat) : Int))), .val (.int (0 : Int32)), .val (.int (1 : Int32))] []))
                  refine own_go (fun _ kS => XS.iload X12.here hx rfl (hb hby at_250) rfl kS) ?_
                  show own_Run p e below _ (T12.setTop (mkF m 252 #[.val (.int p1), .val (.int p2), .val (.int wv), .val (.int nv), .val (.int d2), .val (.int d3), .val (.ref b1), .val (.ref b2), .val (.ref b3), .val (.int cz), .val (.int (Int32.ofInt ((n2 : Nat) : Int))), .val (.int (0 : Int32)), .val (.int (1 : Int32))] [(.int (1 : Int32))]))
                  refine own_go (fun _ kS => XS.ifNo X12.here hx rfl (hb hby at_252) rfl ((if0 _ _).trans (feq (show ¬ ((1 : Int32) = (0 : Int32)) from (by decide))).1) kS) ?_
                  show own_Run p e below _ (T12.setTop (mkF m 255 #[.val (.int p1), .val (.int p2), .val (.int wv), .val (.int nv), .val (.int d2), .val (.int d3), .val (.ref b1), .val (.ref b2), .val (.ref b3), .val (.int cz), .val (.int (Int32.ofInt ((n2 : Nat) : Int))), .val (.int (0 : Int32)), .val (.int (1 : Int32))] []))
                  refine own_go (fun _ kS => XS.aload X12.here hx rfl (hb hby at_255) rfl rfl kS) ?_
                  show own_Run p e below _ (T12.setTop (mkF m 257 #[.val (.int p1), .val (.int p2), .val (.int wv), .val (.int nv), .val (.int d2), .val (.int d3), .val (.ref b1), .val (.ref b2), .val (.ref b3), .val (.int cz), .val (.int (Int32.ofInt ((n2 : Nat) : Int))), .val (.int (0 : Int32)), .val (.int (1 : Int32))] [(.ref b3)]))
                  refine own_callV X12 hx hZ e12 hown (⟨"com/example/smallscope/smallscope/Chunk", "hasRoom", "()Z"⟩ : MethodName) (hw _ (List.mem_of_getElem? (i := 20) rfl)) (hw _ (List.mem_of_getElem? (i := 21) rfl)) (hw _ (List.mem_of_getElem? (i := 23) rfl)) (hw _ (List.mem_of_getElem? (i := 22) rfl)) (hw _ (List.mem_of_getElem? (i := 4) rfl)) (hw _ (List.mem_of_getElem? (i := 24) rfl)) (by decide) b3 A11 [] [] (rm_hr l Z a0 hw b3 (Int32.ofInt ((n2 : Nat) : Int)) wv cz b4 nc fi11 h11 F11_used F11_width F11_ints V11 hcz) (by decide) 0 (by decide) (by decide) (by decide) rfl (by rw [hml]; rfl) (lenOf own_pd4 rfl) rfl (by show 2 * 0 + _ ≤ _; exact Nat.le_of_eq rfl) (hb hby at_257) (fun v13 h13 L13 T13 Q13 X13 e13 => ?_)
                  obtain ⟨rfl, rfl, rfl⟩ := Q13
                  replace N := N.app (Fr.nil n0)
                  show own_Run p e below _ (T13.setTop (mkF m 260 #[.val (.int p1), .val (.int p2), .val (.int wv), .val (.int nv), .val (.int d2), .val (.int d3), .val (.ref b1), .val (.ref b2), .val (.ref b3), .val (.int cz), .val (.int (Int32.ofInt ((n2 : Nat) : Int))), .val (.int (0 : Int32)), .val (.int (1 : Int32))] [(.int (own_hr (Int32.ofInt ((n2 : Nat) : Int)) wv cz))]))
                  refine own_go (fun _ kS => XS.iload X13.here hx rfl (hb hby at_260) rfl kS) ?_
                  show own_Run p e below _ (T13.setTop (mkF m 262 #[.val (.int p1), .val (.int p2), .val (.int wv), .val (.int nv), .val (.int d2), .val (.int d3), .val (.ref b1), .val (.ref b2), .val (.ref b3), .val (.int cz), .val (.int (Int32.ofInt ((n2 : Nat) : Int))), .val (.int (0 : Int32)), .val (.int (1 : Int32))] [(.int (0 : Int32)), (.int (own_hr (Int32.ofInt ((n2 : Nat) : Int)) wv cz))]))
                  refine own_go (fun _ kS => XS.icmpNo X13.here hx rfl (hb hby at_262) rfl (teq (show (own_hr (Int32.ofInt ((n2 : Nat) : Int)) wv cz) = (0 : Int32) from (own_hr0 wv cz nw nc (n2) hwn hcz hw1 (by omega) hc240))).2 kS) ?_
                  show own_Run p e below _ (T13.setTop (mkF m 265 #[.val (.int p1), .val (.int p2), .val (.int wv), .val (.int nv), .val (.int d2), .val (.int d3), .val (.ref b1), .val (.ref b2), .val (.ref b3), .val (.int cz), .val (.int (Int32.ofInt ((n2 : Nat) : Int))), .val (.int (0 : Int32)), .val (.int (1 : Int32))] []))
                  refine own_go (fun _ kS => XS.iconst X13.here hx rfl (hb hby at_265) kS) ?_
                  show own_Run p e below _ (T13.setTop (mkF m 266 #[.val (.int p1), .val (.int p2), .val (.int wv), .val (.int nv), .val (.int d2), .val (.int d3), .val (.ref b1), .val (.ref b2), .val (.ref b3), .val (.int cz), .val (.int (Int32.ofInt ((n2 : Nat) : Int))), .val (.int (0 : Int32)), .val (.int (1 : Int32))] [(.int (1 : Int32))]))
                  refine own_go (fun _ kS => XS.goto X13.here hx rfl (pc0 := 266) (pc' := 270) rfl (hb hby at_266) (by decide) (by decide) kS) ?_
                  show own_Run p e below _ (T13.setTop (mkF m 270 #[.val (.int p1), .val (.int p2), .val (.int wv), .val (.int nv), .val (.int d2), .val (.int d3), .val (.ref b1), .val (.ref b2), .val (.ref b3), .val (.int cz), .val (.int (Int32.ofInt ((n2 : Nat) : Int))), .val (.int (0 : Int32)), .val (.int (1 : Int32))] [(.int (1 : Int32))]))
                  refine own_go (fun _ kS => XS.istore X13.here hx rfl (hb hby at_270) rfl (l' := #[.val (.int p1), .val (.int p2), .val (.int wv), .val (.int nv), .val (.int d2), .val (.int d3), .val (.ref b1), .val (.ref b2), .val (.ref b3), .val (.int cz), .val (.int (Int32.ofInt ((n2 : Nat) : Int))), .val (.int (0 : Int32)), .val (.int (1 : Int32))]) rfl kS) ?_
                  show own_Run p e below _ (T13.setTop (mkF m 272 #[.val (.int p1), .val (.int p2), .val (.int wv), .val (.int nv), .val (.int d2), .val (.int d3), .val (.ref b1), .val (.ref b2), .val (.ref b3), .val (.int cz), .val (.int (Int32.ofInt ((n2 : Nat) : Int))), .val (.int (0 : Int32)), .val (.int (1 : Int32))] []))
                  refine own_go (fun _ kS => XS.iloadN X13.here hx rfl (hb hby at_272) rfl kS) ?_
                  show own_Run p e below _ (T13.setTop (mkF m 273 #[.val (.int p1), .val (.int p2), .val (.int wv), .val (.int nv), .val (.int d2), .val (.int d3), .val (.ref b1), .val (.ref b2), .val (.ref b3), .val (.int cz), .val (.int (Int32.ofInt ((n2 : Nat) : Int))), .val (.int (0 : Int32)), .val (.int (1 : Int32))] [(.int nv)]))
                  refine own_go (fun _ kS => XS.iconst X13.here hx rfl (hb hby at_273) kS) ?_
                  show own_Run p e below _ (T13.setTop (mkF m 274 #[.val (.int p1), .val (.int p2), .val (.int wv), .val (.int nv), .val (.int d2), .val (.int d3), .val (.ref b1), .val (.ref b2), .val (.ref b3), .val (.int cz), .val (.int (Int32.ofInt ((n2 : Nat) : Int))), .val (.int (0 : Int32)), .val (.int (1 : Int32))] [(.int (3 : Int32)), (.int nv)]))
                  by_cases hc274 : nv < (3 : Int32)
                  · refine own_go (fun _ kS => XS.icmpYes X13.here hx rfl (pc0 := 274) (pc' := 376) rfl (hb hby at_274) rfl (tlt hc274).1 (by decide) (by decide) kS) ?_
                    show own_Run p e below _ (T13.setTop (mkF m 376 #[.val (.int p1), .val (.int p2), .val (.int wv), .val (.int nv), .val (.int d2), .val (.int d3), .val (.ref b1), .val (.ref b2), .val (.ref b3), .val (.int cz), .val (.int (Int32.ofInt ((n2 : Nat) : Int))), .val (.int (0 : Int32)), .val (.int (1 : Int32))] []))
                    refine own_go (fun _ kS => XS.iload X13.here hx rfl (hb hby at_376) rfl kS) ?_
                    show own_Run p e below _ (T13.setTop (mkF m 378 #[.val (.int p1), .val (.int p2), .val (.int wv), .val (.int nv), .val (.int d2), .val (.int d3), .val (.ref b1), .val (.ref b2), .val (.ref b3), .val (.int cz), .val (.int (Int32.ofInt ((n2 : Nat) : Int))), .val (.int (0 : Int32)), .val (.int (1 : Int32))] [(.int (1 : Int32))]))
                    refine own_retN X13 hx (t := .boolean) hret hlk (by simp) (hb hby at_378) (by decide) (by decide) ?_
                    exact ⟨rfl, N⟩
                  · refine own_go (fun _ kS => XS.icmpNo X13.here hx rfl (hb hby at_274) rfl (flt hc274).1 kS) ?_
                    show own_Run p e below _ (T13.setTop (mkF m 277 #[.val (.int p1), .val (.int p2), .val (.int wv), .val (.int nv), .val (.int d2), .val (.int d3), .val (.ref b1), .val (.ref b2), .val (.ref b3), .val (.int cz), .val (.int (Int32.ofInt ((n2 : Nat) : Int))), .val (.int (0 : Int32)), .val (.int (1 : Int32))] []))
                    refine own_go (fun _ kS => XS.iload X13.here hx rfl (hb hby at_277) rfl kS) ?_
                    show own_Run p e below _ (T13.setTop (mkF m 279 #[.val (.int p1), .val (.int p2), .val (.int wv), .val (.int nv), .val (.int d2), .val (.int d3), .val (.ref b1), .val (.ref b2), .val (.ref b3), .val (.int cz), .val (.int (Int32.ofInt ((n2 : Nat) : Int))), .val (.int (0 : Int32)), .val (.int (1 : Int32))] [(.int (0 : Int32))]))
                    refine own_go (fun _ kS => XS.ifYes X13.here hx rfl (pc0 := 279) (pc' := 376) rfl (hb hby at_279) rfl ((if0 _ _).trans (teq (show (0 : Int32) = (0 : Int32) from (by decide))).1) (by decide) (by decide) kS) ?_
                    show own_Run p e below _ (T13.setTop (mkF m 376 #[.val (.int p1), .val (.int p2), .val (.int wv), .val (.int nv), .val (.int d2), .val (.int d3), .val (.ref b1), .val (.ref b2), .val (.ref b3), .val (.int cz), .val (.int (Int32.ofInt ((n2 : Nat) : Int))), .val (.int (0 : Int32)), .val (.int (1 : Int32))] []))
                    refine own_go (fun _ kS => XS.iload X13.here hx rfl (hb hby at_376) rfl kS) ?_
                    show own_Run p e below _ (T13.setTop (mkF m 378 #[.val (.int p1), .val (.int p2), .val (.int wv), .val (.int nv), .val (.int d2), .val (.int d3), .val (.ref b1), .val (.ref b2), .val (.ref b3), .val (.int cz), .val (.int (Int32.ofInt ((n2 : Nat) : Int))), .val (.int (0 : Int32)), .val (.int (1 : Int32))] [(.int (1 : Int32))]))
                    refine own_retN X13 hx (t := .boolean) hret hlk (by simp) (hb hby at_378) (by decide) (by decide) ?_
                    exact ⟨rfl, N⟩
                · refine own_go (fun _ kS => XS.icmpNo X12.here hx rfl (hb hby at_240) rfl (flt hc240).1 kS) ?_
                  show own_Run p e below _ (T12.setTop (mkF m 243 #[.val (.int p1), .val (.int p2), .val (.int wv), .val (.int nv), .val (.int d2), .val (.int d3), .val (.ref b1), .val (.ref b2), .val (.ref b3), .val (.int cz), .val (.int (Int32.ofInt ((n2 : Nat) : Int))), .val (.int (1 : Int32)), .val (.int (1 : Int32))] []))
                  have hm2 : n2 + 1 + nw ≤ nc := own_rm wv cz nw nc (n2) hwn hcz hw1 (by omega) hc240
                  refine own_go (fun _ kS => XS.iconst X12.here hx rfl (hb hby at_243) kS) ?_
                  show own_Run p e below _ (T12.setTop (mkF m 244 #[.val (.int p1), .val (.int p2), .val (.int wv), .val (.int nv), .val (.int d2), .val (.int d3), .val (.ref b1), .val (.ref b2), .val (.ref b3), .val (.int cz), .val (.int (Int32.ofInt ((n2 : Nat) : Int))), .val (.int (1 : Int32)), .val (.int (1 : Int32))] [(.int (1 : Int32))]))
                  refine own_go (fun _ kS => XS.goto X12.here hx rfl (pc0 := 244) (pc' := 248) rfl (hb hby at_244) (by decide) (by decide) kS) ?_
                  show own_Run p e below _ (T12.setTop (mkF m 248 #[.val (.int p1), .val (.int p2), .val (.int wv), .val (.int nv), .val (.int d2), .val (.int d3), .val (.ref b1), .val (.ref b2), .val (.ref b3), .val (.int cz), .val (.int (Int32.ofInt ((n2 : Nat) : Int))), .val (.int (1 : Int32)), .val (.int (1 : Int32))] [(.int (1 : Int32))]))
                  refine own_go (fun _ kS => XS.istore X12.here hx rfl (hb hby at_248) rfl (l' := #[.val (.int p1), .val (.int p2), .val (.int wv), .val (.int nv), .val (.int d2), .val (.int d3), .val (.ref b1), .val (.ref b2), .val (.ref b3), .val (.int cz), .val (.int (Int32.ofInt ((n2 : Nat) : Int))), .val (.int (1 : Int32)), .val (.int (1 : Int32))]) rfl kS) ?_
                  show own_Run p e below _ (T12.setTop (mkF m 250 #[.val (.int p1), .val (.int p2), .val (.int wv), .val (.int nv), .val (.int d2), .val (.int d3), .val (.ref b1), .val (.ref b2), .val (.ref b3), .val (.int cz), .val (.int (Int32.ofInt ((n2 : Nat) : Int))), .val (.int (1 : Int32)), .val (.int (1 : Int32))] []))
                  refine own_go (fun _ kS => XS.iload X12.here hx rfl (hb hby at_250) rfl kS) ?_
                  show own_Run p e below _ (T12.setTop (mkF m 252 #[.val (.int p1), .val (.int p2), .val (.int wv), .val (.int nv), .val (.int d2), .val (.int d3), .val (.ref b1), .val (.ref b2), .val (.ref b3), .val (.int cz), .val (.int (Int32.ofInt ((n2 : Nat) : Int))), .val (.int (1 : Int32)), .val (.int (1 : Int32))] [(.int (1 : Int32))]))
                  refine own_go (fun _ kS => XS.ifNo X12.here hx rfl (hb hby at_252) rfl ((if0 _ _).trans (feq (show ¬ ((1 : Int32) = (0 : Int32)) from (by decide))).1) kS) ?_
                  show own_Run p e below _ (T12.setTop (mkF m 255 #[.val (.int p1), .val (.int p2), .val (.int wv), .val (.int nv), .val (.int d2), .val (.int d3), .val (.ref b1), .val (.ref b2), .val (.ref b3), .val (.int cz), .val (.int (Int32.ofInt ((n2 : Nat) : Int))), .val (.int (1 : Int32)), .val (.int (1 : Int32))] []))
                  refine own_go (fun _ kS => XS.aload X12.here hx rfl (hb hby at_255) rfl rfl kS) ?_
                  show own_Run p e below _ (T12.setTop (mkF m 257 #[.val (.int p1), .val (.int p2), .val (.int wv), .val (.int nv), .val (.int d2), .val (.int d3), .val (.ref b1), .val (.ref b2), .val (.ref b3), .val (.int cz), .val (.int (Int32.ofInt ((n2 : Nat) : Int))), .val (.int (1 : Int32)), .val (.int (1 : Int32))] [(.ref b3)]))
                  refine own_callV X12 hx hZ e12 hown (⟨"com/example/smallscope/smallscope/Chunk", "hasRoom", "()Z"⟩ : MethodName) (hw _ (List.mem_of_getElem? (i := 20) rfl)) (hw _ (List.mem_of_getElem? (i := 21) rfl)) (hw _ (List.mem_of_getElem? (i := 23) rfl)) (hw _ (List.mem_of_getElem? (i := 22) rfl)) (hw _ (List.mem_of_getElem? (i := 4) rfl)) (hw _ (List.mem_of_getElem? (i := 24) rfl)) (by decide) b3 A11 [] [] (rm_hr l Z a0 hw b3 (Int32.ofInt ((n2 : Nat) : Int)) wv cz b4 nc fi11 h11 F11_used F11_width F11_ints V11 hcz) (by decide) 0 (by decide) (by decide) (by decide) rfl (by rw [hml]; rfl) (lenOf own_pd4 rfl) rfl (by show 2 * 0 + _ ≤ _; exact Nat.le_of_eq rfl) (hb hby at_257) (fun v14 h14 L14 T14 Q14 X14 e14 => ?_)
                  obtain ⟨rfl, rfl, rfl⟩ := Q14
                  replace N := N.app (Fr.nil n0)
                  show own_Run p e below _ (T14.setTop (mkF m 260 #[.val (.int p1), .val (.int p2), .val (.int wv), .val (.int nv), .val (.int d2), .val (.int d3), .val (.ref b1), .val (.ref b2), .val (.ref b3), .val (.int cz), .val (.int (Int32.ofInt ((n2 : Nat) : Int))), .val (.int (1 : Int32)), .val (.int (1 : Int32))] [(.int (own_hr (Int32.ofInt ((n2 : Nat) : Int)) wv cz))]))
                  refine own_go (fun _ kS => XS.iload X14.here hx rfl (hb hby at_260) rfl kS) ?_
                  show own_Run p e below _ (T14.setTop (mkF m 262 #[.val (.int p1), .val (.int p2), .val (.int wv), .val (.int nv), .val (.int d2), .val (.int d3), .val (.ref b1), .val (.ref b2), .val (.ref b3), .val (.int cz), .val (.int (Int32.ofInt ((n2 : Nat) : Int))), .val (.int (1 : Int32)), .val (.int (1 : Int32))] [(.int (1 : Int32)), (.int (own_hr (Int32.ofInt ((n2 : Nat) : Int)) wv cz))]))
                  refine own_go (fun _ kS => XS.icmpNo X14.here hx rfl (hb hby at_262) rfl (teq (show (own_hr (Int32.ofInt ((n2 : Nat) : Int)) wv cz) = (1 : Int32) from (own_hr1 wv cz nw nc (n2) hwn hcz hw1 (by omega) hc240))).2 kS) ?_
                  show own_Run p e below _ (T14.setTop (mkF m 265 #[.val (.int p1), .val (.int p2), .val (.int wv), .val (.int nv), .val (.int d2), .val (.int d3), .val (.ref b1), .val (.ref b2), .val (.ref b3), .val (.int cz), .val (.int (Int32.ofInt ((n2 : Nat) : Int))), .val (.int (1 : Int32)), .val (.int (1 : Int32))] []))
                  refine own_go (fun _ kS => XS.iconst X14.here hx rfl (hb hby at_265) kS) ?_
                  show own_Run p e below _ (T14.setTop (mkF m 266 #[.val (.int p1), .val (.int p2), .val (.int wv), .val (.int nv), .val (.int d2), .val (.int d3), .val (.ref b1), .val (.ref b2), .val (.ref b3), .val (.int cz), .val (.int (Int32.ofInt ((n2 : Nat) : Int))), .val (.int (1 : Int32)), .val (.int (1 : Int32))] [(.int (1 : Int32))]))
                  refine own_go (fun _ kS => XS.goto X14.here hx rfl (pc0 := 266) (pc' := 270) rfl (hb hby at_266) (by decide) (by decide) kS) ?_
                  show own_Run p e below _ (T14.setTop (mkF m 270 #[.val (.int p1), .val (.int p2), .val (.int wv), .val (.int nv), .val (.int d2), .val (.int d3), .val (.ref b1), .val (.ref b2), .val (.ref b3), .val (.int cz), .val (.int (Int32.ofInt ((n2 : Nat) : Int))), .val (.int (1 : Int32)), .val (.int (1 : Int32))] [(.int (1 : Int32))]))
                  refine own_go (fun _ kS => XS.istore X14.here hx rfl (hb hby at_270) rfl (l' := #[.val (.int p1), .val (.int p2), .val (.int wv), .val (.int nv), .val (.int d2), .val (.int d3), .val (.ref b1), .val (.ref b2), .val (.ref b3), .val (.int cz), .val (.int (Int32.ofInt ((n2 : Nat) : Int))), .val (.int (1 : Int32)), .val (.int (1 : Int32))]) rfl kS) ?_
                  show own_Run p e below _ (T14.setTop (mkF m 272 #[.val (.int p1), .val (.int p2), .val (.int wv), .val (.int nv), .val (.int d2), .val (.int d3), .val (.ref b1), .val (.ref b2), .val (.ref b3), .val (.int cz), .val (.int (Int32.ofInt ((n2 : Nat) : Int))), .val (.int (1 : Int32)), .val (.int (1 : Int32))] []))
                  refine own_go (fun _ kS => XS.iloadN X14.here hx rfl (hb hby at_272) rfl kS) ?_
                  show own_Run p e below _ (T14.setTop (mkF m 273 #[.val (.int p1), .val (.int p2), .val (.int wv), .val (.int nv), .val (.int d2), .val (.int d3), .val (.ref b1), .val (.ref b2), .val (.ref b3), .val (.int cz), .val (.int (Int32.ofInt ((n2 : Nat) : Int))), .val (.int (1 : Int32)), .val (.int (1 : Int32))] [(.int nv)]))
                  refine own_go (fun _ kS => XS.iconst X14.here hx rfl (hb hby at_273) kS) ?_
                  show own_Run p e below _ (T14.setTop (mkF m 274 #[.val (.int p1), .val (.int p2), .val (.int wv), .val (.int nv), .val (.int d2), .val (.int d3), .val (.ref b1), .val (.ref b2), .val (.ref b3), .val (.int cz), .val (.int (Int32.ofInt ((n2 : Nat) : Int))), .val (.int (1 : Int32)), .val (.int (1 : Int32))] [(.int (3 : Int32)), (.int nv)]))
                  by_cases hc274 : nv < (3 : Int32)
                  · refine own_go (fun _ kS => XS.icmpYes X14.here hx rfl (pc0 := 274) (pc' := 376) rfl (hb hby at_274) rfl (tlt hc274).1 (by decide) (by decide) kS) ?_
                    show own_Run p e below _ (T14.setTop (mkF m 376 #[.val (.int p1), .val (.int p2), .val (.int wv), .val (.int nv), .val (.int d2), .val (.int d3), .val (.ref b1), .val (.ref b2), .val (.ref b3), .val (.int cz), .val (.int (Int32.ofInt ((n2 : Nat) : Int))), .val (.int (1 : Int32)), .val (.int (1 : Int32))] []))
                    refine own_go (fun _ kS => XS.iload X14.here hx rfl (hb hby at_376) rfl kS) ?_
                    show own_Run p e below _ (T14.setTop (mkF m 378 #[.val (.int p1), .val (.int p2), .val (.int wv), .val (.int nv), .val (.int d2), .val (.int d3), .val (.ref b1), .val (.ref b2), .val (.ref b3), .val (.int cz), .val (.int (Int32.ofInt ((n2 : Nat) : Int))), .val (.int (1 : Int32)), .val (.int (1 : Int32))] [(.int (1 : Int32))]))
                    refine own_retN X14 hx (t := .boolean) hret hlk (by simp) (hb hby at_378) (by decide) (by decide) ?_
                    exact ⟨rfl, N⟩
                  · refine own_go (fun _ kS => XS.icmpNo X14.here hx rfl (hb hby at_274) rfl (flt hc274).1 kS) ?_
                    show own_Run p e below _ (T14.setTop (mkF m 277 #[.val (.int p1), .val (.int p2), .val (.int wv), .val (.int nv), .val (.int d2), .val (.int d3), .val (.ref b1), .val (.ref b2), .val (.ref b3), .val (.int cz), .val (.int (Int32.ofInt ((n2 : Nat) : Int))), .val (.int (1 : Int32)), .val (.int (1 : Int32))] []))
                    refine own_go (fun _ kS => XS.iload X14.here hx rfl (hb hby at_277) rfl kS) ?_
                    show own_Run p e below _ (T14.setTop (mkF m 279 #[.val (.int p1), .val (.int p2), .val (.int wv), .val (.int nv), .val (.int d2), .val (.int d3), .val (.ref b1), .val (.ref b2), .val (.ref b3), .val (.int cz), .val (.int (Int32.ofInt ((n2 : Nat) : Int))), .val (.int (1 : Int32)), .val (.int (1 : Int32))] [(.int (1 : Int32))]))
                    refine own_go (fun _ kS => XS.ifNo X14.here hx rfl (hb hby at_279) rfl ((if0 _ _).trans (feq (show ¬ ((1 : Int32) = (0 : Int32)) from (by decide))).1) kS) ?_
                    show own_Run p e below _ (T14.setTop (mkF m 282 #[.val (.int p1), .val (.int p2), .val (.int wv), .val (.int nv), .val (.int d2), .val (.int d3), .val (.ref b1), .val (.ref b2), .val (.ref b3), .val (.int cz), .val (.int (Int32.ofInt ((n2 : Nat) : Int))), .val (.int (1 : Int32)), .val (.int (1 : Int32))] []))
                    replace A1 : own_Arr Z h11 b1 .int 16384 (fun k => .int ((own_gs 0 nd3 (2 : Int32) (own_gs 3 nd2 (1 : Int32) (fun _ => (0 : Int32)))) k)) := A1.congr (fun k hk => congrArg Value.int (own_gs0 nd3 (2 : Int32) (own_gs 3 nd2 (1 : Int32) (fun _ => (0 : Int32))) k).symm)
                    refine own_go (fun _ kS => XS.iload X14.here hx rfl (hb hby at_282) rfl kS) ?_
                    show own_Run p e below _ (T14.setTop (mkF m 284 #[.val (.int p1), .val (.int p2), .val (.int wv), .val (.int nv), .val (.int d2), .val (.int d3), .val (.ref b1), .val (.ref b2), .val (.ref b3), .val (.int cz), .val (.int (Int32.ofInt ((n2 : Nat) : Int))), .val (.int (1 : Int32)), .val (.int (1 : Int32))] [(.int d3)]))
                    refine own_go (fun _ kS => XS.iconst X14.here hx rfl (hb hby at_284) kS) ?_
                    show own_Run p e below _ (T14.setTop (mkF m 285 #[.val (.int p1), .val (.int p2), .val (.int wv), .val (.int nv), .val (.int d2), .val (.int d3), .val (.ref b1), .val (.ref b2), .val (.ref b3), .val (.int cz), .val (.int (Int32.ofInt ((n2 : Nat) : Int))), .val (.int (1 : Int32)), .val (.int (1 : Int32))] [(.int (1 : Int32)), (.int d3)]))
                    have J293 : ∀  (T_293 : State) (h_293 : Heap) (locs_293 : List Loc), Stand p l e room_1 s m #[(.int p1), (.int p2)] below meth c T_293 locs_293 4 49158 → T_293.heap = h_293 → Fr n0 locs_293 → n0 ≤ h_293.size → own_Arr Z h_293 b1 .int 16384 (fun k => .int ((own_gs 1 nd3 (2 : Int32) (own_gs 3 nd2 (1 : Int32) (fun _ => (0 : Int32)))) k)) → Exa Z h_293 b3 "com/example/smallscope/smallscope/Chunk" → Fld Z h_293 b3 "com/example/smallscope/smallscope/Chunk" "width" "I" (.int wv) → Fld Z h_293 b3 "com/example/smallscope/smallscope/Chunk" "ints" "[I" (.ref b4) → Fld Z h_293 b3 "com/example/smallscope/smallscope/Chunk" "used" "I" (.int (Int32.ofInt ((n2 : Nat) : Int))) → Fld Z h_293 b3 "com/example/smallscope/smallscope/Chunk" "count" "I" (.int (((0 : Int32) + (1 : Int32)) + (1 : Int32))) → own_Arr Z h_293 b4 .int nc fi11 → own_Arr Z h_293 b2 .int 16384 (fun k => .int (L11x k)) → own_Run p e below (own_End s room_1 (Q_law Z p1 p2 n0 h0)) (T_293.setTop (mkF m 293 #[.val (.int p1), .val (.int p2), .val (.int wv), .val (.int nv), .val (.int d2), .val (.int d3), .val (.ref b1), .val (.ref b2), .val (.ref b3), .val (.int cz), .val (.int (Int32.ofInt ((n2 : Nat) : Int))), .val (.int (1 : Int32)), .val (.int (1 : Int32))] [])) := by
                      intro  T_293 h_293 locs_293 X_293 e_293 N hz A1 A11 F11_width F11_ints F11_used F11_count V11 Y11
                      show own_Run p e below _ (T_293.setTop (mkF m 293 #[.val (.int p1), .val (.int p2), .val (.int wv), .val (.int nv), .val (.int d2), .val (.int d3), .val (.ref b1), .val (.ref b2), .val (.ref b3), .val (.int cz), .val (.int (Int32.ofInt ((n2 : Nat) : Int))), .val (.int (1 : Int32)), .val (.int (1 : Int32))] []))
                      refine own_go (fun _ kS => XS.iload X_293.here hx rfl (hb hby at_293) rfl kS) ?_
                      show own_Run p e below _ (T_293.setTop (mkF m 295 #[.val (.int p1), .val (.int p2), .val (.int wv), .val (.int nv), .val (.int d2), .val (.int d3), .val (.ref b1), .val (.ref b2), .val (.ref b3), .val (.int cz), .val (.int (Int32.ofInt ((n2 : Nat) : Int))), .val (.int (1 : Int32)), .val (.int (1 : Int32))] [(.int d3)]))
                      refine own_go (fun _ kS => XS.iconst X_293.here hx rfl (hb hby at_295) kS) ?_
                      show own_Run p e below _ (T_293.setTop (mkF m 296 #[.val (.int p1), .val (.int p2), .val (.int wv), .val (.int nv), .val (.int d2), .val (.int d3), .val (.ref b1), .val (.ref b2), .val (.ref b3), .val (.int cz), .val (.int (Int32.ofInt ((n2 : Nat) : Int))), .val (.int (1 : Int32)), .val (.int (1 : Int32))] [(.int (2 : Int32)), (.int d3)]))
                      have J304 : ∀  (T_304 : State) (h_304 : Heap) (locs_304 : List Loc), Stand p l e room_1 s m #[(.int p1), (.int p2)] below meth c T_304 locs_304 4 49158 → T_304.heap = h_304 → Fr n0 locs_304 → n0 ≤ h_304.size → own_Arr Z h_304 b1 .int 16384 (fun k => .int ((own_gs 2 nd3 (2 : Int32) (own_gs 3 nd2 (1 : Int32) (fun _ => (0 : Int32)))) k)) → Exa Z h_304 b3 "com/example/smallscope/smallscope/Chunk" → Fld Z h_304 b3 "com/example/smallscope/smallscope/Chunk" "width" "I" (.int wv) → Fld Z h_304 b3 "com/example/smallscope/smallscope/Chunk" "ints" "[I" (.ref b4) → Fld Z h_304 b3 "com/example/smallscope/smallscope/Chunk" "used" "I" (.int (Int32.ofInt ((n2 : Nat) : Int))) → Fld Z h_304 b3 "com/example/smallscope/smallscope/Chunk" "count" "I" (.int (((0 : Int32) + (1 : Int32)) + (1 : Int32))) → own_Arr Z h_304 b4 .int nc fi11 → own_Arr Z h_304 b2 .int 16384 (fun k => .int (L11x k)) → own_Run p e below (own_End s room_1 (Q_law Z p1 p2 n0 h0)) (T_304.setTop (mkF m 304 #[.val (.int p1), .val (.int p2), .val (.int wv), .val (.int nv), .val (.int d2), .val (.int d3), .val (.ref b1), .val (.ref b2), .val (.ref b3), .val (.int cz), .val (.int (Int32.ofInt ((n2 : Nat) : Int))), .val (.int (1 : Int32)), .val (.int (1 : Int32))] [])) := by
                        intro  T_304 h_304 locs_304 X_304 e_304 N hz A1 A11 F11_width F11_ints F11_used F11_count V11 Y11
                        show own_Run p e below _ (T_304.setTop (mkF m 304 #[.val (.int p1), .val (.int p2), .val (.int wv), .val (.int nv), .val (.int d2), .val (.int d3), .val (.ref b1), .val (.ref b2), .val (.ref b3), .val (.int cz), .val (.int (Int32.ofInt ((n2 : Nat) : Int))), .val (.int (1 : Int32)), .val (.int (1 : Int32))] []))
                        refine own_go (fun _ kS => XS.iload X_304.here hx rfl (hb hby at_304) rfl kS) ?_
                        show own_Run p e below _ (T_304.setTop (mkF m 306 #[.val (.int p1), .val (.int p2), .val (.int wv), .val (.int nv), .val (.int d2), .val (.int d3), .val (.ref b1), .val (.ref b2), .val (.ref b3), .val (.int cz), .val (.int (Int32.ofInt ((n2 : Nat) : Int))), .val (.int (1 : Int32)), .val (.int (1 : Int32))] [(.int d3)]))
                        refine own_go (fun _ kS => XS.iconst X_304.here hx rfl (hb hby at_306) kS) ?_
                        show own_Run p e below _ (T_304.setTop (mkF m 307 #[.val (.int p1), .val (.int p2), .val (.int wv), .val (.int nv), .val (.int d2), .val (.int d3), .val (.ref b1), .val (.ref b2), .val (.ref b3), .val (.int cz), .val (.int (Int32.ofInt ((n2 : Nat) : Int))), .val (.int (1 : Int32)), .val (.int (1 : Int32))] [(.int (3 : Int32)), (.int d3)]))
                        have J315 : ∀  (T_315 : State) (h_315 : Heap) (locs_315 : List Loc), Stand p l e room_1 s m #[(.int p1), (.int p2)] below meth c T_315 locs_315 4 49158 → T_315.heap = h_315 → Fr n0 locs_315 → n0 ≤ h_315.size → own_Arr Z h_315 b1 .int 16384 (fun k => .int ((own_gs 3 nd3 (2 : Int32) (own_gs 3 nd2 (1 : Int32) (fun _ => (0 : Int32)))) k)) → Exa Z h_315 b3 "com/example/smallscope/smallscope/Chunk" → Fld Z h_315 b3 "com/example/smallscope/smallscope/Chunk" "width" "I" (.int wv) → Fld Z h_315 b3 "com/example/smallscope/smallscope/Chunk" "ints" "[I" (.ref b4) → Fld Z h_315 b3 "com/example/smallscope/smallscope/Chunk" "used" "I" (.int (Int32.ofInt ((n2 : Nat) : Int))) → Fld Z h_315 b3 "com/example/smallscope/smallscope/Chunk" "count" "I" (.int (((0 : Int32) + (1 : Int32)) + (1 : Int32))) → own_Arr Z h_315 b4 .int nc fi11 → own_Arr Z h_315 b2 .int 16384 (fun k => .int (L11x k)) → own_Run p e below (own_End s room_1 (Q_law Z p1 p2 n0 h0)) (T_315.setTop (mkF m 315 #[.val (.int p1), .val (.int p2), .val (.int wv), .val (.int nv), .val (.int d2), .val (.int d3), .val (.ref b1), .val (.ref b2), .val (.ref b3), .val (.int cz), .val (.int (Int32.ofInt ((n2 : Nat) : Int))), .val (.int (1 : Int32)), .val (.int (1 : Int32))] [])) := by
                          intro  T_315 h_315 locs_315 X_315 e_315 N hz A1 A11 F11_width F11_ints F11_used F11_count V11 Y11
                          show own_Run p e below _ (T_315.setTop (mkF m 315 #[.val (.int p1), .val (.int p2), .val (.int wv), .val (.int nv), .val (.int d2), .val (.int d3), .val (.ref b1), .val (.ref b2), .val (.ref b3), .val (.int cz), .val (.int (Int32.ofInt ((n2 : Nat) : Int))), .val (.int (1 : Int32)), .val (.int (1 : Int32))] []))
                          refine own_go (fun _ kS => XS.aload X_315.here hx rfl (hb hby at_315) rfl rfl kS) ?_
                          show own_Run p e below _ (T_315.setTop (mkF m 317 #[.val (.int p1), .val (.int p2), .val (.int wv), .val (.int nv), .val (.int d2), .val (.int d3), .val (.ref b1), .val (.ref b2), .val (.ref b3), .val (.int cz), .val (.int (Int32.ofInt ((n2 : Nat) : Int))), .val (.int (1 : Int32)), .val (.int (1 : Int32))] [(.ref b3)]))
                          refine own_go (fun _ kS => XS.aload X_315.here hx rfl (hb hby at_317) rfl rfl kS) ?_
                          show own_Run p e below _ (T_315.setTop (mkF m 319 #[.val (.int p1), .val (.int p2), .val (.int wv), .val (.int nv), .val (.int d2), .val (.int d3), .val (.ref b1), .val (.ref b2), .val (.ref b3), .val (.int cz), .val (.int (Int32.ofInt ((n2 : Nat) : Int))), .val (.int (1 : Int32)), .val (.int (1 : Int32))] [(.ref b1), (.ref b3)]))
                          refine own_go (fun _ kS => XS.aload X_315.here hx rfl (hb hby at_319) rfl rfl kS) ?_
                          show own_Run p e below _ (T_315.setTop (mkF m 321 #[.val (.int p1), .val (.int p2), .val (.int wv), .val (.int nv), .val (.int d2), .val (.int d3), .val (.ref b1), .val (.ref b2), .val (.ref b3), .val (.int cz), .val (.int (Int32.ofInt ((n2 : Nat) : Int))), .val (.int (1 : Int32)), .val (.int (1 : Int32))] [(.ref b2), (.ref b1), (.ref b3)]))
                          refine own_callV X_315 hx hZ e_315 hown (⟨"com/example/smallscope/smallscope/Chunk", "add", "([I[I)I"⟩ : MethodName) (hw _ (List.mem_of_getElem? (i := 27) rfl)) (hw _ (List.mem_of_getElem? (i := 28) rfl)) (hw _ (List.mem_of_getElem? (i := 30) rfl)) (hw _ (List.mem_of_getElem? (i := 29) rfl)) (hw _ (List.mem_of_getElem? (i := 4) rfl)) (hw _ (List.mem_of_getElem? (i := 31) rfl)) (by decide) b3 A11 [(.ref b1), (.ref b2)] [] (rm_add l Z a0 hw b3 b1 b2 wv (((0 : Int32) + (1 : Int32)) + (1 : Int32)) b4 (n2) nw nc nd3 fi11 ((own_gs 3 nd3 (2 : Int32) (own_gs 3 nd2 (1 : Int32) (fun _ => (0 : Int32))))) (L11x) n0 h_315 hz A11 F11_width F11_ints F11_used F11_count V11 A1 Y11 g_b3 g_b4 g_b2 (Ne.symm ne_b3_b4) ne_b1_b3 ne_b2_b3 ne_b1_b4 ne_b1_b2 ne_b2_b4 hwn hnw hm2 hnc (fun _ j hj => by rw [hL11 j hj]; exact own_diff3 nd2 nd3 (by omega) (by omega) j)) (by decide) 0 (by decide) (by decide) (by decide) rfl (by rw [hml]; rfl) (lenOf own_pd5 rfl) rfl (by show 2 * 0 + _ ≤ _; exact Nat.le_of_eq rfl) (hb hby at_321) (fun v15 h15 L15 T15 Q15 X15 e15 => ?_)
                          obtain ⟨rx15, L15x, rfl, Nq15, Kq15, A15, F15_width, F15_ints, F15_used, F15_count, ⟨fi15, V15⟩, Y15, hL15⟩ := Q15
                          replace A1 := A1.keep Kq15 (ninS ne_b1_b3 (ninS ne_b1_b4 (ninS ne_b1_b2 nin0)))
                          replace hz := Nat.le_trans hz Kq15.1
                          replace N := N.app Nq15
                          show own_Run p e below _ (T15.setTop (mkF m 324 #[.val (.int p1), .val (.int p2), .val (.int wv), .val (.int nv), .val (.int d2), .val (.int d3), .val (.ref b1), .val (.ref b2), .val (.ref b3), .val (.int cz), .val (.int (Int32.ofInt ((n2 : Nat) : Int))), .val (.int (1 : Int32)), .val (.int (1 : Int32))] [(.int rx15)]))
                          refine own_go (fun _ kS => XS.pop X15.here hx rfl (hb hby at_324) rfl rfl kS) ?_
                          show own_Run p e below _ (T15.setTop (mkF m 325 #[.val (.int p1), .val (.int p2), .val (.int wv), .val (.int nv), .val (.int d2), .val (.int d3), .val (.ref b1), .val (.ref b2), .val (.ref b3), .val (.int cz), .val (.int (Int32.ofInt ((n2 : Nat) : Int))), .val (.int (1 : Int32)), .val (.int (1 : Int32))] []))
                          refine own_go (fun _ kS => XS.iload X15.here hx rfl (hb hby at_325) rfl kS) ?_
                          show own_Run p e below _ (T15.setTop (mkF m 327 #[.val (.int p1), .val (.int p2), .val (.int wv), .val (.int nv), .val (.int d2), .val (.int d3), .val (.ref b1), .val (.ref b2), .val (.ref b3), .val (.int cz), .val (.int (Int32.ofInt ((n2 : Nat) : Int))), .val (.int (1 : Int32)), .val (.int (1 : Int32))] [(.int (Int32.ofInt ((n2 : Nat) : Int)))]))
                          refine own_go (fun _ kS => XS.iload X15.here hx rfl (hb hby at_327) rfl kS) ?_
                          show own_Run p e below _ (T15.setTop (mkF m 329 #[.val (.int p1), .val (.int p2), .val (.int wv), .val (.int nv), .val (.int d2), .val (.int d3), .val (.ref b1), .val (.ref b2), .val (.ref b3), .val (.int cz), .val (.int (Int32.ofInt ((n2 : Nat) : Int))), .val (.int (1 : Int32)), .val (.int (1 : Int32))] [(.int d3), (.int (Int32.ofInt ((n2 : Nat) : Int)))]))
                          refine own_go (fun _ kS => XS.iloadN X15.here hx rfl (hb hby at_329) rfl kS) ?_
                          show own_Run p e below _ (T15.setTop (mkF m 330 #[.val (.int p1), .val (.int p2), .val (.int wv), .val (.int nv), .val (.int d2), .val (.int d3), .val (.ref b1), .val (.ref b2), .val (.ref b3), .val (.int cz), .val (.int (Int32.ofInt ((n2 : Nat) : Int))), .val (.int (1 : Int32)), .val (.int (1 : Int32))] [(.int wv), (.int d3), (.int (Int32.ofInt ((n2 : Nat) : Int)))]))
                          refine own_callS X15 hx hZ e15 hown (⟨"com/example/smallscope/smallscope/ChunkHasRoomPinLaw", "cost", "(II)I"⟩ : MethodName) (hw _ (List.mem_of_getElem? (i := 46) rfl)) (hw _ (List.mem_of_getElem? (i := 47) rfl)) (hw _ (List.mem_of_getElem? (i := 48) rfl)) (hw _ (List.mem_of_getElem? (i := 49) rfl)) (by decide) [(.int d3), (.int wv)] [(.int (Int32.ofInt ((n2 : Nat) : Int)))] (rm_cost l Z a0 hw d3 wv h15) (by decide) 1 (by decide) (by decide) (by decide) rfl (by rw [hml]; rfl) (lenOf own_pd0 rfl) rfl (by show 2 * 0 + _ ≤ _; exact Nat.le_of_eq rfl) (hb hby at_330) (fun v16 h16 L16 T16 Q16 X16 e16 => ?_)
                          obtain ⟨rfl, rfl, rfl⟩ := Q16
                          replace N := N.app (Fr.nil n0)
                          show own_Run p e below _ (T16.setTop (mkF m 333 #[.val (.int p1), .val (.int p2), .val (.int wv), .val (.int nv), .val (.int d2), .val (.int d3), .val (.ref b1), .val (.ref b2), .val (.ref b3), .val (.int cz), .val (.int (Int32.ofInt ((n2 : Nat) : Int))), .val (.int (1 : Int32)), .val (.int (1 : Int32))] [(.int (own_cost d3 wv)), (.int (Int32.ofInt ((n2 : Nat) : Int)))]))
                          refine own_go (fun _ kS => XS.iadd X16.here hx rfl (hb hby at_333) rfl kS) ?_
                          show own_Run p e below _ (T16.setTop (mkF m 334 #[.val (.int p1), .val (.int p2), .val (.int wv), .val (.int nv), .val (.int d2), .val (.int d3), .val (.ref b1), .val (.ref b2), .val (.ref b3), .val (.int cz), .val (.int (Int32.ofInt ((n2 : Nat) : Int))), .val (.int (1 : Int32)), .val (.int (1 : Int32))] [(.int ((Int32.ofInt ((n2 : Nat) : Int)) + (own_cost d3 wv)))]))
                          refine own_go (fun _ kS => XS.istore X16.here hx rfl (hb hby at_334) rfl (l' := #[.val (.int p1), .val (.int p2), .val (.int wv), .val (.int nv), .val (.int d2), .val (.int d3), .val (.ref b1), .val (.ref b2), .val (.ref b3), .val (.int cz), .val (.int ((Int32.ofInt ((n2 : Nat) : Int)) + (own_cost d3 wv))), .val (.int (1 : Int32)), .val (.int (1 : Int32))]) rfl kS) ?_
                          show own_Run p e below _ (T16.setTop (mkF m 336 #[.val (.int p1), .val (.int p2), .val (.int wv), .val (.int nv), .val (.int d2), .val (.int d3), .val (.ref b1), .val (.ref b2), .val (.ref b3), .val (.int cz), .val (.int ((Int32.ofInt ((n2 : Nat) : Int)) + (own_cost d3 wv))), .val (.int (1 : Int32)), .val (.int (1 : Int32))] []))
                          obtain ⟨n3, hn3⟩ : ∃ q : Nat, q = own_use (((0 : Int32) + (1 : Int32)) + (1 : Int32)) (n2) nw nd3 := ⟨_, rfl⟩
                          have hb_n3 := own_useb_of hn3
                          rw [← hn3] at F15_used
                          rw [own_u2 d3 wv nw nc n2 nd3 n3 hwn hnd3 (by omega) hnw hnc (by omega) (by decide) hn3]
                          refine own_go (fun _ kS => XS.iload X16.here hx rfl (hb hby at_336) rfl kS) ?_
                          show own_Run p e below _ (T16.setTop (mkF m 338 #[.val (.int p1), .val (.int p2), .val (.int wv), .val (.int nv), .val (.int d2), .val (.int d3), .val (.ref b1), .val (.ref b2), .val (.ref b3), .val (.int cz), .val (.int (Int32.ofInt ((n3 : Nat) : Int))), .val (.int (1 : Int32)), .val (.int (1 : Int32))] [(.int cz)]))
                          refine own_go (fun _ kS => XS.iload X16.here hx rfl (hb hby at_338) rfl kS) ?_
                          show own_Run p e below _ (T16.setTop (mkF m 340 #[.val (.int p1), .val (.int p2), .val (.int wv), .val (.int nv), .val (.int d2), .val (.int d3), .val (.ref b1), .val (.ref b2), .val (.ref b3), .val (.int cz), .val (.int (Int32.ofInt ((n3 : Nat) : Int))), .val (.int (1 : Int32)), .val (.int (1 : Int32))] [(.int (Int32.ofInt ((n3 : Nat) : Int))), (.int cz)]))
                          refine own_go (fun _ kS => XS.isub X16.here hx rfl (hb hby at_340) rfl kS) ?_
                          show own_Run p e below _ (T16.setTop (mkF m 341 #[.val (.int p1), .val (.int p2), .val (.int wv), .val (.int nv), .val (.int d2), .val (.int d3), .val (.ref b1), .val (.ref b2), .val (.ref b3), .val (.int cz), .val (.int (Int32.ofInt ((n3 : Nat) : Int))), .val (.int (1 : Int32)), .val (.int (1 : Int32))] [(.int (cz - (Int32.ofInt ((n3 : Nat) : Int))))]))
                          refine own_go (fun _ kS => XS.iconst X16.here hx rfl (hb hby at_341) kS) ?_
                          show own_Run p e below _ (T16.setTop (mkF m 342 #[.val (.int p1), .val (.int p2), .val (.int wv), .val (.int nv), .val (.int d2), .val (.int d3), .val (.ref b1), .val (.ref b2), .val (.ref b3), .val (.int cz), .val (.int (Int32.ofInt ((n3 : Nat) : Int))), .val (.int (1 : Int32)), .val (.int (1 : Int32))] [(.int (1 : Int32)), (.int (cz - (Int32.ofInt ((n3 : Nat) : Int))))]))
                          refine own_go (fun _ kS => XS.iloadN X16.here hx rfl (hb hby at_342) rfl kS) ?_
                          show own_Run p e below _ (T16.setTop (mkF m 343 #[.val (.int p1), .val (.int p2), .val (.int wv), .val (.int nv), .val (.int d2), .val (.int d3), .val (.ref b1), .val (.ref b2), .val (.ref b3), .val (.int cz), .val (.int (Int32.ofInt ((n3 : Nat) : Int))), .val (.int (1 : Int32)), .val (.int (1 : Int32))] [(.int wv), (.int (1 : Int32)), (.int (cz - (Int32.ofInt ((n3 : Nat) : Int))))]))
                          refine own_go (fun _ kS => XS.iadd X16.here hx rfl (hb hby at_343) rfl kS) ?_
                          show own_Run p e below _ (T16.setTop (mkF m 344 #[.val (.int p1), .val (.int p2), .val (.int wv), .val (.int nv), .val (.int d2), .val (.int d3), .val (.ref b1), .val (.ref b2), .val (.ref b3), .val (.int cz), .val (.int (Int32.ofInt ((n3 : Nat) : Int))), .val (.int (1 : Int32)), .val (.int (1 : Int32))] [(.int ((1 : Int32) + wv)), (.int (cz - (Int32.ofInt ((n3 : Nat) : Int))))]))
                          by_cases hc344 : (cz - (Int32.ofInt ((n3 : Nat) : Int))) < ((1 : Int32) + wv)
                          · refine own_go (fun _ kS => XS.icmpYes X16.here hx rfl (pc0 := 344) (pc' := 351) rfl (hb hby at_344) rfl (tlt hc344).1 (by decide) (by decide) kS) ?_
                            show own_Run p e below _ (T16.setTop (mkF m 351 #[.val (.int p1), .val (.int p2), .val (.int wv), .val (.int nv), .val (.int d2), .val (.int d3), .val (.ref b1), .val (.ref b2), .val (.ref b3), .val (.int cz), .val (.int (Int32.ofInt ((n3 : Nat) : Int))), .val (.int (1 : Int32)), .val (.int (1 : Int32))] []))
                            refine own_go (fun _ kS => XS.iconst X16.here hx rfl (hb hby at_351) kS) ?_
                            show own_Run p e below _ (T16.setTop (mkF m 352 #[.val (.int p1), .val (.int p2), .val (.int wv), .val (.int nv), .val (.int d2), .val (.int d3), .val (.ref b1), .val (.ref b2), .val (.ref b3), .val (.int cz), .val (.int (Int32.ofInt ((n3 : Nat) : Int))), .val (.int (1 : Int32)), .val (.int (1 : Int32))] [(.int (0 : Int32))]))
                            refine own_go (fun _ kS => XS.istore X16.here hx rfl (hb hby at_352) rfl (l' := #[.val (.int p1), .val (.int p2), .val (.int wv), .val (.int nv), .val (.int d2), .val (.int d3), .val (.ref b1), .val (.ref b2), .val (.ref b3), .val (.int cz), .val (.int (Int32.ofInt ((n3 : Nat) : Int))), .val (.int (0 : Int32)), .val (.int (1 : Int32))]) rfl kS) ?_
                            show own_Run p e below _ (T16.setTop (mkF m 354 #[.val (.int p1), .val (.int p2), .val (.int wv), .val (.int nv), .val (.int d2), .val (.int d3), .val (.ref b1), .val (.ref b2), .val (.ref b3), .val (.int cz), .val (.int (Int32.ofInt ((n3 : Nat) : Int))), .val (.int (0 : Int32)), .val (.int (1 : Int32))] []))
                            refine own_go (fun _ kS => XS.iload X16.here hx rfl (hb hby at_354) rfl kS) ?_
                            show own_Run p e below _ (T16.setTop (mkF m 356 #[.val (.int p1), .val (.int p2), .val (.int wv), .val (.int nv), .val (.int d2), .val (.int d3), .val (.ref b1), .val (.ref b2), .val (.ref b3), .val (.int cz), .val (.int (Int32.ofInt ((n3 : Nat) : Int))), .val (.int (0 : Int32)), .val (.int (1 : Int32))] [(.int (1 : Int32))]))
                            refine own_go (fun _ kS => XS.ifNo X16.here hx rfl (hb hby at_356) rfl ((if0 _ _).trans (feq (show ¬ ((1 : Int32) = (0 : Int32)) from (by decide))).1) kS) ?_
                            show own_Run p e below _ (T16.setTop (mkF m 359 #[.val (.int p1), .val (.int p2), .val (.int wv), .val (.int nv), .val (.int d2), .val (.int d3), .val (.ref b1), .val (.ref b2), .val (.ref b3), .val (.int cz), .val (.int (Int32.ofInt ((n3 : Nat) : Int))), .val (.int (0 : Int32)), .val (.int (1 : Int32))] []))
                            refine own_go (fun _ kS => XS.aload X16.here hx rfl (hb hby at_359) rfl rfl kS) ?_
                            show own_Run p e below _ (T16.setTop (mkF m 361 #[.val (.int p1), .val (.int p2), .val (.int wv), .val (.int nv), .val (.int d2), .val (.int d3), .val (.ref b1), .val (.ref b2), .val (.ref b3), .val (.int cz), .val (.int (Int32.ofInt ((n3 : Nat) : Int))), .val (.int (0 : Int32)), .val (.int (1 : Int32))] [(.ref b3)]))
                            refine own_callV X16 hx hZ e16 hown (⟨"com/example/smallscope/smallscope/Chunk", "hasRoom", "()Z"⟩ : MethodName) (hw _ (List.mem_of_getElem? (i := 20) rfl)) (hw _ (List.mem_of_getElem? (i := 21) rfl)) (hw _ (List.mem_of_getElem? (i := 23) rfl)) (hw _ (List.mem_of_getElem? (i := 22) rfl)) (hw _ (List.mem_of_getElem? (i := 4) rfl)) (hw _ (List.mem_of_getElem? (i := 24) rfl)) (by decide) b3 A15 [] [] (rm_hr l Z a0 hw b3 (Int32.ofInt ((n3 : Nat) : Int)) wv cz b4 nc fi15 h15 F15_used F15_width F15_ints V15 hcz) (by decide) 0 (by decide) (by decide) (by decide) rfl (by rw [hml]; rfl) (lenOf own_pd4 rfl) rfl (by show 2 * 0 + _ ≤ _; exact Nat.le_of_eq rfl) (hb hby at_361) (fun v17 h17 L17 T17 Q17 X17 e17 => ?_)
                            obtain ⟨rfl, rfl, rfl⟩ := Q17
                            replace N := N.app (Fr.nil n0)
                            show own_Run p e below _ (T17.setTop (mkF m 364 #[.val (.int p1), .val (.int p2), .val (.int wv), .val (.int nv), .val (.int d2), .val (.int d3), .val (.ref b1), .val (.ref b2), .val (.ref b3), .val (.int cz), .val (.int (Int32.ofInt ((n3 : Nat) : Int))), .val (.int (0 : Int32)), .val (.int (1 : Int32))] [(.int (own_hr (Int32.ofInt ((n3 : Nat) : Int)) wv cz))]))
                            refine own_go (fun _ kS => XS.iload X17.here hx rfl (hb hby at_364) rfl kS) ?_
                            show own_Run p e below _ (T17.setTop (mkF m 366 #[.val (.int p1), .val (.int p2), .val (.int wv), .val (.int nv), .val (.int d2), .val (.int d3), .val (.ref b1), .val (.ref b2), .val (.ref b3), .val (.int cz), .val (.int (Int32.ofInt ((n3 : Nat) : Int))), .val (.int (0 : Int32)), .val (.int (1 : Int32))] [(.int (0 : Int32)), (.int (own_hr (Int32.ofInt ((n3 : Nat) : Int)) wv cz))]))
                            refine own_go (fun _ kS => XS.icmpNo X17.here hx rfl (hb hby at_366) rfl (teq (show (own_hr (Int32.ofInt ((n3 : Nat) : Int)) wv cz) = (0 : Int32) from (own_hr0 wv cz nw nc (n3) hwn hcz hw1 (by omega) hc344))).2 kS) ?_
                            show own_Run p e below _ (T17.setTop (mkF m 369 #[.val (.int p1), .val (.int p2), .val (.int wv), .val (.int nv), .val (.int d2), .val (.int d3), .val (.ref b1), .val (.ref b2), .val (.ref b3), .val (.int cz), .val (.int (Int32.ofInt ((n3 : Nat) : Int))), .val (.int (0 : Int32)), .val (.int (1 : Int32))] []))
                            refine own_go (fun _ kS => XS.iconst X17.here hx rfl (hb hby at_369) kS) ?_
                            show own_Run p e below _ (T17.setTop (mkF m 370 #[.val (.int p1), .val (.int p2), .val (.int wv), .val (.int nv), .val (.int d2), .val (.int d3), .val (.ref b1), .val (.ref b2), .val (.ref b3), .val (.int cz), .val (.int (Int32.ofInt ((n3 : Nat) : Int))), .val (.int (0 : Int32)), .val (.int (1 : Int32))] [(.int (1 : Int32))]))
                            refine own_go (fun _ kS => XS.goto X17.here hx rfl (pc0 := 370) (pc' := 374) rfl (hb hby at_370) (by decide) (by decide) kS) ?_
                            show own_Run p e below _ (T17.setTop (mkF m 374 #[.val (.int p1), .val (.int p2), .val (.int wv), .val (.int nv), .val (.int d2), .val (.int d3), .val (.ref b1), .val (.ref b2), .val (.ref b3), .val (.int cz), .val (.int (Int32.ofInt ((n3 : Nat) : Int))), .val (.int (0 : Int32)), .val (.int (1 : Int32))] [(.int (1 : Int32))]))
                            refine own_go (fun _ kS => XS.istore X17.here hx rfl (hb hby at_374) rfl (l' := #[.val (.int p1), .val (.int p2), .val (.int wv), .val (.int nv), .val (.int d2), .val (.int d3), .val (.ref b1), .val (.ref b2), .val (.ref b3), .val (.int cz), .val (.int (Int32.ofInt ((n3 : Nat) : Int))), .val (.int (0 : Int32)), .val (.int (1 : Int32))]) rfl kS) ?_
                            show own_Run p e below _ (T17.setTop (mkF m 376 #[.val (.int p1), .val (.int p2), .val (.int wv), .val (.int nv), .val (.int d2), .val (.int d3), .val (.ref b1), .val (.ref b2), .val (.ref b3), .val (.int cz), .val (.int (Int32.ofInt ((n3 : Nat) : Int))), .val (.int (0 : Int32)), .val (.int (1 : Int32))] []))
                            refine own_go (fun _ kS => XS.iload X17.here hx rfl (hb hby at_376) rfl kS) ?_
                            show own_Run p e below _ (T17.setTop (mkF m 378 #[.val (.int p1), .val (.int p2), .val (.int wv), .val (.int nv), .val (.int d2), .val (.int d3), .val (.ref b1), .val (.ref b2), .val (.ref b3), .val (.int cz), .val (.int (Int32.ofInt ((n3 : Nat) : Int))), .val (.int (0 : Int32)), .val (.int (1 : Int32))] [(.int (1 : Int32))]))
                            refine own_retN X17 hx (t := .boolean) hret hlk (by simp) (hb hby at_378) (by decide) (by decide) ?_
                            exact ⟨rfl, N⟩
                          · refine own_go (fun _ kS => XS.icmpNo X16.here hx rfl (hb hby at_344) rfl (flt hc344).1 kS) ?_
                            show own_Run p e below _ (T16.setTop (mkF m 347 #[.val (.int p1), .val (.int p2), .val (.int wv), .val (.int nv), .val (.int d2), .val (.int d3), .val (.ref b1), .val (.ref b2), .val (.ref b3), .val (.int cz), .val (.int (Int32.ofInt ((n3 : Nat) : Int))), .val (.int (1 : Int32)), .val (.int (1 : Int32))] []))
                            refine own_go (fun _ kS => XS.iconst X16.here hx rfl (hb hby at_347) kS) ?_
                            show own_Run p e below _ (T16.setTop (mkF m 348 #[.val (.int p1), .val (.int p2), .val (.int wv), .val (.int nv), .val (.int d2), .val (.int d3), .val (.ref b1), .val (.ref b2), .val (.ref b3), .val (.int cz), .val (.int (Int32.ofInt ((n3 : Nat) : Int))), .val (.int (1 : Int32)), .val (.int (1 : Int32))] [(.int (1 : Int32))]))
                            refine own_go (fun _ kS => XS.goto X16.here hx rfl (pc0 := 348) (pc' := 352) rfl (hb hby at_348) (by decide) (by decide) kS) ?_
                            show own_Run p e below _ (T16.setTop (mkF m 352 #[.val (.int p1), .val (.int p2), .val (.int wv), .val (.int nv), .val (.int d2), .val (.int d3), .val (.ref b1), .val (.ref b2), .val (.ref b3), .val (.int cz), .val (.int (Int32.ofInt ((n3 : Nat) : Int))), .val (.int (1 : Int32)), .val (.int (1 : Int32))] [(.int (1 : Int32))]))
                            refine own_go (fun _ kS => XS.istore X16.here hx rfl (hb hby at_352) rfl (l' := #[.val (.int p1), .val (.int p2), .val (.int wv), .val (.int nv), .val (.int d2), .val (.int d3), .val (.ref b1), .val (.ref b2), .val (.ref b3), .val (.int cz), .val (.int (Int32.ofInt ((n3 : Nat) : Int))), .val (.int (1 : Int32)), .val (.int (1 : Int32))]) rfl kS) ?_
                            show own_Run p e below _ (T16.setTop (mkF m 354 #[.val (.int p1), .val (.int p2), .val (.int wv), .val (.int nv), .val (.int d2), .val (.int d3), .val (.ref b1), .val (.ref b2), .val (.ref b3), .val (.int cz), .val (.int (Int32.ofInt ((n3 : Nat) : Int))), .val (.int (1 : Int32)), .val (.int (1 : Int32))] []))
                            refine own_go (fun _ kS => XS.iload X16.here hx rfl (hb hby at_354) rfl kS) ?_
                            show own_Run p e below _ (T16.setTop (mkF m 356 #[.val (.int p1), .val (.int p2), .val (.int wv), .val (.int nv), .val (.int d2), .val (.int d3), .val (.ref b1), .val (.ref b2), .val (.ref b3), .val (.int cz), .val (.int (Int32.ofInt ((n3 : Nat) : Int))), .val (.int (1 : Int32)), .val (.int (1 : Int32))] [(.int (1 : Int32))]))
                            refine own_go (fun _ kS => XS.ifNo X16.here hx rfl (hb hby at_356) rfl ((if0 _ _).trans (feq (show ¬ ((1 : Int32) = (0 : Int32)) from (by decide))).1) kS) ?_
                            show own_Run p e below _ (T16.setTop (mkF m 359 #[.val (.int p1), .val (.int p2), .val (.int wv), .val (.int nv), .val (.int d2), .val (.int d3), .val (.ref b1), .val (.ref b2), .val (.ref b3), .val (.int cz), .val (.int (Int32.ofInt ((n3 : Nat) : Int))), .val (.int (1 : Int32)), .val (.int (1 : Int32))] []))
                            refine own_go (fun _ kS => XS.aload X16.here hx rfl (hb hby at_359) rfl rfl kS) ?_
                            show own_Run p e below _ (T16.setTop (mkF m 361 #[.val (.int p1), .val (.int p2), .val (.int wv), .val (.int nv), .val (.int d2), .val (.int d3), .val (.ref b1), .val (.ref b2), .val (.ref b3), .val (.int cz), .val (.int (Int32.ofInt ((n3 : Nat) : Int))), .val (.int (1 : Int32)), .val (.int (1 : Int32))] [(.ref b3)]))
                            refine own_callV X16 hx hZ e16 hown (⟨"com/example/smallscope/smallscope/Chunk", "hasRoom", "()Z"⟩ : MethodName) (hw _ (List.mem_of_getElem? (i := 20) rfl)) (hw _ (List.mem_of_getElem? (i := 21) rfl)) (hw _ (List.mem_of_getElem? (i := 23) rfl)) (hw _ (List.mem_of_getElem? (i := 22) rfl)) (hw _ (List.mem_of_getElem? (i := 4) rfl)) (hw _ (List.mem_of_getElem? (i := 24) rfl)) (by decide) b3 A15 [] [] (rm_hr l Z a0 hw b3 (Int32.ofInt ((n3 : Nat) : Int)) wv cz b4 nc fi15 h15 F15_used F15_width F15_ints V15 hcz) (by decide) 0 (by decide) (by decide) (by decide) rfl (by rw [hml]; rfl) (lenOf own_pd4 rfl) rfl (by show 2 * 0 + _ ≤ _; exact Nat.le_of_eq rfl) (hb hby at_361) (fun v18 h18 L18 T18 Q18 X18 e18 => ?_)
                            obtain ⟨rfl, rfl, rfl⟩ := Q18
                            replace N := N.app (Fr.nil n0)
                            show own_Run p e below _ (T18.setTop (mkF m 364 #[.val (.int p1), .val (.int p2), .val (.int wv), .val (.int nv), .val (.int d2), .val (.int d3), .val (.ref b1), .val (.ref b2), .val (.ref b3), .val (.int cz), .val (.int (Int32.ofInt ((n3 : Nat) : Int))), .val (.int (1 : Int32)), .val (.int (1 : Int32))] [(.int (own_hr (Int32.ofInt ((n3 : Nat) : Int)) wv cz))]))
                            refine own_go (fun _ kS => XS.iload X18.here hx rfl (hb hby at_364) rfl kS) ?_
                            show own_Run p e below _ (T18.setTop (mkF m 366 #[.val (.int p1), .val (.int p2), .val (.int wv), .val (.int nv), .val (.int d2), .val (.int d3), .val (.ref b1), .val (.ref b2), .val (.ref b3), .val (.int cz), .val (.int (Int32.ofInt ((n3 : Nat) : Int))), .val (.int (1 : Int32)), .val (.int (1 : Int32))] [(.int (1 : Int32)), (.int (own_hr (Int32.ofInt ((n3 : Nat) : Int)) wv cz))]))
                            refine own_go (fun _ kS => XS.icmpNo X18.here hx rfl (hb hby at_366) rfl (teq (show (own_hr (Int32.ofInt ((n3 : Nat) : Int)) wv cz) = (1 : Int32) from (own_hr1 wv cz nw nc (n3) hwn hcz hw1 (by omega) hc344))).2 kS) ?_
                            show own_Run p e below _ (T18.setTop (mkF m 369 #[.val (.int p1), .val (.int p2), .val (.int wv), .val (.int nv), .val (.int d2), .val (.int d3), .val (.ref b1), .val (.ref b2), .val (.ref b3), .val (.int cz), .val (.int (Int32.ofInt ((n3 : Nat) : Int))), .val (.int (1 : Int32)), .val (.int (1 : Int32))] []))
                            refine own_go (fun _ kS => XS.iconst X18.here hx rfl (hb hby at_369) kS) ?_
                            show own_Run p e below _ (T18.setTop (mkF m 370 #[.val (.int p1), .val (.int p2), .val (.int wv), .val (.int nv), .val (.int d2), .val (.int d3), .val (.ref b1), .val (.ref b2), .val (.ref b3), .val (.int cz), .val (.int (Int32.ofInt ((n3 : Nat) : Int))), .val (.int (1 : Int32)), .val (.int (1 : Int32))] [(.int (1 : Int32))]))
                            refine own_go (fun _ kS => XS.goto X18.here hx rfl (pc0 := 370) (pc' := 374) rfl (hb hby at_370) (by decide) (by decide) kS) ?_
                            show own_Run p e below _ (T18.setTop (mkF m 374 #[.val (.int p1), .val (.int p2), .val (.int wv), .val (.int nv), .val (.int d2), .val (.int d3), .val (.ref b1), .val (.ref b2), .val (.ref b3), .val (.int cz), .val (.int (Int32.ofInt ((n3 : Nat) : Int))), .val (.int (1 : Int32)), .val (.int (1 : Int32))] [(.int (1 : Int32))]))
                            refine own_go (fun _ kS => XS.istore X18.here hx rfl (hb hby at_374) rfl (l' := #[.val (.int p1), .val (.int p2), .val (.int wv), .val (.int nv), .val (.int d2), .val (.int d3), .val (.ref b1), .val (.ref b2), .val (.ref b3), .val (.int cz), .val (.int (Int32.ofInt ((n3 : Nat) : Int))), .val (.int (1 : Int32)), .val (.int (1 : Int32))]) rfl kS) ?_
                            show own_Run p e below _ (T18.setTop (mkF m 376 #[.val (.int p1), .val (.int p2), .val (.int wv), .val (.int nv), .val (.int d2), .val (.int d3), .val (.ref b1), .val (.ref b2), .val (.ref b3), .val (.int cz), .val (.int (Int32.ofInt ((n3 : Nat) : Int))), .val (.int (1 : Int32)), .val (.int (1 : Int32))] []))
                            refine own_go (fun _ kS => XS.iload X18.here hx rfl (hb hby at_376) rfl kS) ?_
                            show own_Run p e below _ (T18.setTop (mkF m 378 #[.val (.int p1), .val (.int p2), .val (.int wv), .val (.int nv), .val (.int d2), .val (.int d3), .val (.ref b1), .val (.ref b2), .val (.ref b3), .val (.int cz), .val (.int (Int32.ofInt ((n3 : Nat) : Int))), .val (.int (1 : Int32)), .val (.int (1 : Int32))] [(.int (1 : Int32))]))
                            refine own_retN X18 hx (t := .boolean) hret hlk (by simp) (hb hby at_378) (by decide) (by decide) ?_
                            exact ⟨rfl, N⟩
                        by_cases hc307 : d3 < (3 : Int32)
                        · refine own_go (fun _ kS => XS.icmpYes X_304.here hx rfl (pc0 := 307) (pc' := 315) rfl (hb hby at_307) rfl (tlt hc307).1 (by decide) (by decide) kS) ?_
                          show own_Run p e below _ (T_304.setTop (mkF m 315 #[.val (.int p1), .val (.int p2), .val (.int wv), .val (.int nv), .val (.int d2), .val (.int d3), .val (.ref b1), .val (.ref b2), .val (.ref b3), .val (.int cz), .val (.int (Int32.ofInt ((n2 : Nat) : Int))), .val (.int (1 : Int32)), .val (.int (1 : Int32))] []))
                          exact J315  _ _ _ X_304 e_304 N hz (A1.congr (fun k _ => congrArg Value.int (own_gsn 2 nd3 (2 : Int32) (own_gs 3 nd2 (1 : Int32) (fun _ => (0 : Int32))) (by have q := hc307; rw [Int32.lt_iff_toInt_lt] at q; omega) k))) A11 F11_width F11_ints F11_used F11_count V11 Y11
                        · refine own_go (fun _ kS => XS.icmpNo X_304.here hx rfl (hb hby at_307) rfl (flt hc307).1 kS) ?_
                          show own_Run p e below _ (T_304.setTop (mkF m 310 #[.val (.int p1), .val (.int p2), .val (.int wv), .val (.int nv), .val (.int d2), .val (.int d3), .val (.ref b1), .val (.ref b2), .val (.ref b3), .val (.int cz), .val (.int (Int32.ofInt ((n2 : Nat) : Int))), .val (.int (1 : Int32)), .val (.int (1 : Int32))] []))
                          refine own_go (fun _ kS => XS.aload X_304.here hx rfl (hb hby at_310) rfl rfl kS) ?_
                          show own_Run p e below _ (T_304.setTop (mkF m 312 #[.val (.int p1), .val (.int p2), .val (.int wv), .val (.int nv), .val (.int d2), .val (.int d3), .val (.ref b1), .val (.ref b2), .val (.ref b3), .val (.int cz), .val (.int (Int32.ofInt ((n2 : Nat) : Int))), .val (.int (1 : Int32)), .val (.int (1 : Int32))] [(.ref b1)]))
                          refine own_go (fun _ kS => XS.iconst X_304.here hx rfl (hb hby at_312) kS) ?_
                          show own_Run p e below _ (T_304.setTop (mkF m 313 #[.val (.int p1), .val (.int p2), .val (.int wv), .val (.int nv), .val (.int d2), .val (.int d3), .val (.ref b1), .val (.ref b2), .val (.ref b3), .val (.int cz), .val (.int (Int32.ofInt ((n2 : Nat) : Int))), .val (.int (1 : Int32)), .val (.int (1 : Int32))] [(.int (2 : Int32)), (.ref b1)]))
                          refine own_go (fun _ kS => XS.iconst X_304.here hx rfl (hb hby at_313) kS) ?_
                          show own_Run p e below _ (T_304.setTop (mkF m 314 #[.val (.int p1), .val (.int p2), .val (.int wv), .val (.int nv), .val (.int d2), .val (.int d3), .val (.ref b1), .val (.ref b2), .val (.ref b3), .val (.int cz), .val (.int (Int32.ofInt ((n2 : Nat) : Int))), .val (.int (1 : Int32)), .val (.int (1 : Int32))] [(.int (2 : Int32)), (.int (2 : Int32)), (.ref b1)]))
                          refine own_iastore X_304 hx hZ e_304 A1 (j := (2 : Int32)) ⟨by decide, by decide⟩ rfl rfl (hb hby at_314) (fun T19 h19 X19 e19 W19 A19 => ?_)
                          replace A11 := A11.wr W19
                          replace F11_width := F11_width.other W19 (Or.inl (Ne.symm ne_b1_b3))
                          replace F11_ints := F11_ints.other W19 (Or.inl (Ne.symm ne_b1_b3))
                          replace F11_used := F11_used.other W19 (Or.inl (Ne.symm ne_b1_b3))
                          replace F11_count := F11_count.other W19 (Or.inl (Ne.symm ne_b1_b3))
                          replace V11 := V11.other W19 (Ne.symm ne_b1_b4)
                          replace Y11 := Y11.other W19 (Ne.symm ne_b1_b2)
                          replace hz := Nat.le_trans hz (Nat.le_of_eq W19.size.symm)
                          replace N := Fr.snoc X19 N g_b1
                          replace A19 : own_Arr Z h19 b1 .int 16384 (fun i => if i = 2 then (.int (2 : Int32)) else (fun k => .int ((own_gs 2 nd3 (2 : Int32) (own_gs 3 nd2 (1 : Int32) (fun _ => (0 : Int32)))) k)) i) := A19
                          show own_Run p e below _ (T19.setTop (mkF m 315 #[.val (.int p1), .val (.int p2), .val (.int wv), .val (.int nv), .val (.int d2), .val (.int d3), .val (.ref b1), .val (.ref b2), .val (.ref b3), .val (.int cz), .val (.int (Int32.ofInt ((n2 : Nat) : Int))), .val (.int (1 : Int32)), .val (.int (1 : Int32))] []))
                          exact J315  _ _ _ X19 e19 N hz (A19.congr (fun k _ => own_gst 2 nd3 (2 : Int32) (own_gs 3 nd2 (1 : Int32) (fun _ => (0 : Int32))) (by have q := hc307; rw [Int32.lt_iff_toInt_lt] at q; omega) k)) A11 F11_width F11_ints F11_used F11_count V11 Y11
                      by_cases hc296 : d3 < (2 : Int32)
                      · refine own_go (fun _ kS => XS.icmpYes X_293.here hx rfl (pc0 := 296) (pc' := 304) rfl (hb hby at_296) rfl (tlt hc296).1 (by decide) (by decide) kS) ?_
                        show own_Run p e below _ (T_293.setTop (mkF m 304 #[.val (.int p1), .val (.int p2), .val (.int wv), .val (.int nv), .val (.int d2), .val (.int d3), .val (.ref b1), .val (.ref b2), .val (.ref b3), .val (.int cz), .val (.int (Int32.ofInt ((n2 : Nat) : Int))), .val (.int (1 : Int32)), .val (.int (1 : Int32))] []))
                        exact J304  _ _ _ X_293 e_293 N hz (A1.congr (fun k _ => congrArg Value.int (own_gsn 1 nd3 (2 : Int32) (own_gs 3 nd2 (1 : Int32) (fun _ => (0 : Int32))) (by have q := hc296; rw [Int32.lt_iff_toInt_lt] at q; omega) k))) A11 F11_width F11_ints F11_used F11_count V11 Y11
                      · refine own_go (fun _ kS => XS.icmpNo X_293.here hx rfl (hb hby at_296) rfl (flt hc296).1 kS) ?_
                        show own_Run p e below _ (T_293.setTop (mkF m 299 #[.val (.int p1), .val (.int p2), .val (.int wv), .val (.int nv), .val (.int d2), .val (.int d3), .val (.ref b1), .val (.ref b2), .val (.ref b3), .val (.int cz), .val (.int (Int32.ofInt ((n2 : Nat) : Int))), .val (.int (1 : Int32)), .val (.int (1 : Int32))] []))
                        refine own_go (fun _ kS => XS.aload X_293.here hx rfl (hb hby at_299) rfl rfl kS) ?_
                        show own_Run p e below _ (T_293.setTop (mkF m 301 #[.val (.int p1), .val (.int p2), .val (.int wv), .val (.int nv), .val (.int d2), .val (.int d3), .val (.ref b1), .val (.ref b2), .val (.ref b3), .val (.int cz), .val (.int (Int32.ofInt ((n2 : Nat) : Int))), .val (.int (1 : Int32)), .val (.int (1 : Int32))] [(.ref b1)]))
                        refine own_go (fun _ kS => XS.iconst X_293.here hx rfl (hb hby at_301) kS) ?_
                        show own_Run p e below _ (T_293.setTop (mkF m 302 #[.val (.int p1), .val (.int p2), .val (.int wv), .val (.int nv), .val (.int d2), .val (.int d3), .val (.ref b1), .val (.ref b2), .val (.ref b3), .val (.int cz), .val (.int (Int32.ofInt ((n2 : Nat) : Int))), .val (.int (1 : Int32)), .val (.int (1 : Int32))] [(.int (1 : Int32)), (.ref b1)]))
                        refine own_go (fun _ kS => XS.iconst X_293.here hx rfl (hb hby at_302) kS) ?_
                        show own_Run p e below _ (T_293.setTop (mkF m 303 #[.val (.int p1), .val (.int p2), .val (.int wv), .val (.int nv), .val (.int d2), .val (.int d3), .val (.ref b1), .val (.ref b2), .val (.ref b3), .val (.int cz), .val (.int (Int32.ofInt ((n2 : Nat) : Int))), .val (.int (1 : Int32)), .val (.int (1 : Int32))] [(.int (2 : Int32)), (.int (1 : Int32)), (.ref b1)]))
                        refine own_iastore X_293 hx hZ e_293 A1 (j := (1 : Int32)) ⟨by decide, by decide⟩ rfl rfl (hb hby at_303) (fun T20 h20 X20 e20 W20 A20 => ?_)
                        replace A11 := A11.wr W20
                        replace F11_width := F11_width.other W20 (Or.inl (Ne.symm ne_b1_b3))
                        replace F11_ints := F11_ints.other W20 (Or.inl (Ne.symm ne_b1_b3))
                        replace F11_used := F11_used.other W20 (Or.inl (Ne.symm ne_b1_b3))
                        replace F11_count := F11_count.other W20 (Or.inl (Ne.symm ne_b1_b3))
                        replace V11 := V11.other W20 (Ne.symm ne_b1_b4)
                        replace Y11 := Y11.other W20 (Ne.symm ne_b1_b2)
                        replace hz := Nat.le_trans hz (Nat.le_of_eq W20.size.symm)
                        replace N := Fr.snoc X20 N g_b1
                        replace A20 : own_Arr Z h20 b1 .int 16384 (fun i => if i = 1 then (.int (2 : Int32)) else (fun k => .int ((own_gs 1 nd3 (2 : Int32) (own_gs 3 nd2 (1 : Int32) (fun _ => (0 : Int32)))) k)) i) := A20
                        show own_Run p e below _ (T20.setTop (mkF m 304 #[.val (.int p1), .val (.int p2), .val (.int wv), .val (.int nv), .val (.int d2), .val (.int d3), .val (.ref b1), .val (.ref b2), .val (.ref b3), .val (.int cz), .val (.int (Int32.ofInt ((n2 : Nat) : Int))), .val (.int (1 : Int32)), .val (.int (1 : Int32))] []))
                        exact J304  _ _ _ X20 e20 N hz (A20.congr (fun k _ => own_gst 1 nd3 (2 : Int32) (own_gs 3 nd2 (1 : Int32) (fun _ => (0 : Int32))) (by have q := hc296; rw [Int32.lt_iff_toInt_lt] at q; omega) k)) A11 F11_width F11_ints F11_used F11_count V11 Y11
                    by_cases hc285 : d3 < (1 : Int32)
                    · refine own_go (fun _ kS => XS.icmpYes X14.here hx rfl (pc0 := 285) (pc' := 293) rfl (hb hby at_285) rfl (tlt hc285).1 (by decide) (by decide) kS) ?_
                      show own_Run p e below _ (T14.setTop (mkF m 293 #[.val (.int p1), .val (.int p2), .val (.int wv), .val (.int nv), .val (.int d2), .val (.int d3), .val (.ref b1), .val (.ref b2), .val (.ref b3), .val (.int cz), .val (.int (Int32.ofInt ((n2 : Nat) : Int))), .val (.int (1 : Int32)), .val (.int (1 : Int32))] []))
                      exact J293  _ _ _ X14 e14 N hz (A1.congr (fun k _ => congrArg Value.int (own_gsn 0 nd3 (2 : Int32) (own_gs 3 nd2 (1 : Int32) (fun _ => (0 : Int32))) (by have q := hc285; rw [Int32.lt_iff_toInt_lt] at q; omega) k))) A11 F11_width F11_ints F11_used F11_count V11 Y11
                    · refine own_go (fun _ kS => XS.icmpNo X14.here hx rfl (hb hby at_285) rfl (flt hc285).1 kS) ?_
                      show own_Run p e below _ (T14.setTop (mkF m 288 #[.val (.int p1), .val (.int p2), .val (.int wv), .val (.int nv), .val (.int d2), .val (.int d3), .val (.ref b1), .val (.ref b2), .val (.ref b3), .val (.int cz), .val (.int (Int32.ofInt ((n2 : Nat) : Int))), .val (.int (1 : Int32)), .val (.int (1 : Int32))] []))
                      refine own_go (fun _ kS => XS.aload X14.here hx rfl (hb hby at_288) rfl rfl kS) ?_
                      show own_Run p e below _ (T14.setTop (mkF m 290 #[.val (.int p1), .val (.int p2), .val (.int wv), .val (.int nv), .val (.int d2), .val (.int d3), .val (.ref b1), .val (.ref b2), .val (.ref b3), .val (.int cz), .val (.int (Int32.ofInt ((n2 : Nat) : Int))), .val (.int (1 : Int32)), .val (.int (1 : Int32))] [(.ref b1)]))
                      refine own_go (fun _ kS => XS.iconst X14.here hx rfl (hb hby at_290) kS) ?_
                      show own_Run p e below _ (T14.setTop (mkF m 291 #[.val (.int p1), .val (.int p2), .val (.int wv), .val (.int nv), .val (.int d2), .val (.int d3), .val (.ref b1), .val (.ref b2), .val (.ref b3), .val (.int cz), .val (.int (Int32.ofInt ((n2 : Nat) : Int))), .val (.int (1 : Int32)), .val (.int (1 : Int32))] [(.int (0 : Int32)), (.ref b1)]))
                      refine own_go (fun _ kS => XS.iconst X14.here hx rfl (hb hby at_291) kS) ?_
                      show own_Run p e below _ (T14.setTop (mkF m 292 #[.val (.int p1), .val (.int p2), .val (.int wv), .val (.int nv), .val (.int d2), .val (.int d3), .val (.ref b1), .val (.ref b2), .val (.ref b3), .val (.int cz), .val (.int (Int32.ofInt ((n2 : Nat) : Int))), .val (.int (1 : Int32)), .val (.int (1 : Int32))] [(.int (2 : Int32)), (.int (0 : Int32)), (.ref b1)]))
                      refine own_iastore X14 hx hZ e14 A1 (j := (0 : Int32)) ⟨by decide, by decide⟩ rfl rfl (hb hby at_292) (fun T21 h21 X21 e21 W21 A21 => ?_)
                      replace A11 := A11.wr W21
                      replace F11_width := F11_width.other W21 (Or.inl (Ne.symm ne_b1_b3))
                      replace F11_ints := F11_ints.other W21 (Or.inl (Ne.symm ne_b1_b3))
                      replace F11_used := F11_used.other W21 (Or.inl (Ne.symm ne_b1_b3))
                      replace F11_count := F11_count.other W21 (Or.inl (Ne.symm ne_b1_b3))
                      replace V11 := V11.other W21 (Ne.symm ne_b1_b4)
                      replace Y11 := Y11.other W21 (Ne.symm ne_b1_b2)
                      replace hz := Nat.le_trans hz (Nat.le_of_eq W21.size.symm)
                      replace N := Fr.snoc X21 N g_b1
                      replace A21 : own_Arr Z h21 b1 .int 16384 (fun i => if i = 0 then (.int (2 : Int32)) else (fun k => .int ((own_gs 0 nd3 (2 : Int32) (own_gs 3 nd2 (1 : Int32) (fun _ => (0 : Int32)))) k)) i) := A21
                      show own_Run p e below _ (T21.setTop (mkF m 293 #[.val (.int p1), .val (.int p2), .val (.int wv), .val (.int nv), .val (.int d2), .val (.int d3), .val (.ref b1), .val (.ref b2), .val (.ref b3), .val (.int cz), .val (.int (Int32.ofInt ((n2 : Nat) : Int))), .val (.int (1 : Int32)), .val (.int (1 : Int32))] []))
                      exact J293  _ _ _ X21 e21 N hz (A21.congr (fun k _ => own_gst 0 nd3 (2 : Int32) (own_gs 3 nd2 (1 : Int32) (fun _ => (0 : Int32))) (by have q := hc285; rw [Int32.lt_iff_toInt_lt] at q; omega) k)) A11 F11_width F11_ints F11_used F11_count V11 Y11
              by_cases hc203 : d2 < (3 : Int32)
              · refine own_go (fun _ kS => XS.icmpYes X_200.here hx rfl (pc0 := 203) (pc' := 211) rfl (hb hby at_203) rfl (tlt hc203).1 (by decide) (by decide) kS) ?_
                show own_Run p e below _ (T_200.setTop (mkF m 211 #[.val (.int p1), .val (.int p2), .val (.int wv), .val (.int nv), .val (.int d2), .val (.int d3), .val (.ref b1), .val (.ref b2), .val (.ref b3), .val (.int cz), .val (.int (Int32.ofInt ((n1 : Nat) : Int))), .val (.int (1 : Int32)), .val (.int (1 : Int32))] []))
                exact J211  _ _ _ X_200 e_200 N hz (A1.congr (fun k _ => congrArg Value.int (own_gsn 2 nd2 (1 : Int32) (fun _ => (0 : Int32)) (by have q := hc203; rw [Int32.lt_iff_toInt_lt] at q; omega) k))) A8 F8_width F8_ints F8_used F8_count V8 Y8
              · refine own_go (fun _ kS => XS.icmpNo X_200.here hx rfl (hb hby at_203) rfl (flt hc203).1 kS) ?_
                show own_Run p e below _ (T_200.setTop (mkF m 206 #[.val (.int p1), .val (.int p2), .val (.int wv), .val (.int nv), .val (.int d2), .val (.int d3), .val (.ref b1), .val (.ref b2), .val (.ref b3), .val (.int cz), .val (.int (Int32.ofInt ((n1 : Nat) : Int))), .val (.int (1 : Int32)), .val (.int (1 : Int32))] []))
                refine own_go (fun _ kS => XS.aload X_200.here hx rfl (hb hby at_206) rfl rfl kS) ?_
                show own_Run p e below _ (T_200.setTop (mkF m 208 #[.val (.int p1), .val (.int p2), .val (.int wv), .val (.int nv), .val (.int d2), .val (.int d3), .val (.ref b1), .val (.ref b2), .val (.ref b3), .val (.int cz), .val (.int (Int32.ofInt ((n1 : Nat) : Int))), .val (.int (1 : Int32)), .val (.int (1 : Int32))] [(.ref b1)]))
                refine own_go (fun _ kS => XS.iconst X_200.here hx rfl (hb hby at_208) kS) ?_
                show own_Run p e below _ (T_200.setTop (mkF m 209 #[.val (.int p1), .val (.int p2), .val (.int wv), .val (.int nv), .val (.int d2), .val (.int d3), .val (.ref b1), .val (.ref b2), .val (.ref b3), .val (.int cz), .val (.int (Int32.ofInt ((n1 : Nat) : Int))), .val (.int (1 : Int32)), .val (.int (1 : Int32))] [(.int (2 : Int32)), (.ref b1)]))
                refine own_go (fun _ kS => XS.iconst X_200.here hx rfl (hb hby at_209) kS) ?_
                show own_Run p e below _ (T_200.setTop (mkF m 210 #[.val (.int p1), .val (.int p2), .val (.int wv), .val (.int nv), .val (.int d2), .val (.int d3), .val (.ref b1), .val (.ref b2), .val (.ref b3), .val (.int cz), .val (.int (Int32.ofInt ((n1 : Nat) : Int))), .val (.int (1 : Int32)), .val (.int (1 : Int32))] [(.int (1 : Int32)), (.int (2 : Int32)), (.ref b1)]))
                refine own_iastore X_200 hx hZ e_200 A1 (j := (2 : Int32)) ⟨by decide, by decide⟩ rfl rfl (hb hby at_210) (fun T22 h22 X22 e22 W22 A22 => ?_)
                replace A8 := A8.wr W22
                replace F8_width := F8_width.other W22 (Or.inl (Ne.symm ne_b1_b3))
                replace F8_ints := F8_ints.other W22 (Or.inl (Ne.symm ne_b1_b3))
                replace F8_used := F8_used.other W22 (Or.inl (Ne.symm ne_b1_b3))
                replace F8_count := F8_count.other W22 (Or.inl (Ne.symm ne_b1_b3))
                replace V8 := V8.other W22 (Ne.symm ne_b1_b4)
                replace Y8 := Y8.other W22 (Ne.symm ne_b1_b2)
                replace hz := Nat.le_trans hz (Nat.le_of_eq W22.size.symm)
                replace N := Fr.snoc X22 N g_b1
                replace A22 : own_Arr Z h22 b1 .int 16384 (fun i => if i = 2 then (.int (1 : Int32)) else (fun k => .int ((own_gs 2 nd2 (1 : Int32) (fun _ => (0 : Int32))) k)) i) := A22
                show own_Run p e below _ (T22.setTop (mkF m 211 #[.val (.int p1), .val (.int p2), .val (.int wv), .val (.int nv), .val (.int d2), .val (.int d3), .val (.ref b1), .val (.ref b2), .val (.ref b3), .val (.int cz), .val (.int (Int32.ofInt ((n1 : Nat) : Int))), .val (.int (1 : Int32)), .val (.int (1 : Int32))] []))
                exact J211  _ _ _ X22 e22 N hz (A22.congr (fun k _ => own_gst 2 nd2 (1 : Int32) (fun _ => (0 : Int32)) (by have q := hc203; rw [Int32.lt_iff_toInt_lt] at q; omega) k)) A8 F8_width F8_ints F8_used F8_count V8 Y8
            by_cases hc192 : d2 < (2 : Int32)
            · refine own_go (fun _ kS => XS.icmpYes X_189.here hx rfl (pc0 := 192) (pc' := 200) rfl (hb hby at_192) rfl (tlt hc192).1 (by decide) (by decide) kS) ?_
              show own_Run p e below _ (T_189.setTop (mkF m 200 #[.val (.int p1), .val (.int p2), .val (.int wv), .val (.int nv), .val (.int d2), .val (.int d3), .val (.ref b1), .val (.ref b2), .val (.ref b3), .val (.int cz), .val (.int (Int32.ofInt ((n1 : Nat) : Int))), .val (.int (1 : Int32)), .val (.int (1 : Int32))] []))
              exact J200  _ _ _ X_189 e_189 N hz (A1.congr (fun k _ => congrArg Value.int (own_gsn 1 nd2 (1 : Int32) (fun _ => (0 : Int32)) (by have q := hc192; rw [Int32.lt_iff_toInt_lt] at q; omega) k))) A8 F8_width F8_ints F8_used F8_count V8 Y8
            · refine own_go (fun _ kS => XS.icmpNo X_189.here hx rfl (hb hby at_192) rfl (flt hc192).1 kS) ?_
              show own_Run p e below _ (T_189.setTop (mkF m 195 #[.val (.int p1), .val (.int p2), .val (.int wv), .val (.int nv), .val (.int d2), .val (.int d3), .val (.ref b1), .val (.ref b2), .val (.ref b3), .val (.int cz), .val (.int (Int32.ofInt ((n1 : Nat) : Int))), .val (.int (1 : Int32)), .val (.int (1 : Int32))] []))
              refine own_go (fun _ kS => XS.aload X_189.here hx rfl (hb hby at_195) rfl rfl kS) ?_
              show own_Run p e below _ (T_189.setTop (mkF m 197 #[.val (.int p1), .val (.int p2), .val (.int wv), .val (.int nv), .val (.int d2), .val (.int d3), .val (.ref b1), .val (.ref b2), .val (.ref b3), .val (.int cz), .val (.int (Int32.ofInt ((n1 : Nat) : Int))), .val (.int (1 : Int32)), .val (.int (1 : Int32))] [(.ref b1)]))
              refine own_go (fun _ kS => XS.iconst X_189.here hx rfl (hb hby at_197) kS) ?_
              show own_Run p e below _ (T_189.setTop (mkF m 198 #[.val (.int p1), .val (.int p2), .val (.int wv), .val (.int nv), .val (.int d2), .val (.int d3), .val (.ref b1), .val (.ref b2), .val (.ref b3), .val (.int cz), .val (.int (Int32.ofInt ((n1 : Nat) : Int))), .val (.int (1 : Int32)), .val (.int (1 : Int32))] [(.int (1 : Int32)), (.ref b1)]))
              refine own_go (fun _ kS => XS.iconst X_189.here hx rfl (hb hby at_198) kS) ?_
              show own_Run p e below _ (T_189.setTop (mkF m 199 #[.val (.int p1), .val (.int p2), .val (.int wv), .val (.int nv), .val (.int d2), .val (.int d3), .val (.ref b1), .val (.ref b2), .val (.ref b3), .val (.int cz), .val (.int (Int32.ofInt ((n1 : Nat) : Int))), .val (.int (1 : Int32)), .val (.int (1 : Int32))] [(.int (1 : Int32)), (.int (1 : Int32)), (.ref b1)]))
              refine own_iastore X_189 hx hZ e_189 A1 (j := (1 : Int32)) ⟨by decide, by decide⟩ rfl rfl (hb hby at_199) (fun T23 h23 X23 e23 W23 A23 => ?_)
              replace A8 := A8.wr W23
              replace F8_width := F8_width.other W23 (Or.inl (Ne.symm ne_b1_b3))
              replace F8_ints := F8_ints.other W23 (Or.inl (Ne.symm ne_b1_b3))
              replace F8_used := F8_used.other W23 (Or.inl (Ne.symm ne_b1_b3))
              replace F8_count := F8_count.other W23 (Or.inl (Ne.symm ne_b1_b3))
              replace V8 := V8.other W23 (Ne.symm ne_b1_b4)
              replace Y8 := Y8.other W23 (Ne.symm ne_b1_b2)
              replace hz := Nat.le_trans hz (Nat.le_of_eq W23.size.symm)
              replace N := Fr.snoc X23 N g_b1
              replace A23 : own_Arr Z h23 b1 .int 16384 (fun i => if i = 1 then (.int (1 : Int32)) else (fun k => .int ((own_gs 1 nd2 (1 : Int32) (fun _ => (0 : Int32))) k)) i) := A23
              show own_Run p e below _ (T23.setTop (mkF m 200 #[.val (.int p1), .val (.int p2), .val (.int wv), .val (.int nv), .val (.int d2), .val (.int d3), .val (.ref b1), .val (.ref b2), .val (.ref b3), .val (.int cz), .val (.int (Int32.ofInt ((n1 : Nat) : Int))), .val (.int (1 : Int32)), .val (.int (1 : Int32))] []))
              exact J200  _ _ _ X23 e23 N hz (A23.congr (fun k _ => own_gst 1 nd2 (1 : Int32) (fun _ => (0 : Int32)) (by have q := hc192; rw [Int32.lt_iff_toInt_lt] at q; omega) k)) A8 F8_width F8_ints F8_used F8_count V8 Y8
          by_cases hc181 : d2 < (1 : Int32)
          · refine own_go (fun _ kS => XS.icmpYes X10.here hx rfl (pc0 := 181) (pc' := 189) rfl (hb hby at_181) rfl (tlt hc181).1 (by decide) (by decide) kS) ?_
            show own_Run p e below _ (T10.setTop (mkF m 189 #[.val (.int p1), .val (.int p2), .val (.int wv), .val (.int nv), .val (.int d2), .val (.int d3), .val (.ref b1), .val (.ref b2), .val (.ref b3), .val (.int cz), .val (.int (Int32.ofInt ((n1 : Nat) : Int))), .val (.int (1 : Int32)), .val (.int (1 : Int32))] []))
            exact J189  _ _ _ X10 e10 N hz (A1.congr (fun k _ => congrArg Value.int (own_gsn 0 nd2 (1 : Int32) (fun _ => (0 : Int32)) (by have q := hc181; rw [Int32.lt_iff_toInt_lt] at q; omega) k))) A8 F8_width F8_ints F8_used F8_count V8 Y8
          · refine own_go (fun _ kS => XS.icmpNo X10.here hx rfl (hb hby at_181) rfl (flt hc181).1 kS) ?_
            show own_Run p e below _ (T10.setTop (mkF m 184 #[.val (.int p1), .val (.int p2), .val (.int wv), .val (.int nv), .val (.int d2), .val (.int d3), .val (.ref b1), .val (.ref b2), .val (.ref b3), .val (.int cz), .val (.int (Int32.ofInt ((n1 : Nat) : Int))), .val (.int (1 : Int32)), .val (.int (1 : Int32))] []))
            refine own_go (fun _ kS => XS.aload X10.here hx rfl (hb hby at_184) rfl rfl kS) ?_
            show own_Run p e below _ (T10.setTop (mkF m 186 #[.val (.int p1), .val (.int p2), .val (.int wv), .val (.int nv), .val (.int d2), .val (.int d3), .val (.ref b1), .val (.ref b2), .val (.ref b3), .val (.int cz), .val (.int (Int32.ofInt ((n1 : Nat) : Int))), .val (.int (1 : Int32)), .val (.int (1 : Int32))] [(.ref b1)]))
            refine own_go (fun _ kS => XS.iconst X10.here hx rfl (hb hby at_186) kS) ?_
            show own_Run p e below _ (T10.setTop (mkF m 187 #[.val (.int p1), .val (.int p2), .val (.int wv), .val (.int nv), .val (.int d2), .val (.int d3), .val (.ref b1), .val (.ref b2), .val (.ref b3), .val (.int cz), .val (.int (Int32.ofInt ((n1 : Nat) : Int))), .val (.int (1 : Int32)), .val (.int (1 : Int32))] [(.int (0 : Int32)), (.ref b1)]))
            refine own_go (fun _ kS => XS.iconst X10.here hx rfl (hb hby at_187) kS) ?_
            show own_Run p e below _ (T10.setTop (mkF m 188 #[.val (.int p1), .val (.int p2), .val (.int wv), .val (.int nv), .val (.int d2), .val (.int d3), .val (.ref b1), .val (.ref b2), .val (.ref b3), .val (.int cz), .val (.int (Int32.ofInt ((n1 : Nat) : Int))), .val (.int (1 : Int32)), .val (.int (1 : Int32))] [(.int (1 : Int32)), (.int (0 : Int32)), (.ref b1)]))
            refine own_iastore X10 hx hZ e10 A1 (j := (0 : Int32)) ⟨by decide, by decide⟩ rfl rfl (hb hby at_188) (fun T24 h24 X24 e24 W24 A24 => ?_)
            replace A8 := A8.wr W24
            replace F8_width := F8_width.other W24 (Or.inl (Ne.symm ne_b1_b3))
            replace F8_ints := F8_ints.other W24 (Or.inl (Ne.symm ne_b1_b3))
            replace F8_used := F8_used.other W24 (Or.inl (Ne.symm ne_b1_b3))
            replace F8_count := F8_count.other W24 (Or.inl (Ne.symm ne_b1_b3))
            replace V8 := V8.other W24 (Ne.symm ne_b1_b4)
            replace Y8 := Y8.other W24 (Ne.symm ne_b1_b2)
            replace hz := Nat.le_trans hz (Nat.le_of_eq W24.size.symm)
            replace N := Fr.snoc X24 N g_b1
            replace A24 : own_Arr Z h24 b1 .int 16384 (fun i => if i = 0 then (.int (1 : Int32)) else (fun k => .int ((own_gs 0 nd2 (1 : Int32) (fun _ => (0 : Int32))) k)) i) := A24
            show own_Run p e below _ (T24.setTop (mkF m 189 #[.val (.int p1), .val (.int p2), .val (.int wv), .val (.int nv), .val (.int d2), .val (.int d3), .val (.ref b1), .val (.ref b2), .val (.ref b3), .val (.int cz), .val (.int (Int32.ofInt ((n1 : Nat) : Int))), .val (.int (1 : Int32)), .val (.int (1 : Int32))] []))
            exact J189  _ _ _ X24 e24 N hz (A24.congr (fun k _ => own_gst 0 nd2 (1 : Int32) (fun _ => (0 : Int32)) (by have q := hc181; rw [Int32.lt_iff_toInt_lt] at q; omega) k)) A8 F8_width F8_ints F8_used F8_count V8 Y8
set_option maxRecDepth 65536 in
set_option maxHeartbeats 40000000 in
theorem own_comes_1 {Post : Tables → Env → Array Value → State → Outcome → State → Prop} (hpost : ∀ tb e args s v u, (limb_1_1.after args s (.returned v) u = true ∧ limb_1_2.after args s (.returned v) u = true) → FrameEnd s (.returned v) u (Jvm.fieldLocs frame_1_writes args s ++ Jvm.arrayLocs frame_1_arrays args s ++ Jvm.staticLocs frame_1_statics s) 16 98432 → Post tb e args s (.returned v) u) :
    ArmFor flags0 classFile x code maxLocals ret World_1 tables_1 room_1 Calls_1 rest_1 Pre_1 Post := by
  intro l hfl _ _ p e ha hc hk s m args below hf hA hF happ hP
  obtain ⟨hcalls, hrest, hpre⟩ := hP
  obtain ⟨-, -, -, hnamed, -, -, -, hat⟩ := (Spec.applies_iff hf).mp happ
  obtain ⟨hg, hn⟩ := and_e (Cond.before_iff.mp (show (Jvm.Cond.and given_1 narrow_1).before args s = true from hpre))
  obtain ⟨g0, hg⟩ := and_e hg
  obtain ⟨k0, hg⟩ := and_e hg
  have k1 := hg
  obtain ⟨w0, w1, rfl⟩ : ∃ w0 w1 : Value, args = #[w0, w1] := by
    have hs : args.size = 2 := by simpa [Cond.value, given_1] using g0
    obtain ⟨L⟩ := args
    match L, hs with
    | [w0, w1], _ => exact ⟨w0, w1, rfl⟩
  have hw := fun d (hd : d ∈ tables_1) => atoms_spec (ws := Jvm.Cond.code x code maxLocals ret :: tables_1) hat d (List.mem_cons_of_mem _ hd)
  obtain ⟨i0, ei0⟩ := is_v k0
  obtain rfl : w0 = (.int i0) := Option.some.inj ei0
  obtain ⟨i1, ei1⟩ := is_v k1
  obtain rfl : w1 = (.int i1) := Option.some.inj ei1
  obtain ⟨n, o, h1, h2, h3, _, L, rfl, ⟨rfl, N⟩, hq⟩ := rm_law l s _ hw i0 i1 s.heap.size s.heap (Nat.le_refl _) tables_1 p e ha hc hk s m _ below hf ((Spec.applies_iff_loose hf).mp happ).1 ⟨rfl, State.Warmed39.refl s, rfl⟩ trivial
  refine ⟨n, _, h1, h2, h3, hpost _ _ _ _ _ _ ⟨Cond.after_iff.mpr rfl, Cond.after_iff.mpr (eq_i res_at (Term.int_eval (1)) rfl)⟩ ⟨hq.1, hq.2.1, (hq.2.2.sift fun y hy => Or.inr (N y hy)).mono (by decide) (by decide)⟩⟩
theorem main_1_1 : Claimed_1_1 := own_comes_1 fun _ _ _ _ _ _ h hF => ⟨h.1, hF⟩
theorem main_1_2 : Claimed_1_2 := own_comes_1 fun _ _ _ _ _ _ h hF => ⟨h.2, hF⟩
end Jvm.Pilot.@@N@@
namespace Jvm.Pilot.@@N@@
open Jvm Jvm.ClassFile Sem Op Lib Jvm.Free Jvm.Stand Jvm.Pilot.@@N@@.Jvm.D
/-! MADE BY PROGRAM (witnessworld.py) out of the Statement's table words and the real class files: 11 classes; the members and pool entries that the words name. The judged class is class 1, her method 2. -/
namespace start1
open Jvm.ClassFile
def u (s : String) : CpInfo := .utf8 (stringToUtf16 s)
/-- a pool by its gaps: so many unusable entries, then the entry; so many at the end -/
def gap : Nat → List CpInfo → List CpInfo
  | 0, r => r
  | n + 1, r => .unusable :: gap n r
def poolList (es : List (Nat × CpInfo)) (last : Nat) : List CpInfo := es.foldr (fun e r => gap e.1 (e.2 :: r)) (gap last [])
def pool (es : List (Nat × CpInfo)) (last : Nat) : Array CpInfo := ⟨poolList es last⟩
def fileOf (pool : Array CpInfo) (this : Nat) (attrs : Array Attribute := #[]) (ms : Array MethodInfo := #[]) (fl : Nat := 33) (sup : Nat := 0) (ifs : Array Nat := #[]) (fds : Array FieldInfo := #[]) : ClassFile where
  minorVersion := 0
  majorVersion := 65
  constantPool := pool
  accessFlags := fl
  thisClass := this
  superClass := sup
  interfaces := ifs
  fields := fds
  methods := ms
  attributes := attrs
def plain (name : String) (sup : Option ClassId) : Class where
  name := name
  kind := .ordinary
  loader := none
  accessFlags := 33
  super := sup
  interfaces := #[]
  cf := none
  fields := #[]
  methods := #[]
  instanceTypes := #[]
  staticTypes := #[]
  resolved := #[]
  callSites := []
  init := .initialized
  statics := none
  mirror := none

def pool0 : Array CpInfo := pool [(5, u "<init>"), (0, u "()V"), (1, .class_ 10), (1, u "java/lang/Object")] 113

def k0c0 : Code := { maxStack := 0, maxLocals := 1, code := object_method_1_code, exceptionTable := #[], attributes := #[] }
def k0m0 : Method := { name := "<init>", desc := "()V", sig := { parameters := [], returnType := none }, accessFlags := 1, code := some k0c0 }
/-- java/lang/Object -/
def k0 : Class := { plain "java/lang/Object" none with
  accessFlags := 33
  interfaces := #[]
  cf := some (fileOf pool0 8 #[] #[{ accessFlags := 1, nameIndex := 5, descriptorIndex := 6, attributes := #[] }] 33 0 #[] #[])
  fields := #[]
  methods := #[k0m0]
  instanceTypes := #[]
  staticTypes := #[]
  resolved := Array.replicate 124 none
  statics := none }

def pool1 : Array CpInfo := pool [(2, .class_ 4), (1, u "java/lang/Object"), (0, u "<init>"), (0, u "()V"), (0, .methodref 8 9), (0, .class_ 10), (0, .nameAndType 11 12), (0, u "java/lang/Math"), (0, u "min"), (0, u "(II)I"), (0, .integer 2147483647), (0, .class_ 15), (0, u "com/example/smallscope/smallscope/Chunk"), (0, .methodref 14 17), (0, .nameAndType 5 18), (0, u "(I)V"), (0, .methodref 8 20), (0, .nameAndType 21 12), (0, u "max"), (0, .methodref 14 23), (0, .nameAndType 24 25), (0, u "hasRoom"), (0, u "()Z"), (0, .methodref 14 27), (0, .nameAndType 28 29), (0, u "add"), (0, u "([I[I)I"), (0, .methodref 31 32), (0, .class_ 33), (0, .nameAndType 34 12), (0, u "com/example/smallscope/smallscope/ChunkHasRoomPinLaw"), (0, u "cost"), (2, u "law"), (0, u "(II)Z")] 5

def k1m0 : Method := { name := "<init>", desc := "()V", sig := { parameters := [], returnType := none }, accessFlags := 1, code := none }
def k1c1 : Code := { maxStack := 3, maxLocals := 3, code := method_2_code, exceptionTable := #[], attributes := #[] }
def k1m1 : Method := { name := "cost", desc := "(II)I", sig := { parameters := [.int, .int], returnType := some .int }, accessFlags := 10, code := some k1c1 }
def k1c2 : Code := { maxStack := 3, maxLocals := 13, code := code, exceptionTable := #[], attributes := #[] }
def k1m2 : Method := { name := "law", desc := "(II)Z", sig := { parameters := [.int, .int], returnType := some .boolean }, accessFlags := 9, code := some k1c2 }
/-- com/example/smallscope/smallscope/ChunkHasRoomPinLaw -/
def k1 : Class := { plain "com/example/smallscope/smallscope/ChunkHasRoomPinLaw" (some 0) with
  accessFlags := 49
  interfaces := #[]
  cf := some (fileOf pool1 31 #[] #[{ accessFlags := 1, nameIndex := 5, descriptorIndex := 6, attributes := #[] }, { accessFlags := 10, nameIndex := 34, descriptorIndex := 12, attributes := #[] }, { accessFlags := 9, nameIndex := 37, descriptorIndex := 38, attributes := #[] }] 49 2 #[] #[])
  fields := #[]
  methods := #[k1m0, k1m1, k1m2]
  instanceTypes := #[]
  staticTypes := #[]
  resolved := Array.replicate 44 none
  statics := none }

def pool2 : Array CpInfo := pool [(1, .methodref 2 3), (0, .class_ 4), (0, .nameAndType 5 6), (0, u "java/lang/Object"), (0, u "<init>"), (0, u "()V"), (0, .fieldref 8 9), (0, .class_ 10), (0, .nameAndType 11 12), (0, u "com/example/smallscope/smallscope/Chunk"), (0, u "width"), (0, u "I"), (0, .methodref 14 15), (0, .class_ 16), (0, .nameAndType 17 18), (0, u "java/lang/Math"), (0, u "max"), (0, u "(II)I"), (0, .fieldref 8 20), (0, .nameAndType 21 22), (0, u "ints"), (0, u "[I"), (0, .fieldref 8 24), (0, .nameAndType 25 12), (0, u "count"), (0, .fieldref 8 27), (0, .nameAndType 28 12), (0, u "used"), (0, .methodref 8 30), (0, .nameAndType 31 32), (0, u "packed"), (0, u "([I[I)Z"), (0, .methodref 8 34), (0, .nameAndType 35 36), (0, u "whole"), (0, u "([I[I)V"), (0, .methodref 38 39), (0, .class_ 40), (0, .nameAndType 41 42), (0, u "java/lang/System"), (0, u "arraycopy"), (0, u "(Ljava/lang/Object;ILjava/lang/Object;II)V"), (0, u "CHUNK_INTS"), (2, u "WHOLE"), (1, u "next"), (0, u "Lcom/example/smallscope/smallscope/Chunk;"), (0, u "(I)V"), (4, u "hasRoom"), (0, u "()Z"), (2, u "add"), (0, u "([I[I)I")] 4

def k2c0 : Code := { maxStack := 4, maxLocals := 2, code := prog_24_method_1_code, exceptionTable := #[], attributes := #[] }
def k2m0 : Method := { name := "<init>", desc := "(I)V", sig := { parameters := [.int], returnType := none }, accessFlags := 0, code := some k2c0 }
def k2c1 : Code := { maxStack := 2, maxLocals := 1, code := prog_24_method_4_code, exceptionTable := #[], attributes := #[] }
def k2m1 : Method := { name := "hasRoom", desc := "()Z", sig := { parameters := [], returnType := some .boolean }, accessFlags := 0, code := some k2c1 }
def k2c2 : Code := { maxStack := 3, maxLocals := 4, code := prog_24_method_6_code, exceptionTable := #[], attributes := #[] }
def k2m2 : Method := { name := "add", desc := "([I[I)I", sig := { parameters := [(.array .int), (.array .int)], returnType := some .int }, accessFlags := 0, code := some k2c2 }
def k2c3 : Code := { maxStack := 4, maxLocals := 7, code := prog_24_method_7_code, exceptionTable := #[], attributes := #[] }
def k2m3 : Method := { name := "packed", desc := "([I[I)Z", sig := { parameters := [(.array .int), (.array .int)], returnType := some .boolean }, accessFlags := 2, code := some k2c3 }
def k2c4 : Code := { maxStack := 5, maxLocals := 3, code := prog_24_method_8_code, exceptionTable := #[], attributes := #[] }
def k2m4 : Method := { name := "whole", desc := "([I[I)V", sig := { parameters := [(.array .int), (.array .int)], returnType := none }, accessFlags := 2, code := some k2c4 }
/-- com/example/smallscope/smallscope/Chunk -/
def k2 : Class := { plain "com/example/smallscope/smallscope/Chunk" (some 0) with
  accessFlags := 48
  interfaces := #[]
  cf := some (fileOf pool2 8 #[] #[{ accessFlags := 0, nameIndex := 5, descriptorIndex := 50, attributes := #[] }, { accessFlags := 0, nameIndex := 55, descriptorIndex := 56, attributes := #[] }, { accessFlags := 0, nameIndex := 59, descriptorIndex := 60, attributes := #[] }, { accessFlags := 2, nameIndex := 31, descriptorIndex := 32, attributes := #[] }, { accessFlags := 2, nameIndex := 35, descriptorIndex := 36, attributes := #[] }] 48 2 #[] #[{ accessFlags := 26, nameIndex := 43, descriptorIndex := 12, attributes := #[] }, { accessFlags := 26, nameIndex := 46, descriptorIndex := 12, attributes := #[] }, { accessFlags := 16, nameIndex := 11, descriptorIndex := 12, attributes := #[] }, { accessFlags := 18, nameIndex := 21, descriptorIndex := 22, attributes := #[] }, { accessFlags := 2, nameIndex := 28, descriptorIndex := 12, attributes := #[] }, { accessFlags := 2, nameIndex := 25, descriptorIndex := 12, attributes := #[] }, { accessFlags := 64, nameIndex := 48, descriptorIndex := 49, attributes := #[] }])
  fields := #[{ name := "CHUNK_INTS", type := .int, accessFlags := 26, slot := 0, constantValue := 0 }, { name := "WHOLE", type := .int, accessFlags := 26, slot := 1, constantValue := 0 }, { name := "width", type := .int, accessFlags := 16, slot := 0, constantValue := 0 }, { name := "ints", type := (.array .int), accessFlags := 18, slot := 1, constantValue := 0 }, { name := "used", type := .int, accessFlags := 2, slot := 2, constantValue := 0 }, { name := "count", type := .int, accessFlags := 2, slot := 3, constantValue := 0 }, { name := "next", type := (.object "com/example/smallscope/smallscope/Chunk"), accessFlags := 64, slot := 4, constantValue := 0 }]
  methods := #[k2m0, k2m1, k2m2, k2m3, k2m4]
  instanceTypes := #[.int, (.array .int), .int, .int, (.object "com/example/smallscope/smallscope/Chunk")]
  staticTypes := #[.int, .int]
  resolved := Array.replicate 65 none
  statics := none }

def pool3 : Array CpInfo := pool [(1, .class_ 2), (0, u "java/lang/Math"), (1, .class_ 6), (1, u "java/lang/Object"), (0, u "<init>"), (0, u "()V"), (89, .class_ 100), (1, u "java/lang/Math$RandomNumberGeneratorHolder"), (71, u "negativeZeroFloatBits"), (0, u "J"), (2, u "negativeZeroDoubleBits"), (21, u "max"), (2, u "min"), (43, u "$assertionsDisabled"), (0, u "Z"), (88, u "(II)I"), (2, u "twoToTheDoubleScaleDown"), (0, u "D"), (4, u "twoToTheDoubleScaleUp"), (9, u "E"), (3, u "PI"), (2, u "TAU"), (2, u "DEGREES_TO_RADIANS"), (0, u "RADIANS_TO_DEGREES")] 94

def k3m0 : Method := { name := "<init>", desc := "()V", sig := { parameters := [], returnType := none }, accessFlags := 2, code := none }
def k3c1 : Code := { maxStack := 2, maxLocals := 2, code := jdk_29_method_65_code, exceptionTable := #[], attributes := #[] }
def k3m1 : Method := { name := "max", desc := "(II)I", sig := { parameters := [.int, .int], returnType := some .int }, accessFlags := 9, code := some k3c1 }
def k3c2 : Code := { maxStack := 2, maxLocals := 2, code := jdk_29_method_69_code, exceptionTable := #[], attributes := #[] }
def k3m2 : Method := { name := "min", desc := "(II)I", sig := { parameters := [.int, .int], returnType := some .int }, accessFlags := 9, code := some k3c2 }
/-- java/lang/Math -/
def k3 : Class := { plain "java/lang/Math" (some 0) with
  accessFlags := 49
  interfaces := #[]
  cf := some (fileOf pool3 1 #[.nestMembers #[98]] #[{ accessFlags := 2, nameIndex := 7, descriptorIndex := 8, attributes := #[] }, { accessFlags := 9, nameIndex := 198, descriptorIndex := 335, attributes := #[] }, { accessFlags := 9, nameIndex := 201, descriptorIndex := 335, attributes := #[] }] 49 4 #[] #[{ accessFlags := 25, nameIndex := 354, descriptorIndex := 339, attributes := #[] }, { accessFlags := 25, nameIndex := 358, descriptorIndex := 339, attributes := #[] }, { accessFlags := 25, nameIndex := 361, descriptorIndex := 339, attributes := #[] }, { accessFlags := 26, nameIndex := 364, descriptorIndex := 339, attributes := #[] }, { accessFlags := 26, nameIndex := 365, descriptorIndex := 339, attributes := #[] }, { accessFlags := 26, nameIndex := 172, descriptorIndex := 173, attributes := #[] }, { accessFlags := 26, nameIndex := 176, descriptorIndex := 173, attributes := #[] }, { accessFlags := 8, nameIndex := 344, descriptorIndex := 339, attributes := #[] }, { accessFlags := 8, nameIndex := 338, descriptorIndex := 339, attributes := #[] }, { accessFlags := 4120, nameIndex := 245, descriptorIndex := 246, attributes := #[] }])
  fields := #[{ name := "E", type := .double, accessFlags := 25, slot := 0, constantValue := 0 }, { name := "PI", type := .double, accessFlags := 25, slot := 1, constantValue := 0 }, { name := "TAU", type := .double, accessFlags := 25, slot := 2, constantValue := 0 }, { name := "DEGREES_TO_RADIANS", type := .double, accessFlags := 26, slot := 3, constantValue := 0 }, { name := "RADIANS_TO_DEGREES", type := .double, accessFlags := 26, slot := 4, constantValue := 0 }, { name := "negativeZeroFloatBits", type := .long, accessFlags := 26, slot := 5, constantValue := 0 }, { name := "negativeZeroDoubleBits", type := .long, accessFlags := 26, slot := 6, constantValue := 0 }, { name := "twoToTheDoubleScaleUp", type := .double, accessFlags := 8, slot := 7, constantValue := 0 }, { name := "twoToTheDoubleScaleDown", type := .double, accessFlags := 8, slot := 8, constantValue := 0 }, { name := "$assertionsDisabled", type := .boolean, accessFlags := 4120, slot := 9, constantValue := 0 }]
  methods := #[k3m0, k3m1, k3m2]
  instanceTypes := #[]
  staticTypes := #[.double, .double, .double, .double, .double, .long, .long, .double, .double, .boolean]
  resolved := Array.replicate 460 none
  statics := none }

def pool4 : Array CpInfo := pool [(2, .class_ 4), (1, u "java/lang/Object"), (0, u "<init>"), (0, u "()V"), (1, .class_ 10), (1, u "java/lang/System"), (0, u "allowSecurityManager"), (0, u "I"), (16, u "cons"), (0, u "Ljava/io/Console;"), (77, .class_ 110), (1, u "java/lang/System$CallersHolder"), (43, u "initialErrStream"), (0, u "Ljava/io/PrintStream;"), (19, u "security"), (0, u "Ljava/lang/SecurityManager;"), (31, .class_ 209), (0, u "java/lang/System$1"), (7, u "props"), (0, u "Ljava/util/Properties;"), (2, u "lineSeparator"), (0, u "Ljava/lang/String;"), (96, .class_ 321), (1, u "java/lang/System$LoggerFinder"), (5, .class_ 328), (0, u "java/lang/System$Logger"), (67, u "err"), (2, u "out"), (91, u "notSupportedJnuEncoding"), (15, u "in"), (17, u "initialIn"), (0, u "Ljava/io/InputStream;"), (35, u "bootLayer"), (0, u "Ljava/lang/ModuleLayer;"), (99, .class_ 664), (0, u "java/lang/System$2"), (9, u "NEVER"), (2, u "MAYBE"), (49, u "arraycopy"), (0, u "(Ljava/lang/Object;ILjava/lang/Object;II)V"), (72, .class_ 802), (0, u "java/lang/System$Logger$Level")] 31

def k4m0 : Method := { name := "<init>", desc := "()V", sig := { parameters := [], returnType := none }, accessFlags := 2, code := none }
def k4m1 : Method := { name := "arraycopy", desc := "(Ljava/lang/Object;ILjava/lang/Object;II)V", sig := { parameters := [(.object "java/lang/Object"), .int, (.object "java/lang/Object"), .int, .int], returnType := none }, accessFlags := 265, code := none }
/-- java/lang/System -/
def k4 : Class := { plain "java/lang/System" (some 0) with
  accessFlags := 49
  interfaces := #[]
  cf := some (fileOf pool4 8 #[.nestMembers #[319, 327, 801, 108, 663, 208]] #[{ accessFlags := 2, nameIndex := 5, descriptorIndex := 6, attributes := #[] }, { accessFlags := 265, nameIndex := 727, descriptorIndex := 728, attributes := #[] }] 49 2 #[] #[{ accessFlags := 25, nameIndex := 507, descriptorIndex := 526, attributes := #[] }, { accessFlags := 25, nameIndex := 399, descriptorIndex := 155, attributes := #[] }, { accessFlags := 25, nameIndex := 396, descriptorIndex := 155, attributes := #[] }, { accessFlags := 10, nameIndex := 525, descriptorIndex := 526, attributes := #[] }, { accessFlags := 26, nameIndex := 674, descriptorIndex := 12, attributes := #[] }, { accessFlags := 26, nameIndex := 677, descriptorIndex := 12, attributes := #[] }, { accessFlags := 10, nameIndex := 11, descriptorIndex := 12, attributes := #[] }, { accessFlags := 74, nameIndex := 175, descriptorIndex := 176, attributes := #[] }, { accessFlags := 10, nameIndex := 491, descriptorIndex := 222, attributes := #[] }, { accessFlags := 74, nameIndex := 29, descriptorIndex := 30, attributes := #[] }, { accessFlags := 74, nameIndex := 154, descriptorIndex := 155, attributes := #[] }, { accessFlags := 10, nameIndex := 217, descriptorIndex := 218, attributes := #[] }, { accessFlags := 10, nameIndex := 221, descriptorIndex := 222, attributes := #[] }, { accessFlags := 8, nameIndex := 562, descriptorIndex := 563, attributes := #[] }])
  fields := #[{ name := "in", type := (.object "java/io/InputStream"), accessFlags := 25, slot := 0, constantValue := 0 }, { name := "out", type := (.object "java/io/PrintStream"), accessFlags := 25, slot := 1, constantValue := 0 }, { name := "err", type := (.object "java/io/PrintStream"), accessFlags := 25, slot := 2, constantValue := 0 }, { name := "initialIn", type := (.object "java/io/InputStream"), accessFlags := 10, slot := 3, constantValue := 0 }, { name := "NEVER", type := .int, accessFlags := 26, slot := 4, constantValue := 0 }, { name := "MAYBE", type := .int, accessFlags := 26, slot := 5, constantValue := 0 }, { name := "allowSecurityManager", type := .int, accessFlags := 10, slot := 6, constantValue := 0 }, { name := "security", type := (.object "java/lang/SecurityManager"), accessFlags := 74, slot := 7, constantValue := 0 }, { name := "notSupportedJnuEncoding", type := (.object "java/lang/String"), accessFlags := 10, slot := 8, constantValue := 0 }, { name := "cons", type := (.object "java/io/Console"), accessFlags := 74, slot := 9, constantValue := 0 }, { name := "initialErrStream", type := (.object "java/io/PrintStream"), accessFlags := 74, slot := 10, constantValue := 0 }, { name := "props", type := (.object "java/util/Properties"), accessFlags := 10, slot := 11, constantValue := 0 }, { name := "lineSeparator", type := (.object "java/lang/String"), accessFlags := 10, slot := 12, constantValue := 0 }, { name := "bootLayer", type := (.object "java/lang/ModuleLayer"), accessFlags := 8, slot := 13, constantValue := 0 }]
  methods := #[k4m0, k4m1]
  instanceTypes := #[]
  staticTypes := #[(.object "java/io/InputStream"), (.object "java/io/PrintStream"), (.object "java/io/PrintStream"), (.object "java/io/InputStream"), .int, .int, .int, (.object "java/lang/SecurityManager"), (.object "java/lang/String"), (.object "java/io/Console"), (.object "java/io/PrintStream"), (.object "java/util/Properties"), (.object "java/lang/String"), (.object "java/lang/ModuleLayer")]
  resolved := Array.replicate 834 none
  statics := none }

def pool5 : Array CpInfo := pool [(1, u "java/lang/Cloneable"), (0, .class_ 1), (0, u "java/lang/Object"), (0, .class_ 3)] 3

/-- java/lang/Cloneable -/
def k5 : Class := { plain "java/lang/Cloneable" (some 0) with
  accessFlags := 1537
  interfaces := #[]
  cf := some (fileOf pool5 2 #[] #[] 1537 4 #[] #[])
  fields := #[]
  methods := #[]
  instanceTypes := #[]
  staticTypes := #[]
  resolved := Array.replicate 8 none
  statics := none }

def pool6 : Array CpInfo := pool [(1, u "java/io/Serializable"), (0, .class_ 1), (0, u "java/lang/Object"), (0, .class_ 3)] 3

/-- java/io/Serializable -/
def k6 : Class := { plain "java/io/Serializable" (some 0) with
  accessFlags := 1537
  interfaces := #[]
  cf := some (fileOf pool6 2 #[] #[] 1537 4 #[] #[])
  fields := #[]
  methods := #[]
  instanceTypes := #[]
  staticTypes := #[]
  resolved := Array.replicate 8 none
  statics := none }

/-- the primitive byte -/
def k7 : Class := { plain "byte" none with kind := .primitive 'B', accessFlags := 0x411 }
/-- [B -/
def k8 : Class := { plain "[B" (some 0) with kind := .array 7 .byte, interfaces := #[5, 6], accessFlags := 1041 }

/-- the primitive int -/
def k9 : Class := { plain "int" none with kind := .primitive 'I', accessFlags := 0x411 }
/-- [I -/
def k10 : Class := { plain "[I" (some 0) with kind := .array 9 .int, interfaces := #[5, 6], accessFlags := 1041 }

def heap : Heap := #[]
def classes : Array Class := #[k0, k1, k2, k3, k4, k5, k6, k7, k8, k9, k10]
def interned : List (Array UInt16 × Addr) := []
def slotsUsed : Nat := 0
def theMethod : MethodId := ⟨1, 2⟩
def args0 : Array Value := #[.int 5, .int 7]
def aboutOver (below : List Frame) : State where
  vm := { classes := classes, interned := interned.toArray }
  heap := heap
  slotsUsed := slotsUsed
  threads := #[{ frames := .invoking theMethod args0 :: below }]
def below0 : List Frame := [.native { method := ⟨0, 0⟩, args := #[] }]
def about1 : State := aboutOver below0
def p0 : Program := .bare "" "" ""
def e0 : Env := launch0.env 0 0 0
theorem w_frames : about1.frames = Frame.invoking theMethod args0 :: below0 := rfl
set_option maxRecDepth 65536 in
theorem w_args : argsFit about1.vm theMethod args0 = true := by decide +kernel
set_option maxRecDepth 65536 in
theorem w_heap : heapFits about1 = true := by decide +kernel
set_option maxRecDepth 65536 in
theorem w_runnable : about1.curStatus? = some .runnable := by decide +kernel
set_option maxRecDepth 65536 in
theorem w_alone : about1.alone = true := by decide +kernel
set_option maxRecDepth 65536 in
theorem w_named : about1.methodNamed? x = some theMethod := by decide +kernel
set_option maxRecDepth 65536 in
theorem w_hears : about1.hears theMethod below0 = true := by decide +kernel
set_option maxRecDepth 65536 in
theorem w_ripe : about1.ripe theMethod args0 below0 = true := by decide +kernel
theorem w_running : about1.status = .running := rfl
set_option maxRecDepth 65536 in
theorem w_room : about1.hasRoom e0.platform room_1 = true :=
  launch0.hasRoom_least _ room_1 (by decide +kernel) (by decide +kernel) (by decide +kernel) (by decide +kernel) (by decide +kernel) (by decide +kernel)
theorem allAtoms_all (ts : List Jvm.Cond) (a : Array Jvm.Value) (st : Jvm.State) : (allAtoms ts).before a st = ts.all (fun c => c.before a st) := by
  induction ts with
  | nil => rfl
  | cons c t ih =>
    show (Jvm.Cond.and c (allAtoms t)).before a st = _
    rw [Jvm.Cond.before_and, ih, List.all_cons]
def words1 : List Jvm.Cond := Jvm.Cond.code x code maxLocals ret :: tables_1
/-- a 'code' word, met by the world's own term for the bytes: nothing is compared byte by byte -/
theorem code_word {y : MethodName} {bytes : ByteArray} {mx : Nat} {rt : Option FieldType} {a : Array Value} {s : State} {m : MethodId} {meth : Method} {c : Code} (h1 : s.methodNamed? y = some m) (h2 : s.vm.method? m = some meth) (h3 : meth.code = some c) (h4 : c.code = bytes)
    (h5 : (c.maxLocals == mx && c.exceptionTable.isEmpty && decide (c.maxStack ≤ mostOperands) && decide (meth.sig.returnType = rt) && !meth.locks && decide (parseMethodDescriptor y.desc = some meth.sig)) = true) : (Jvm.Cond.code y bytes mx rt).before a s = true := by
  simp only [Bool.and_eq_true, beq_iff_eq, Bool.not_eq_true', decide_eq_true_eq] at h5
  obtain ⟨⟨⟨⟨⟨g1, g2⟩, g3⟩, g4⟩, g5⟩, g6⟩ := h5
  simp [Cond.before, Cond.holds, Cond.value, h1, h2, h3, h4, g1, g2, g3, g4, g5, g6]
def isCode : Jvm.Cond → Bool
  | .code _ _ _ _ => true
  | _ => false
theorem all_split {L : List Jvm.Cond} {P : Jvm.Cond → Bool} (h1 : L.all (fun c => isCode c || P c) = true) (h2 : ∀ c ∈ L.filter isCode, P c = true) : L.all P = true := by
  refine List.all_eq_true.mpr fun c hc => ?_
  have h := List.all_eq_true.mp h1 c hc
  rcases Bool.eq_false_or_eq_true (isCode c) with hi | hi
  · exact h2 c (List.mem_filter.mpr ⟨hc, hi⟩)
  · simpa [hi] using h
set_option maxRecDepth 65536 in
theorem w_c0 : (Jvm.Cond.code x code maxLocals ret).before args0 about1 = true := code_word (m := ⟨1, 2⟩) (meth := k1m2) (c := k1c2) (by decide +kernel) rfl rfl rfl (by decide +kernel)
set_option maxRecDepth 65536 in
theorem w_c1 : (Jvm.Cond.code ({ cls := "com/example/smallscope/smallscope/Chunk", name := "<init>", desc := "(I)V" } : Jvm.MethodName) prog_24_method_1_code (2 : Nat) (Option.none : Option Jvm.ClassFile.FieldType)).before args0 about1 = true := code_word (m := ⟨2, 0⟩) (meth := k2m0) (c := k2c0) (by decide +kernel) rfl rfl rfl (by decide +kernel)
set_option maxRecDepth 65536 in
theorem w_c2 : (Jvm.Cond.code ({ cls := "java/lang/Object", name := "<init>", desc := "()V" } : Jvm.MethodName) object_method_1_code (1 : Nat) (Option.none : Option Jvm.ClassFile.FieldType)).before args0 about1 = true := code_word (m := ⟨0, 0⟩) (meth := k0m0) (c := k0c0) (by decide +kernel) rfl rfl rfl (by decide +kernel)
set_option maxRecDepth 65536 in
theorem w_c3 : (Jvm.Cond.code ({ cls := "java/lang/Math", name := "max", desc := "(II)I" } : Jvm.MethodName) jdk_29_method_65_code (2 : Nat) (Option.some Jvm.ClassFile.FieldType.int)).before args0 about1 = true := code_word (m := ⟨3, 1⟩) (meth := k3m1) (c := k3c1) (by decide +kernel) rfl rfl rfl (by decide +kernel)
set_option maxRecDepth 65536 in
theorem w_c4 : (Jvm.Cond.code ({ cls := "com/example/smallscope/smallscope/Chunk", name := "hasRoom", desc := "()Z" } : Jvm.MethodName) prog_24_method_4_code (1 : Nat) (Option.some Jvm.ClassFile.FieldType.boolean)).before args0 about1 = true := code_word (m := ⟨2, 1⟩) (meth := k2m1) (c := k2c1) (by decide +kernel) rfl rfl rfl (by decide +kernel)
set_option maxRecDepth 65536 in
theorem w_c5 : (Jvm.Cond.code ({ cls := "com/example/smallscope/smallscope/Chunk", name := "add", desc := "([I[I)I" } : Jvm.MethodName) prog_24_method_6_code (4 : Nat) (Option.some Jvm.ClassFile.FieldType.int)).before args0 about1 = true := code_word (m := ⟨2, 2⟩) (meth := k2m2) (c := k2c2) (by decide +kernel) rfl rfl rfl (by decide +kernel)
set_option maxRecDepth 65536 in
theorem w_c6 : (Jvm.Cond.code ({ cls := "com/example/smallscope/smallscope/Chunk", name := "whole", desc := "([I[I)V" } : Jvm.MethodName) prog_24_method_8_code (3 : Nat) (Option.none : Option Jvm.ClassFile.FieldType)).before args0 about1 = true := code_word (m := ⟨2, 4⟩) (meth := k2m4) (c := k2c4) (by decide +kernel) rfl rfl rfl (by decide +kernel)
set_option maxRecDepth 65536 in
theorem w_c7 : (Jvm.Cond.code ({ cls := "com/example/smallscope/smallscope/Chunk", name := "packed", desc := "([I[I)Z" } : Jvm.MethodName) prog_24_method_7_code (7 : Nat) (Option.some Jvm.ClassFile.FieldType.boolean)).before args0 about1 = true := code_word (m := ⟨2, 3⟩) (meth := k2m3) (c := k2c3) (by decide +kernel) rfl rfl rfl (by decide +kernel)
set_option maxRecDepth 65536 in
theorem w_c8 : (Jvm.Cond.code ({ cls := "com/example/smallscope/smallscope/ChunkHasRoomPinLaw", name := "cost", desc := "(II)I" } : Jvm.MethodName) method_2_code (3 : Nat) (Option.some Jvm.ClassFile.FieldType.int)).before args0 about1 = true := code_word (m := ⟨1, 1⟩) (meth := k1m1) (c := k1c1) (by decide +kernel) rfl rfl rfl (by decide +kernel)
set_option maxRecDepth 65536 in
theorem w_c9 : (Jvm.Cond.code ({ cls := "java/lang/Math", name := "min", desc := "(II)I" } : Jvm.MethodName) jdk_29_method_69_code (2 : Nat) (Option.some Jvm.ClassFile.FieldType.int)).before args0 about1 = true := code_word (m := ⟨3, 2⟩) (meth := k3m2) (c := k3c2) (by decide +kernel) rfl rfl rfl (by decide +kernel)
def codes1 : List Jvm.Cond := [Jvm.Cond.code x code maxLocals ret, Jvm.Cond.code ({ cls := "com/example/smallscope/smallscope/Chunk", name := "<init>", desc := "(I)V" } : Jvm.MethodName) prog_24_method_1_code (2 : Nat) (Option.none : Option Jvm.ClassFile.FieldType), Jvm.Cond.code ({ cls := "java/lang/Object", name := "<init>", desc := "()V" } : Jvm.MethodName) object_method_1_code (1 : Nat) (Option.none : Option Jvm.ClassFile.FieldType), Jvm.Cond.code ({ cls := "java/lang/Math", name := "max", desc := "(II)I" } : Jvm.MethodName) jdk_29_method_65_code (2 : Nat) (Option.some Jvm.ClassFile.FieldType.int), Jvm.Cond.code ({ cls := "com/example/smallscope/smallscope/Chunk", name := "hasRoom", desc := "()Z" } : Jvm.MethodName) prog_24_method_4_code (1 : Nat) (Option.some Jvm.ClassFile.FieldType.boolean), Jvm.Cond.code ({ cls := "com/example/smallscope/smallscope/Chunk", name := "add", desc := "([I[I)I" } : Jvm.MethodName) prog_24_method_6_code (4 : Nat) (Option.some Jvm.ClassFile.FieldType.int), Jvm.Cond.code ({ cls := "com/example/smallscope/smallscope/Chunk", name := "whole", desc := "([I[I)V" } : Jvm.MethodName) prog_24_method_8_code (3 : Nat) (Option.none : Option Jvm.ClassFile.FieldType), Jvm.Cond.code ({ cls := "com/example/smallscope/smallscope/Chunk", name := "packed", desc := "([I[I)Z" } : Jvm.MethodName) prog_24_method_7_code (7 : Nat) (Option.some Jvm.ClassFile.FieldType.boolean), Jvm.Cond.code ({ cls := "com/example/smallscope/smallscope/ChunkHasRoomPinLaw", name := "cost", desc := "(II)I" } : Jvm.MethodName) method_2_code (3 : Nat) (Option.some Jvm.ClassFile.FieldType.int), Jvm.Cond.code ({ cls := "java/lang/Math", name := "min", desc := "(II)I" } : Jvm.MethodName) jdk_29_method_69_code (2 : Nat) (Option.some Jvm.ClassFile.FieldType.int)]
set_option maxRecDepth 65536 in
theorem codes_eq : words1.filter isCode = codes1 := rfl
theorem w_codes : ∀ c ∈ words1.filter isCode, c.before args0 about1 = true := by
  rw [codes_eq]
  intro c hc
  simp only [codes1, List.mem_cons, List.not_mem_nil, or_false] at hc
  rcases hc with rfl | rfl | rfl | rfl | rfl | rfl | rfl | rfl | rfl | rfl
  · exact w_c0
  · exact w_c1
  · exact w_c2
  · exact w_c3
  · exact w_c4
  · exact w_c5
  · exact w_c6
  · exact w_c7
  · exact w_c8
  · exact w_c9
set_option maxRecDepth 65536 in
theorem w_t1 : (words1.take 24).all (fun c => isCode c || c.before args0 about1) = true := by decide +kernel
set_option maxRecDepth 65536 in
theorem w_t2 : ((words1.drop 24).take 24).all (fun c => isCode c || c.before args0 about1) = true := by decide +kernel
set_option maxRecDepth 65536 in
theorem w_t3 : ((words1.drop 24).drop 24).all (fun c => isCode c || c.before args0 about1) = true := by decide +kernel
theorem w_tables : (allAtoms (Jvm.Cond.code x code maxLocals ret :: tables_1)).before args0 about1 = true := by
  rw [allAtoms_all]
  show words1.all (fun c => c.before args0 about1) = true
  refine all_split ?_ w_codes
  rw [← List.take_append_drop 24 words1, List.all_append, w_t1, ← List.take_append_drop 24 (words1.drop 24), List.all_append, w_t2, w_t3]
  rfl
set_option maxRecDepth 65536 in
theorem w_case : (Jvm.Cond.and given_1 narrow_1).before args0 about1 = true := by decide +kernel
theorem w_applies : (headSpec (Jvm.Cond.code x code maxLocals ret :: tables_1) room_1).applies x e0.platform about1 = true :=
  (Spec.applies_iff w_frames).mpr ⟨w_running, w_runnable, w_alone, w_named, w_hears, w_ripe, w_room, w_tables⟩
theorem atStart : AtStart classFile x code maxLocals ret World_1 tables_1 room_1 Calls_1 rest_1 Pre_1 launch0 p0 e0 about1 theMethod args0 below0 :=
  ⟨lists_1, trivial, launch0.admits_env _ _ _, launch0.least_env, fairChoices_fair.cas, fairChoices_fair.clock, w_frames, w_args, w_heap, w_applies, trivial, trivial, w_case⟩
end start1
theorem witness_1 : WitnessClaimed_1 := ⟨start1.p0, start1.e0, start1.about1, start1.theMethod, start1.args0, start1.below0, start1.atStart⟩
end Jvm.Pilot.@@N@@
