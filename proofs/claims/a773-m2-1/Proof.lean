import JvmDerived
import JvmDerived.Pilot.@@N@@Statement
import JvmDerived.Pilot.@@N@@Code
set_option linter.unusedVariables false
set_option linter.unusedSimpArgs false
namespace Jvm.Pilot.@@N@@
open Jvm Jvm.ClassFile Sem Op Lib Jvm.Free Jvm.Stand Jvm.LawKit Jvm.RoadKit Bundle Jvm.Pilot.@@N@@.Jvm.D
section OwnKit
variable {p : Program} {l : Launch} {e : Env} {R : Room} {s : State} {m : MethodId} {args : Array Value} {below : List Frame} {meth : Method} {c : Code} {T : State} {locs : List Loc} {cells slots : Nat} {Z : State} {a0 : Array Value} {h h' : Heap}
/-- the run from t on comes to the method's end, and there Fin holds -/
def own_Run (p : Program) (e : Env) (below : List Frame) (Fin : Outcome → State → Prop) (t : State) : Prop :=
  ∃ s₂ o, Steps p.tables e below t s₂ ∧ s₂.status = .running ∧ Ended s₂ below o ∧ Fin o s₂
variable {Fin : Outcome → State → Prop}
theorem own_go {t t' : State} (st : ∀ target, Steps p.tables e below t' target → Steps p.tables e below t target) (k : own_Run p e below Fin t') : own_Run p e below Fin t := by
  obtain ⟨s₂, o, h1, h2⟩ := k
  exact ⟨s₂, o, st _ h1, h2⟩
def own_End (s : State) (R : Room) (Q : Option Value → Heap → List Loc → Prop) (o : Outcome) (U : State) : Prop :=
  ∃ v L, o = .returned v ∧ Q v U.heap L ∧ FrameEnd s o U L R.cells R.slots
/-- a body's contract: called with these arguments over the heap h0 it returns, and Q says what is left -/
def own_Met (l : Launch) (Z : State) (y : MethodName) (bytes : ByteArray) (maxL : Nat) (ret : Option FieldType) (rm : Room) (as : Array Value) (h0 : Heap) (Q : Option Value → Heap → List Loc → Prop) : Prop :=
  ∀ ws : List Jvm.Cond, MetFree l y (head1 (Jvm.Cond.code y bytes maxL ret :: ws) rm) (fun a U => a = as ∧ Z.Warmed39 U.vm ∧ U.heap = h0) (fun _ _ _ _ _ => True) (fun _ U o U' => own_End U rm Q o U')
theorem own_enter {y : MethodName} {bytes : ByteArray} {maxL : Nat} {ret : Option FieldType} {rm : Room} {as : Array Value} {h0 : Heap} {Q : Option Value → Heap → List Loc → Prop} {g0 : MethodId → JFrame} (hpl : plainFor y = true) (hg0 : ∀ m, entryFrame m as maxL = g0 m)
    (body : ∀ (p : Program) (e : Env) (s : State) (m : MethodId) (below : List Frame) (meth : Method) (c : Code) (T : State), p.tables.exec = Jvm.exec → c.code = bytes → c.maxLocals = maxL → s.vm.findClass y.cls = some m.cls → meth.name = y.name → Z.Warmed39 s.vm → meth.sig.returnType = ret → meth.locks = false →
      Stand p l e rm s m as below meth c T [] 0 0 → T.heap = h0 → own_Run p e below (own_End s rm Q) (T.setTop (g0 m))) : own_Met l Z y bytes maxL ret rm as h0 Q := by
  intro ws
  refine MetFree.of_bodySF hpl hisR ?_
  intro p e s m args below meth c s₁ Bd hml0 hP hK
  obtain ⟨rfl, hZ, hh⟩ := hP
  rw [hg0]
  exact body p e s m below meth c s₁ Bd.exec Bd.bytes hml0 (findClass_of_methodNamed Bd.named) (name_of_methodNamed Bd.named Bd.method).1 hZ Bd.returns Bd.notSynchronized (Stand.of_body Bd) (by rw [← hh, Bd.state]; rfl)
theorem own_ret (X : Stand p l e R s m args below meth c T locs cells slots) {g : JFrame} {v : Option Value} {Q : Option Value → Heap → List Loc → Prop} (hv : meth.sig.returnType = none → v = none) (hlk : meth.locks = false) (hc : cells ≤ R.cells) (hs : slots ≤ R.slots)
    (st : ∀ fs, (∀ (f : JFrame) (acts : List Action), f.method = m → f.locked = none → f.entered = [] → (doReturn e (T.setTop f) acts v).1 = T.setFrames fs) → Steps p.tables e below (T.setTop g) (T.setFrames fs)) (hq : Q v T.heap locs) : own_Run p e below (own_End s R Q) (T.setTop g) := by
  obtain ⟨fs, hr, hrun, hended, hW, hsame⟩ := X.leave (v := v) hv hlk
  exact ⟨_, _, st fs hr, hrun, hended, _, _, rfl, hq, ⟨_, rfl⟩, hW, hsame.mono hc hs⟩
theorem own_retN (X : Stand p l e R s m args below meth c T locs cells slots) (hx : p.tables.exec = Jvm.exec) {t : FieldType} (hret : meth.sig.returnType = some t) (hlk : meth.locks = false) (ht : t = .boolean ∨ t = .byte ∨ t = .char ∨ t = .short) {pc : Nat} {Ls : Array Slot} {z : Int32} {rest : List Value} (hd : decode c.code pc = .ok (.ireturn, 1)) {Q : Option Value → Heap → List Loc → Prop} (hc : cells ≤ R.cells) (hs : slots ≤ R.slots)
    (hq : Q (some (.int (nar t z))) T.heap locs) : own_Run p e below (own_End s R Q) (T.setTop (mkF m pc Ls (.int z :: rest))) :=
  own_ret X (fun q => by rw [hret] at q; cases q) hlk hc hs (fun fs hr => retN X hx hret ht hd hr) hq
theorem own_retI (X : Stand p l e R s m args below meth c T locs cells slots) (hx : p.tables.exec = Jvm.exec) (hret : meth.sig.returnType = some .int) (hlk : meth.locks = false) {pc : Nat} {Ls : Array Slot} {z : Int32} {rest : List Value} (hd : decode c.code pc = .ok (.ireturn, 1)) {Q : Option Value → Heap → List Loc → Prop} (hc : cells ≤ R.cells) (hs : slots ≤ R.slots)
    (hq : Q (some (.int z)) T.heap locs) : own_Run p e below (own_End s R Q) (T.setTop (mkF m pc Ls (.int z :: rest))) :=
  own_ret X (fun q => by rw [hret] at q; cases q) hlk hc hs (fun fs hr => retOut X hx hret rfl (Or.inl ⟨rfl, Or.inl rfl, z, rfl⟩) hd hr) hq
theorem own_retJ (X : Stand p l e R s m args below meth c T locs cells slots) (hx : p.tables.exec = Jvm.exec) (hret : meth.sig.returnType = some .long) (hlk : meth.locks = false) {pc : Nat} {Ls : Array Slot} {z : Int64} {rest : List Value} (hd : decode c.code pc = .ok (.lreturn, 1)) {Q : Option Value → Heap → List Loc → Prop} (hc : cells ≤ R.cells) (hs : slots ≤ R.slots)
    (hq : Q (some (.long z)) T.heap locs) : own_Run p e below (own_End s R Q) (T.setTop (mkF m pc Ls (.long z :: rest))) :=
  own_ret X (fun q => by rw [hret] at q; cases q) hlk hc hs (fun fs hr => retOut X hx hret rfl (Or.inr (Or.inl ⟨rfl, rfl, z, rfl⟩)) hd hr) hq
theorem own_retA (X : Stand p l e R s m args below meth c T locs cells slots) (hx : p.tables.exec = Jvm.exec) {t : FieldType} (hret : meth.sig.returnType = some t) (hlk : meth.locks = false) (ht : t.isReference = true) {pc : Nat} {Ls : Array Slot} {w : Value} (hw : w.isRef = true) {rest : List Value} (hn : narrow t w = w) (hd : decode c.code pc = .ok (.areturn, 1)) {Q : Option Value → Heap → List Loc → Prop} (hc : cells ≤ R.cells) (hs : slots ≤ R.slots)
    (hq : Q (some w) T.heap locs) : own_Run p e below (own_End s R Q) (T.setTop (mkF m pc Ls (w :: rest))) :=
  own_ret X (fun q => by rw [hret] at q; cases q) hlk hc hs (fun fs hr => retOut X hx hret hn (Or.inr (Or.inr (Or.inr (Or.inr ⟨rfl, ht, hw⟩)))) hd hr) hq
theorem own_retV (X : Stand p l e R s m args below meth c T locs cells slots) (hx : p.tables.exec = Jvm.exec) (hret : meth.sig.returnType = none) (hlk : meth.locks = false) {pc : Nat} {Ls : Array Slot} (hd : decode c.code pc = .ok (.return_, 1)) {Q : Option Value → Heap → List Loc → Prop} (hc : cells ≤ R.cells) (hs : slots ≤ R.slots)
    (hq : Q none T.heap locs) : own_Run p e below (own_End s R Q) (T.setTop (mkF m pc Ls [])) :=
  own_ret X (fun _ => rfl) hlk hc hs (fun fs hr => X.returnOut hx hret hd hr) hq
/-! calls -/
theorem own_callS (X : Stand p l e R s m args below meth c T locs cells slots) (hx : p.tables.exec = Jvm.exec) (hZ : Z.Warmed39 s.vm) (eT : T.heap = h) {own : String} (hown : s.vm.findClass own = some m.cls) {index : Nat} (y : MethodName) {bytes : ByteArray} {maxL : Nat} {ret : Option FieldType} {rm : Room} {Q : Option Value → Heap → List Loc → Prop}
    (w1 : (Jvm.Cond.methodLink own index y).before a0 Z = true) (w2 : (Jvm.Cond.static y).before a0 Z = true) (w3 : (Jvm.Cond.initialized y.cls).before a0 Z = true) (w4 : (Jvm.Cond.code y bytes maxL ret).before a0 Z = true) (hy : y.cls ≠ "java/lang/invoke/MethodHandle" ∧ y.cls ≠ "java/lang/invoke/VarHandle")
    (argsL rest : List Value) (hM : own_Met l Z y bytes maxL ret rm argsL.toArray h Q) (hf : rm.frames + 1 ≤ R.frames) (W : Nat) (hl : W + (maxL + 11) + rm.locals ≤ R.locals) (hc : cells + rm.cells ≤ R.cells) (hs : slots + rm.slots ≤ R.slots)
    {g : JFrame} (hg : g.method = m) (hsize : g.locals.size = c.maxLocals) (hlen : ∀ sig, parseMethodDescriptor y.desc = some sig → argsL.length = sig.parameters.length) (hstack : g.stack = argsL.reverse ++ rest) (hW : 2 * g.monitorRoom + (rest.map fun v => v.category).sum ≤ W) (hd : decode c.code g.pc = .ok (.invokestatic index, 3))
    (k : ∀ (v : Option Value) (h' : Heap) (L : List Loc) (T' : State), Q v h' L → Stand p l e R s m args below meth c T' (locs ++ L) (cells + rm.cells) (slots + rm.slots) → T'.heap = h' → own_Run p e below Fin (T'.setTop { g with pc := g.pc + 3, stack := v.toList ++ rest })) : own_Run p e below Fin (T.setTop g) := by
  obtain ⟨v, _, ⟨T', L', k', n'⟩, -, X', ⟨Lc, hQ, l1, y1, z1⟩, st⟩ := Jvm.LawKit.callS X hx (y := y) hown (mvT hZ w1) (mvT hZ w2) (mvT hZ w3) (mvT hZ w4) hy (backOf (W := W) (hM []) hZ w4 w3 hf hl) hg hsize (argsL := argsL) (rest := rest) hlen hstack hW hd (fun _ _ => ⟨rfl, eT, hc, hs⟩)
  dsimp only [Pt.U, Pt.locs, Pt.cells, Pt.slots] at X' l1 y1 z1 st hQ
  subst l1 y1 z1
  exact own_go st (k v T'.heap Lc T' hQ X' rfl)
theorem own_callN (X : Stand p l e R s m args below meth c T locs cells slots) (hx : p.tables.exec = Jvm.exec) (hZ : Z.Warmed39 s.vm) (eT : T.heap = h) {own : String} (hown : s.vm.findClass own = some m.cls) {index : Nat} (y : MethodName) (hy1 : y.name = "<init>") {bytes : ByteArray} {maxL : Nat} {rm : Room} {Q : Option Value → Heap → List Loc → Prop}
    (w1 : (Jvm.Cond.methodLink own index y).before a0 Z = true) (w2 : (Jvm.Cond.instanceMethod y).before a0 Z = true) (w3 : (Jvm.Cond.initialized y.cls).before a0 Z = true) (w4 : (Jvm.Cond.code y bytes maxL none).before a0 Z = true) (hy : y.cls ≠ "java/lang/invoke/MethodHandle" ∧ y.cls ≠ "java/lang/invoke/VarHandle")
    (a : Addr) (argsL rest : List Value) (hM : own_Met l Z y bytes maxL none rm (.ref a :: argsL).toArray h Q) (hf : rm.frames + 1 ≤ R.frames) (W : Nat) (hl : W + (maxL + 11) + rm.locals ≤ R.locals) (hc : cells + rm.cells ≤ R.cells) (hs : slots + rm.slots ≤ R.slots)
    {g : JFrame} (hg : g.method = m) (hsize : g.locals.size = c.maxLocals) (hlen : ∀ sig, parseMethodDescriptor y.desc = some sig → argsL.length = sig.parameters.length) (hstack : g.stack = argsL.reverse ++ .ref a :: rest) (hW : 2 * g.monitorRoom + (rest.map fun v => v.category).sum ≤ W) (hd : decode c.code g.pc = .ok (.invokespecial index, 3))
    (k : ∀ (v : Option Value) (h' : Heap) (L : List Loc) (T' : State), Q v h' L → Stand p l e R s m args below meth c T' (locs ++ L) (cells + rm.cells) (slots + rm.slots) → T'.heap = h' → own_Run p e below Fin (T'.setTop { g with pc := g.pc + 3, stack := v.toList ++ rest })) : own_Run p e below Fin (T.setTop g) := by
  obtain ⟨v, _, ⟨T', L', k', n'⟩, -, X', ⟨Lc, hQ, l1, y1, z1⟩, st⟩ := X.specialBack hx (y := y) hy1 hown (mvT hZ w1) (mvT hZ w2) (mvT hZ w4) hy (backOf (W := W) (hM []) hZ w4 w3 hf hl) hg hsize (Steps.refl _) (a := a) (argsL := argsL) (rest := rest) hlen hstack hW hd (fun _ _ => ⟨rfl, eT, hc, hs⟩)
  dsimp only [Pt.U, Pt.locs, Pt.cells, Pt.slots] at X' l1 y1 z1 st hQ
  subst l1 y1 z1
  exact own_go (fun _ q => st.trans q) (k v T'.heap Lc T' hQ X' rfl)
theorem own_callV (X : Stand p l e R s m args below meth c T locs cells slots) (hx : p.tables.exec = Jvm.exec) (hZ : Z.Warmed39 s.vm) (eT : T.heap = h) {own : String} (hown : s.vm.findClass own = some m.cls) {index : Nat} (y : MethodName) {C : String} {bytes : ByteArray} {maxL : Nat} {ret : Option FieldType} {rm : Room} {Q : Option Value → Heap → List Loc → Prop}
    (w1 : (Jvm.Cond.methodLink own index y).before a0 Z = true) (w5 : (Jvm.Cond.declares y).before a0 Z = true) (w6 : (Jvm.Cond.selects C y y).before a0 Z = true) (w2 : (Jvm.Cond.instanceMethod y).before a0 Z = true) (w3 : (Jvm.Cond.initialized y.cls).before a0 Z = true) (w4 : (Jvm.Cond.code y bytes maxL ret).before a0 Z = true) (hy : y.cls ≠ "java/lang/invoke/MethodHandle" ∧ y.cls ≠ "java/lang/invoke/VarHandle")
    (a : Addr) (E : Exa Z h a C) (argsL rest : List Value) (hM : own_Met l Z y bytes maxL ret rm (.ref a :: argsL).toArray h Q) (hf : rm.frames + 1 ≤ R.frames) (W : Nat) (hl : W + (maxL + 11) + rm.locals ≤ R.locals) (hc : cells + rm.cells ≤ R.cells) (hs : slots + rm.slots ≤ R.slots)
    {g : JFrame} (hg : g.method = m) (hsize : g.locals.size = c.maxLocals) (hlen : ∀ sig, parseMethodDescriptor y.desc = some sig → argsL.length = sig.parameters.length) (hstack : g.stack = argsL.reverse ++ .ref a :: rest) (hW : 2 * g.monitorRoom + (rest.map fun v => v.category).sum ≤ W) (hd : decode c.code g.pc = .ok (.invokevirtual index, 3))
    (k : ∀ (v : Option Value) (h' : Heap) (L : List Loc) (T' : State), Q v h' L → Stand p l e R s m args below meth c T' (locs ++ L) (cells + rm.cells) (slots + rm.slots) → T'.heap = h' → own_Run p e below Fin (T'.setTop { g with pc := g.pc + 3, stack := v.toList ++ rest })) : own_Run p e below Fin (T.setTop g) := by
  obtain ⟨cq, kq, qa, qb, qc⟩ := isOf hZ eT E
  obtain ⟨v, _, ⟨T', L', k', n'⟩, -, X', ⟨Lc, hQ, l1, y1, z1⟩, st⟩ := X.virtualBack hx (y := y) (z := y) hown (mvT hZ w1) (mvT hZ w5) (notFace_of_selects (args := #[]) (mvT hZ w6)) (mvT hZ w6) (mvT hZ w2) hy (backOf (W := W) (hM []) hZ w4 w3 hf hl) qa qc hg hsize (Steps.refl _) (argsL := argsL) (rest := rest) hlen hstack hW hd (fun _ _ => ⟨rfl, eT, hc, hs⟩)
  dsimp only [Pt.U, Pt.locs, Pt.cells, Pt.slots] at X' l1 y1 z1 st hQ
  subst l1 y1 z1
  exact own_go (fun _ q => st.trans q) (k v T'.heap Lc T' hQ X' rfl)
theorem own_initO (X : Stand p l e R s m args below meth c T locs cells slots) (hx : p.tables.exec = Jvm.exec) (hZ : Z.Warmed39 s.vm) (eT : T.heap = h) {own : String} (hown : s.vm.findClass own = some m.cls) {idx : Nat} (w1 : (Jvm.Cond.methodLink own idx Lib.objectInit).before a0 Z = true) (w2 : (Jvm.Cond.instanceMethod Lib.objectInit).before a0 Z = true)
    (w3 : (Jvm.Cond.code Lib.objectInit object_method_1_code 1 none).before a0 Z = true) {g : JFrame} (hg : g.method = m) (hsize : g.locals.size = c.maxLocals) {a : Addr} {rest : List Value} (hs : g.stack = .ref a :: rest) (hd : decode c.code g.pc = .ok (.invokespecial idx, 3))
    (hf : 1 ≤ R.frames) (W : Nat) (hW : 2 * g.monitorRoom + (rest.map fun v => v.category).sum ≤ W) (hl : W + 12 ≤ R.locals)
    (k : ∀ T' : State, Stand p l e R s m args below meth c T' locs cells slots → T'.heap = h → own_Run p e below Fin (T'.setTop { g with pc := g.pc + 3, stack := rest })) : own_Run p e below Fin (T.setTop g) := by
  obtain ⟨T', X', e', st⟩ := initO X hx hZ hown w1 w2 w3 eT hg hsize hs hd hf hW hl
  exact own_go st (k T' X' e')
/-! fields -/
theorem own_getF (X : Stand p l e R s m args below meth c T locs cells slots) (hx : p.tables.exec = Jvm.exec) (hZ : Z.Warmed39 s.vm) (eT : T.heap = h) {own O n d : String} (hown : s.vm.findClass own = some m.cls) {index : Nat} (w : (Jvm.Cond.fieldLink own index O n d).before a0 Z = true)
    {a : Addr} {v : Value} (F : Fld Z h a O n d v) {g : JFrame} (hg : g.method = m) {rest : List Value} (hs : g.stack = .ref a :: rest) (hd : decode c.code g.pc = .ok (.getfield index, 3))
    (k : ∀ T' : State, Stand p l e R s m args below meth c T' locs cells slots → T'.heap = h → own_Run p e below Fin (T'.setTop { g with pc := g.pc + 3, stack := v :: rest })) : own_Run p e below Fin (T.setTop g) := by
  obtain ⟨T', X', e', st⟩ := getF X hx hZ hown (host := "") (Or.inl w) Via.refl eT F hg hs hd
  exact own_go st (k T' X' e')
theorem own_putF (X : Stand p l e R s m args below meth c T locs cells slots) (hx : p.tables.exec = Jvm.exec) (hZ : Z.Warmed39 s.vm) (eT : T.heap = h) {own O n d C : String} (hown : s.vm.findClass own = some m.cls) {index kk : Nat} (ty : FieldType) (w : (Jvm.Cond.fieldLink own index O n d).before a0 Z = true)
    {a : Addr} {v v' old : Value} (F : Fld Z h a O n d old) (E : Exa Z h a C) (L : (Jvm.Cond.lays C O n d).before a0 Z = true ∨ ((Jvm.Cond.laysFinal C O n d).before a0 Z = true ∧ own = O ∧ meth.name = "<init>")) (wi : (Jvm.Cond.instantiable C kk).before a0 Z = true)
    (hty : parseFieldDescriptor d = some ty) (hn : narrow ty v = v') (hf : fits ty v' = true) {g : JFrame} (hg : g.method = m) {rest : List Value} (hs : g.stack = v :: .ref a :: rest) (hd : decode c.code g.pc = .ok (.putfield index, 3))
    (k : ∀ (T' : State) (h' : Heap), Stand p l e R s m args below meth c T' (locs ++ [⟨a, Jvm.RoadKit.slotOf Z O n d⟩]) cells slots → T'.heap = h' → Wr h h' a (Jvm.RoadKit.slotOf Z O n d) v' → own_Run p e below Fin (T'.setTop { g with pc := g.pc + 3, stack := rest })) : own_Run p e below Fin (T.setTop g) := by
  obtain ⟨T', h', X', e', W, st⟩ := putFN X hx hZ hown w Via.refl eT F E L wi hty hn hf hg hs hd
  exact own_go st (k T' h' X' e' W)
/-! fresh objects -/
theorem own_newO (X : Stand p l e R s m args below meth c T locs cells slots) (hx : p.tables.exec = Jvm.exec) (hZ : Z.Warmed39 s.vm) (eT : T.heap = h) {own C : String} {index n : Nat} (hown : s.vm.findClass own = some m.cls) (w : (Jvm.Cond.classLink own index C).before a0 Z = true) (wi : (Jvm.Cond.instantiable C n).before a0 Z = true) (wz : (Jvm.Cond.initialized C).before a0 Z = true)
    {g : JFrame} (hg : g.method = m) (hd : decode c.code g.pc = .ok (.new index, 3)) (hc : cells + 1 ≤ R.cells) (hl : slots + n ≤ R.slots)
    (k : ∀ (b : Addr) (T' : State) (h' : Heap), b = h.size → Stand p l e R s m args below meth c T' locs (cells + 1) (slots + n) → T'.heap = h' → Ext h h' → Exa Z h' b C → (∀ {O nm d : String} {ty : FieldType}, Laid Z a0 C O nm d → parseFieldDescriptor d = some ty → Fld Z h' b O nm d (defaultValue ty)) →
      own_Run p e below Fin (T'.setTop { g with pc := g.pc + 3, stack := .ref b :: g.stack })) : own_Run p e below Fin (T.setTop g) := by
  obtain ⟨T', h', X', e', E, A, D, -, st⟩ := newO X hx hZ hown w wi wz eT hg hd hc hl
  exact own_go st (k h.size T' h' rfl X' e' E A D)
/-! arrays: n places, place k holds f k -/
def own_Arr (Z : State) (h : Heap) (a : Addr) (ty : FieldType) (n : Nat) (f : Nat → Value) : Prop := ∃ cl : Cell, Arr Z h a cl ty ∧ cl.slots.size = n ∧ ∀ k, k < n → cl.slots[k]? = some (f k)
theorem own_Arr.lt {a : Addr} {ty : FieldType} {n : Nat} {f : Nat → Value} (F : own_Arr Z h a ty n f) : a < h.size := by obtain ⟨c, A, -⟩ := F; exact A.lt
theorem own_Arr.ext {a : Addr} {ty : FieldType} {n : Nat} {f : Nat → Value} (F : own_Arr Z h a ty n f) (E : Ext h h') : own_Arr Z h' a ty n f := by obtain ⟨c, A, r⟩ := F; exact ⟨c, A.ext E, r⟩
theorem own_Arr.other {a b : Addr} {sl : Nat} {v : Value} {ty : FieldType} {n : Nat} {f : Nat → Value} (F : own_Arr Z h b ty n f) (W : Wr h h' a sl v) (q : b ≠ a) : own_Arr Z h' b ty n f := by obtain ⟨c, A, r⟩ := F; exact ⟨c, A.other W q, r⟩
theorem own_Arr.keep {a : Addr} {ws : List Addr} {ty : FieldType} {n : Nat} {f : Nat → Value} (F : own_Arr Z h a ty n f) (K : Keep h h' ws) (q : a ∉ ws) : own_Arr Z h' a ty n f := by obtain ⟨c, A, r⟩ := F; exact ⟨c, ⟨K.2.1 a c A.1 q, A.2⟩, r⟩
theorem own_Arr.set {a : Addr} {j : Nat} {v : Value} {ty : FieldType} {n : Nat} {f : Nat → Value} (F : own_Arr Z h a ty n f) (W : Wr h h' a j v) (hj : j < n) : own_Arr Z h' a ty n (fun k => if k = j then v else f k) := by
  obtain ⟨cl, A, r1, r2⟩ := F
  refine ⟨_, A.same W, by rw [sz_set]; exact r1, fun k hk => ?_⟩
  by_cases q : k = j
  · subst q; simp [Cell.setSlot, r1, hj]
  · show (cl.setSlot j v).slots[k]? = some (if k = j then v else f k)
    rw [if_neg q]; exact (Array.getElem?_setIfInBounds_ne (Ne.symm q)).trans (r2 k hk)
theorem own_Arr.congr {a : Addr} {ty : FieldType} {n : Nat} {f f' : Nat → Value} (F : own_Arr Z h a ty n f) (q : ∀ k, k < n → f k = f' k) : own_Arr Z h a ty n f' := by
  obtain ⟨cl, A, r1, r2⟩ := F
  exact ⟨cl, A, r1, fun k hk => by rw [← q k hk]; exact r2 k hk⟩
theorem own_in {cl : Cell} {n : Nat} {j : Int32} (r : cl.slots.size = n) (hj : 0 ≤ j.toInt ∧ j.toInt < n) : ¬ (j < 0 ∨ cl.slots.size ≤ j.toNatClampNeg) := by
  have e0 : (0 : Int32).toInt = 0 := rfl
  simp only [Int32.lt_iff_toInt_lt, Int32.toNatClampNeg, r, e0]; omega
theorem own_idx {n : Nat} {j : Int32} (hj : 0 ≤ j.toInt ∧ j.toInt < n) : j.toNatClampNeg < n := by
  simp only [Int32.toNatClampNeg]; omega
theorem own_newP (X : Stand p l e R s m args below meth c T locs cells slots) (hx : p.tables.exec = Jvm.exec) (hZ : Z.Warmed39 s.vm) (eT : T.heap = h) {aty : ArrayType} (w : (Jvm.Cond.arrayClass (newarray.typeOf aty)).before a0 Z = true) {g : JFrame} (hg : g.method = m) (hd : decode c.code g.pc = .ok (.newarray aty, 2)) {z : Int32} {rest : List Value} (hs : g.stack = .int z :: rest)
    (n cap : Nat) (hn : z.toInt = n) (hcap : n ≤ cap) (hb : cap * 8 ≤ 536870912) (hc : cells + 1 ≤ R.cells) (hl : slots + cap ≤ R.slots) (ad : String) (had : "[" ++ (newarray.typeOf aty).toString = ad)
    (k : ∀ (b : Addr) (T' : State) (h' : Heap), b = h.size → Stand p l e R s m args below meth c T' locs (cells + 1) (slots + cap) → T'.heap = h' → Ext h h' → own_Arr Z h' b (newarray.typeOf aty) n (fun _ => defaultValue (newarray.typeOf aty)) → Exa Z h' b ad →
      own_Run p e below Fin (T'.setTop { g with pc := g.pc + 2, stack := .ref b :: rest })) : own_Run p e below Fin (T.setTop g) := by
  have hz : z.toNatClampNeg = n := by simp only [Int32.toNatClampNeg]; omega
  have e0 : (0 : Int32).toInt = 0 := rfl
  have hz0 : ¬ z < 0 := by rw [Int32.lt_iff_toInt_lt, e0]; omega
  obtain ⟨T', h', cA, X', e', E, A, Ex, st⟩ := newPE X hx hZ w eT hg hd hs (n := z) hz0 (cap := cap) (by omega) hb hc hl had
  exact own_go st (k h.size T' h' rfl X' e' E ⟨_, A, by rw [sz_new]; exact hz, fun i hi => by simp [newA, hz, hi]⟩ Ex)
theorem own_iastore (X : Stand p l e R s m args below meth c T locs cells slots) (hx : p.tables.exec = Jvm.exec) (hZ : Z.Warmed39 s.vm) (eT : T.heap = h) {a : Addr} {n : Nat} {f : Nat → Value} (A : own_Arr Z h a .int n f) {j x : Int32} (hj : 0 ≤ j.toInt ∧ j.toInt < n) {g : JFrame} (hg : g.method = m) {rest : List Value} (hs : g.stack = .int x :: .int j :: .ref a :: rest) (hd : decode c.code g.pc = .ok (.iastore, 1))
    (k : ∀ (T' : State) (h' : Heap), Stand p l e R s m args below meth c T' (locs ++ [⟨a, j.toNatClampNeg⟩]) cells slots → T'.heap = h' → Wr h h' a j.toNatClampNeg (.int x) → own_Arr Z h' a .int n (fun i => if i = j.toNatClampNeg then .int x else f i) → own_Run p e below Fin (T'.setTop { g with pc := g.pc + 1, stack := rest })) : own_Run p e below Fin (T.setTop g) := by
  obtain ⟨cl, A1, r1, r2⟩ := A
  obtain ⟨T', h', X', e', W, st⟩ := stI X hx hZ eT A1 (own_in r1 hj) hg hs hd
  exact own_go st (k T' h' X' e' W (own_Arr.set ⟨cl, A1, r1, r2⟩ W (own_idx hj)))
theorem own_bastore (X : Stand p l e R s m args below meth c T locs cells slots) (hx : p.tables.exec = Jvm.exec) (hZ : Z.Warmed39 s.vm) (eT : T.heap = h) {a : Addr} {n : Nat} {f : Nat → Value} (A : own_Arr Z h a .byte n f) {j x : Int32} (hj : 0 ≤ j.toInt ∧ j.toInt < n) {g : JFrame} (hg : g.method = m) {rest : List Value} (hs : g.stack = .int x :: .int j :: .ref a :: rest) (hd : decode c.code g.pc = .ok (.bastore, 1))
    (k : ∀ (T' : State) (h' : Heap), Stand p l e R s m args below meth c T' (locs ++ [⟨a, j.toNatClampNeg⟩]) cells slots → T'.heap = h' → Wr h h' a j.toNatClampNeg (.int (nar .byte x)) → own_Arr Z h' a .byte n (fun i => if i = j.toNatClampNeg then .int (nar .byte x) else f i) → own_Run p e below Fin (T'.setTop { g with pc := g.pc + 1, stack := rest })) : own_Run p e below Fin (T.setTop g) := by
  obtain ⟨cl, A1, r1, r2⟩ := A
  obtain ⟨T', h', X', e', W, st⟩ := stB X hx hZ eT A1 (own_in r1 hj) hg hs hd
  exact own_go st (k T' h' X' e' W (own_Arr.set ⟨cl, A1, r1, r2⟩ W (own_idx hj)))
theorem own_iaload (X : Stand p l e R s m args below meth c T locs cells slots) (hx : p.tables.exec = Jvm.exec) (hZ : Z.Warmed39 s.vm) (eT : T.heap = h) {a : Addr} {n : Nat} {f : Nat → Value} (A : own_Arr Z h a .int n f) {j : Int32} (v : Int32) (hj : 0 ≤ j.toInt ∧ j.toInt < n) (hv : f j.toNatClampNeg = .int v) {g : JFrame} (hg : g.method = m) {rest : List Value} (hs : g.stack = .int j :: .ref a :: rest) (hd : decode c.code g.pc = .ok (.iaload, 1))
    (k : own_Run p e below Fin (T.setTop { g with pc := g.pc + 1, stack := .int v :: rest })) : own_Run p e below Fin (T.setTop g) := by
  obtain ⟨cl, A1, r1, r2⟩ := A
  exact own_go (X.iaload hx (by rw [eT]; exact A1.1) (State.isArrayOf_alike hZ.alike A1.2.1) A1.2.2 (own_in r1 hj) ((r2 _ (own_idx hj)).trans (by rw [hv])) hg hs hd) k
theorem own_baload (X : Stand p l e R s m args below meth c T locs cells slots) (hx : p.tables.exec = Jvm.exec) (hZ : Z.Warmed39 s.vm) (eT : T.heap = h) {a : Addr} {n : Nat} {f : Nat → Value} (A : own_Arr Z h a .byte n f) {j : Int32} (v : Int32) (hj : 0 ≤ j.toInt ∧ j.toInt < n) (hv : f j.toNatClampNeg = .int v) {g : JFrame} (hg : g.method = m) {rest : List Value} (hs : g.stack = .int j :: .ref a :: rest) (hd : decode c.code g.pc = .ok (.baload, 1))
    (k : own_Run p e below Fin (T.setTop { g with pc := g.pc + 1, stack := .int v :: rest })) : own_Run p e below Fin (T.setTop g) := by
  obtain ⟨cl, A1, r1, r2⟩ := A
  exact own_go (X.baloadBytes hx (by rw [eT]; exact A1.1) (State.isArrayOf_alike hZ.alike A1.2.1) A1.2.2 (own_in r1 hj) ((r2 _ (own_idx hj)).trans (by rw [hv])) hg hs hd) k
theorem own_alen (X : Stand p l e R s m args below meth c T locs cells slots) (hx : p.tables.exec = Jvm.exec) (hZ : Z.Warmed39 s.vm) (eT : T.heap = h) {a : Addr} {ty : FieldType} {n : Nat} {f : Nat → Value} (A : own_Arr Z h a ty n f) (z : Int32) (hz : z.toInt = n) {g : JFrame} (hg : g.method = m) {rest : List Value} (hs : g.stack = .ref a :: rest) (hd : decode c.code g.pc = .ok (.arraylength, 1))
    (k : own_Run p e below Fin (T.setTop { g with pc := g.pc + 1, stack := .int z :: rest })) : own_Run p e below Fin (T.setTop g) := by
  obtain ⟨cl, A1, r1, r2⟩ := A
  have e0 : (0 : Int32).toInt = 0 := rfl
  have hz0 : ¬ z < 0 := by rw [Int32.lt_iff_toInt_lt, e0]; omega
  have q : cl.slots.size.toInt32 = z := len_of (by rw [r1]; simp only [Int32.toNatClampNeg]; omega) hz0
  exact own_go (X.arraylength hx (by rw [eT]; exact A1.1) (State.isArrayOf_alike hZ.alike A1.2.1) hg hs hd) (by rw [q]; exact k)
theorem own_clone (X : Stand p l e R s m args below meth c T locs cells slots) (hx : p.tables.exec = Jvm.exec) (hZ : Z.Warmed39 s.vm) (eT : T.heap = h) {own ad : String} {index : Nat} (hown : s.vm.findClass own = some m.cls)
    (w1 : (Jvm.Cond.methodLink own index ⟨ad, "clone", "()Ljava/lang/Object;"⟩).before a0 Z = true) (w2 : (Jvm.Cond.sameMethod ad "java/lang/Object" "clone" "()Ljava/lang/Object;").before a0 Z = true) (w3 : (Jvm.Cond.native ⟨"java/lang/Object", "clone", "()Ljava/lang/Object;"⟩).before a0 Z = true)
    (w4 : (Jvm.Cond.instanceMethod ⟨"java/lang/Object", "clone", "()Ljava/lang/Object;"⟩).before a0 Z = true) (w5 : (Jvm.Cond.selects ad ⟨ad, "clone", "()Ljava/lang/Object;"⟩ ⟨"java/lang/Object", "clone", "()Ljava/lang/Object;"⟩).before a0 Z = true) (w6 : (Jvm.Cond.castable ad "java/lang/Cloneable").before a0 Z = true)
    {a : Addr} {ty : FieldType} {n : Nat} {f : Nat → Value} (A : own_Arr Z h a ty n f) (E : Exa Z h a ad) (hfit : ∀ i, i < n → fits ty (f i) = true) {g : JFrame} (hg : g.method = m) (hsize : g.locals.size = c.maxLocals) {rest : List Value} (hs : g.stack = .ref a :: rest) (hd : decode c.code g.pc = .ok (.invokevirtual index, 3))
    (hf : 1 ≤ R.frames) (W cap : Nat) (hW : 2 * g.monitorRoom + (rest.map fun v => v.category).sum ≤ W) (hl : W + 14 ≤ R.locals) (hcap : n ≤ cap) (hc : cells + 1 ≤ R.cells) (hsl : slots + cap ≤ R.slots)
    (k : ∀ (b : Addr) (T' : State) (h' : Heap), b = h.size → Stand p l e R s m args below meth c T' locs (cells + 1) (slots + cap) → T'.heap = h' → Ext h h' → own_Arr Z h' b ty n f → Exa Z h' b ad → own_Run p e below Fin (T'.setTop { g with pc := g.pc + 3, stack := .ref b :: rest })) : own_Run p e below Fin (T.setTop g) := by
  obtain ⟨cl, A1, r1, r2⟩ := A
  have FC : FitC Z cl := fitC_of A1 fun i hi v hv => by
    rw [r2 i (by omega)] at hv; cases hv; exact hfit i (by omega)
  obtain ⟨T', h', X', e', ex, A', E', st⟩ := cloneA X hx hZ hown w1 w2 w3 w4 w5 w6 eT A1 E FC hg hsize hs hd hf hW hl (by omega) hc hsl
  exact own_go st (k h.size T' h' rfl X' e' ex ⟨cloneOf cl, A', r1, r2⟩ E')
theorem own_cast (X : Stand p l e R s m args below meth c T locs cells slots) (hx : p.tables.exec = Jvm.exec) (hZ : Z.Warmed39 s.vm) (eT : T.heap = h) {own K C : String} {index : Nat} (hown : s.vm.findClass own = some m.cls) (w : (Jvm.Cond.classLink own index K).before a0 Z = true) {a : Addr} (E : Exa Z h a C) (w2 : (Jvm.Cond.castable C K).before a0 Z = true)
    {g : JFrame} (hg : g.method = m) {rest : List Value} (hs : g.stack = .ref a :: rest) (hd : decode c.code g.pc = .ok (.checkcast index, 3))
    (k : ∀ T' : State, Stand p l e R s m args below meth c T' locs cells slots → T'.heap = h → own_Run p e below Fin (T'.setTop { g with pc := g.pc + 3 })) : own_Run p e below Fin (T.setTop g) := by
  obtain ⟨T', X', e', st⟩ := castY X hx hZ hown w eT (Ins.of_exa E w2) hg hs hd
  exact own_go st (k T' X' e')
/-! constants -/
theorem own_ldc (X : Stand p l e R s m args below meth c T locs cells slots) (hx : p.tables.exec = Jvm.exec) (hZ : Z.Warmed39 s.vm) {own : String} {index : Nat} {v : Int32} (hown : s.vm.findClass own = some m.cls) (w : (Jvm.Cond.constant own index v).before a0 Z = true) {g : JFrame} (hg : g.method = m) (hd : decode c.code g.pc = .ok (.ldc index, 2))
    (k : own_Run p e below Fin (T.setTop { g with pc := g.pc + 2, stack := .int v :: g.stack })) : own_Run p e below Fin (T.setTop g) := own_go (X.ldcInt hx hown (mvT hZ w) hg hd) k
theorem own_ldc2 (X : Stand p l e R s m args below meth c T locs cells slots) (hx : p.tables.exec = Jvm.exec) (hZ : Z.Warmed39 s.vm) {own : String} {index : Nat} {v : Int64} (hown : s.vm.findClass own = some m.cls) (w : (Jvm.Cond.constantLong own index v).before a0 Z = true) {g : JFrame} (hg : g.method = m) (hd : decode c.code g.pc = .ok (.ldc2_w index, 3))
    (k : own_Run p e below Fin (T.setTop { g with pc := g.pc + 3, stack := .long v :: g.stack })) : own_Run p e below Fin (T.setTop g) := own_go (X.ldc2Long hx hown (mvT hZ w) hg hd) k
theorem own_inj {x y : Int32} (q : x.toInt = y.toInt) : x = y := Int32.toInt_inj.mp q
theorem own_injL {x y : Int64} (q : x.toInt = y.toInt) : x = y := Int64.toInt_inj.mp q
end OwnKit
theorem own_narb (y : Int32) : nar .byte y.toInt8.toInt32 = y.toInt8.toInt32 := by
  show (y.toInt8.toInt32).toInt8.toInt32 = y.toInt8.toInt32
  rw [Int8.toInt8_toInt32]
def own_ms (j : Nat) (u0 u1 u2 : Int32) : Nat → Value := fun k => if k < j then (if k = 0 then .int (nar .byte u0.toInt8.toInt32) else if k = 1 then .int (nar .byte u1.toInt8.toInt32) else .int (nar .byte u2.toInt8.toInt32)) else .int (0 : Int32)
theorem own_msfit {u0 u1 u2 : Int32} (i : Nat) : fits .byte (own_ms 3 u0 u1 u2 i) = true := by
  unfold own_ms
  by_cases q : i < 3
  · rw [if_pos q]
    by_cases q0 : i = 0
    · rw [if_pos q0]; exact fits_nar_byte u0.toInt8.toInt32
    · rw [if_neg q0]
      by_cases q1 : i = 1
      · rw [if_pos q1]; exact fits_nar_byte u1.toInt8.toInt32
      · rw [if_neg q1]; exact fits_nar_byte u2.toInt8.toInt32
  · rw [if_neg q]; rfl
theorem own_ms0 (u0 u1 u2 : Int32) : own_ms 3 u0 u1 u2 0 = .int u0.toInt8.toInt32 := congrArg Value.int (own_narb u0)
theorem own_ms1 (u0 u1 u2 : Int32) : own_ms 3 u0 u1 u2 1 = .int u1.toInt8.toInt32 := congrArg Value.int (own_narb u1)
theorem own_ms2 (u0 u1 u2 : Int32) : own_ms 3 u0 u1 u2 2 = .int u2.toInt8.toInt32 := congrArg Value.int (own_narb u2)
theorem own_msn (j : Nat) (u0 u1 u2 : Int32) (k : Nat) (h : k < j) : own_ms j u0 u1 u2 k = own_ms (j + 1) u0 u1 u2 k := by
  unfold own_ms; rw [if_pos h, if_pos (Nat.lt_succ_of_lt h)]
theorem own_mst0 (u0 u1 u2 : Int32) (k : Nat) : (fun i => if i = 0 then Value.int (nar .byte u0.toInt8.toInt32) else own_ms 0 u0 u1 u2 i) k = own_ms (0 + 1) u0 u1 u2 k := by
  show (if k = 0 then Value.int (nar .byte u0.toInt8.toInt32) else own_ms 0 u0 u1 u2 k) = own_ms 1 u0 u1 u2 k
  unfold own_ms
  by_cases q : k = 0
  · subst q; rfl
  · rw [if_neg q, if_neg (by omega), if_neg (by omega)]
theorem own_mst1 (u0 u1 u2 : Int32) (k : Nat) : (fun i => if i = 1 then Value.int (nar .byte u1.toInt8.toInt32) else own_ms 1 u0 u1 u2 i) k = own_ms (1 + 1) u0 u1 u2 k := by
  show (if k = 1 then Value.int (nar .byte u1.toInt8.toInt32) else own_ms 1 u0 u1 u2 k) = own_ms 2 u0 u1 u2 k
  unfold own_ms
  by_cases q : k = 1
  · subst q; rfl
  · rw [if_neg q]
    by_cases r : k = 0
    · subst r; rfl
    · rw [if_neg (by omega), if_neg (by omega)]
theorem own_mst2 (u0 u1 u2 : Int32) (k : Nat) : (fun i => if i = 2 then Value.int (nar .byte u2.toInt8.toInt32) else own_ms 2 u0 u1 u2 i) k = own_ms (2 + 1) u0 u1 u2 k := by
  show (if k = 2 then Value.int (nar .byte u2.toInt8.toInt32) else own_ms 2 u0 u1 u2 k) = own_ms 3 u0 u1 u2 k
  unfold own_ms
  by_cases q : k = 2
  · subst q; rfl
  · rw [if_neg q]
    by_cases r : k = 0
    · subst r; rfl
    · by_cases r1 : k = 1
      · subst r1; rfl
      · rw [if_neg (by omega), if_neg (by omega)]
theorem d0_0 : decode prog_31_method_1_code 0 = .ok (.aload_n 0, 1) := by decide +kernel
theorem d0_1 : decode prog_31_method_1_code 1 = .ok (.invokespecial 1, 3) := by decide +kernel
theorem d0_4 : decode prog_31_method_1_code 4 = .ok (.aload_n 0, 1) := by decide +kernel
theorem d0_5 : decode prog_31_method_1_code 5 = .ok (.aload_n 1, 1) := by decide +kernel
theorem d0_6 : decode prog_31_method_1_code 6 = .ok (.putfield 7, 3) := by decide +kernel
theorem d0_9 : decode prog_31_method_1_code 9 = .ok (.aload_n 0, 1) := by decide +kernel
theorem d0_10 : decode prog_31_method_1_code 10 = .ok (.aload_n 2, 1) := by decide +kernel
theorem d0_11 : decode prog_31_method_1_code 11 = .ok (.putfield 13, 3) := by decide +kernel
theorem d0_14 : decode prog_31_method_1_code 14 = .ok (.return_, 1) := by decide +kernel
abbrev Q_initN (Z : State) (a : Addr) (db : Addr) (n0 : Nat) (h0 : Heap) : Option Value → Heap → List Loc → Prop := fun v h L => v = none ∧ Fr n0 L ∧ Keep h0 h [a] ∧ Exa Z h a "com/example/credence/credence/Payload" ∧ Fld Z h a "com/example/credence/credence/Payload" "metadata" "[B" .null
set_option maxRecDepth 65536 in
set_option maxHeartbeats 40000000 in
theorem rm_initN (l : Launch) (Z : State) (a0 : Array Value) (hw : ∀ d ∈ tables_1, d.before a0 Z = true) (a : Addr) (db : Addr) (n0 : Nat) (h0 : Heap) (Z0 : n0 ≤ h0.size) (E_a : Exa Z h0 a "com/example/credence/credence/Payload") (g_a : n0 ≤ a) (F_m : Fld Z h0 a "com/example/credence/credence/Payload" "metadata" "[B" .null) (F_d : Fld Z h0 a "com/example/credence/credence/Payload" "data" "[B" .null) :
    own_Met l Z (⟨"com/example/credence/credence/Payload", "<init>", "([B[B)V"⟩ : MethodName) prog_31_method_1_code 3 none ({ frames := 1, cells := 0, slots := 0, locals := 12 } : Room) #[(.ref a), .null, (.ref db)] h0 (Q_initN Z a db n0 h0) := by
  refine own_enter (g0 := fun m => (mkF m 0 #[.val (.ref a), .val .null, .val (.ref db)] [])) (plainFor_of_name (by first | (simp [plainName, overriddenIn]; done) | decide +kernel)) (fun m => by first | (simp [entryFrame, mkF, argsToLocals, Value.category]; done) | rfl) ?_
  intro p e s m below meth c T hx hby hml hown hnm hZ hret hlk X e0
  replace hown : s.vm.findClass "com/example/credence/credence/Payload" = some m.cls := hown
  have N := Fr.nil n0
  have hz := Z0
  have K := Keep.refl h0 [a]
  show own_Run p e below _ (T.setTop (mkF m 0 #[.val (.ref a), .val .null, .val (.ref db)] []))
  refine own_go (fun _ kS => XS.aloadN X.here hx rfl (hb hby d0_0) rfl rfl kS) ?_
  show own_Run p e below _ (T.setTop (mkF m 1 #[.val (.ref a), .val .null, .val (.ref db)] [(.ref a)]))
  refine own_initO X hx hZ e0 hown (hw _ (List.mem_of_getElem? (i := 7) rfl)) (hw _ (List.mem_of_getElem? (i := 8) rfl)) (hw _ (List.mem_of_getElem? (i := 9) rfl)) rfl (by rw [hml]; rfl) rfl (hb hby d0_1) (by decide) 0 (by show 2 * 0 + _ ≤ _; exact Nat.le_of_eq rfl) (by decide) (fun T1 X1 e1 => ?_)
  show own_Run p e below _ (T1.setTop (mkF m 4 #[.val (.ref a), .val .null, .val (.ref db)] []))
  refine own_go (fun _ kS => XS.aloadN X1.here hx rfl (hb hby d0_4) rfl rfl kS) ?_
  show own_Run p e below _ (T1.setTop (mkF m 5 #[.val (.ref a), .val .null, .val (.ref db)] [(.ref a)]))
  refine own_go (fun _ kS => XS.aloadN X1.here hx rfl (hb hby d0_5) rfl rfl kS) ?_
  show own_Run p e below _ (T1.setTop (mkF m 6 #[.val (.ref a), .val .null, .val (.ref db)] [.null, (.ref a)]))
  refine own_putF X1 hx hZ e1 hown (.array .byte) (hw _ (List.mem_of_getElem? (i := 10) rfl)) F_m E_a (Or.inr ⟨(hw _ (List.mem_of_getElem? (i := 11) rfl)), rfl, hnm⟩) (hw _ (List.mem_of_getElem? (i := 2) rfl)) (v' := .null) (by decide) rfl rfl rfl rfl (hb hby d0_6) (fun T2 h2 X2 e2 W2 => ?_)
  replace E_a := E_a.wr W2
  replace F_m := F_m.same W2
  replace F_d := F_d.other W2 (Or.inr (slot_ne (Or.inr (hw _ (List.mem_of_getElem? (i := 13) rfl))) (Or.inr (hw _ (List.mem_of_getElem? (i := 11) rfl))) (by decide) (t := (.array .byte)) (t' := (.array .byte)) (by decide) (by decide)))
  replace hz := Nat.le_trans hz (Nat.le_of_eq W2.size.symm)
  replace N := Fr.snoc X2 N g_a
  replace K := K.wr W2 (Or.inl (List.mem_of_getElem? (i := 0) rfl))
  show own_Run p e below _ (T2.setTop (mkF m 9 #[.val (.ref a), .val .null, .val (.ref db)] []))
  refine own_go (fun _ kS => XS.aloadN X2.here hx rfl (hb hby d0_9) rfl rfl kS) ?_
  show own_Run p e below _ (T2.setTop (mkF m 10 #[.val (.ref a), .val .null, .val (.ref db)] [(.ref a)]))
  refine own_go (fun _ kS => XS.aloadN X2.here hx rfl (hb hby d0_10) rfl rfl kS) ?_
  show own_Run p e below _ (T2.setTop (mkF m 11 #[.val (.ref a), .val .null, .val (.ref db)] [(.ref db), (.ref a)]))
  refine own_putF X2 hx hZ e2 hown (.array .byte) (hw _ (List.mem_of_getElem? (i := 12) rfl)) F_d E_a (Or.inr ⟨(hw _ (List.mem_of_getElem? (i := 13) rfl)), rfl, hnm⟩) (hw _ (List.mem_of_getElem? (i := 2) rfl)) (v' := (.ref db)) (by decide) rfl rfl rfl rfl (hb hby d0_11) (fun T3 h3 X3 e3 W3 => ?_)
  replace E_a := E_a.wr W3
  replace F_m := F_m.other W3 (Or.inr (slot_ne (Or.inr (hw _ (List.mem_of_getElem? (i := 11) rfl))) (Or.inr (hw _ (List.mem_of_getElem? (i := 13) rfl))) (by decide) (t := (.array .byte)) (t' := (.array .byte)) (by decide) (by decide)))
  replace F_d := F_d.same W3
  replace hz := Nat.le_trans hz (Nat.le_of_eq W3.size.symm)
  replace N := Fr.snoc X3 N g_a
  replace K := K.wr W3 (Or.inl (List.mem_of_getElem? (i := 0) rfl))
  show own_Run p e below _ (T3.setTop (mkF m 14 #[.val (.ref a), .val .null, .val (.ref db)] []))
  refine own_retV X3 hx hret hlk (hb hby d0_14) (by decide) (by decide) ?_
  rw [e3]
  exact ⟨rfl, N, K, E_a, F_m⟩
theorem d1_0 : decode prog_31_method_1_code 0 = .ok (.aload_n 0, 1) := by decide +kernel
theorem d1_1 : decode prog_31_method_1_code 1 = .ok (.invokespecial 1, 3) := by decide +kernel
theorem d1_4 : decode prog_31_method_1_code 4 = .ok (.aload_n 0, 1) := by decide +kernel
theorem d1_5 : decode prog_31_method_1_code 5 = .ok (.aload_n 1, 1) := by decide +kernel
theorem d1_6 : decode prog_31_method_1_code 6 = .ok (.putfield 7, 3) := by decide +kernel
theorem d1_9 : decode prog_31_method_1_code 9 = .ok (.aload_n 0, 1) := by decide +kernel
theorem d1_10 : decode prog_31_method_1_code 10 = .ok (.aload_n 2, 1) := by decide +kernel
theorem d1_11 : decode prog_31_method_1_code 11 = .ok (.putfield 13, 3) := by decide +kernel
theorem d1_14 : decode prog_31_method_1_code 14 = .ok (.return_, 1) := by decide +kernel
abbrev Q_initR (Z : State) (a : Addr) (mb : Addr) (db : Addr) (n0 : Nat) (h0 : Heap) : Option Value → Heap → List Loc → Prop := fun v h L => v = none ∧ Fr n0 L ∧ Keep h0 h [a] ∧ Exa Z h a "com/example/credence/credence/Payload" ∧ Fld Z h a "com/example/credence/credence/Payload" "metadata" "[B" (.ref mb)
set_option maxRecDepth 65536 in
set_option maxHeartbeats 40000000 in
theorem rm_initR (l : Launch) (Z : State) (a0 : Array Value) (hw : ∀ d ∈ tables_1, d.before a0 Z = true) (a : Addr) (mb : Addr) (db : Addr) (n0 : Nat) (h0 : Heap) (Z0 : n0 ≤ h0.size) (E_a : Exa Z h0 a "com/example/credence/credence/Payload") (g_a : n0 ≤ a) (F_m : Fld Z h0 a "com/example/credence/credence/Payload" "metadata" "[B" .null) (F_d : Fld Z h0 a "com/example/credence/credence/Payload" "data" "[B" .null) :
    own_Met l Z (⟨"com/example/credence/credence/Payload", "<init>", "([B[B)V"⟩ : MethodName) prog_31_method_1_code 3 none ({ frames := 1, cells := 0, slots := 0, locals := 12 } : Room) #[(.ref a), (.ref mb), (.ref db)] h0 (Q_initR Z a mb db n0 h0) := by
  refine own_enter (g0 := fun m => (mkF m 0 #[.val (.ref a), .val (.ref mb), .val (.ref db)] [])) (plainFor_of_name (by first | (simp [plainName, overriddenIn]; done) | decide +kernel)) (fun m => by first | (simp [entryFrame, mkF, argsToLocals, Value.category]; done) | rfl) ?_
  intro p e s m below meth c T hx hby hml hown hnm hZ hret hlk X e0
  replace hown : s.vm.findClass "com/example/credence/credence/Payload" = some m.cls := hown
  have N := Fr.nil n0
  have hz := Z0
  have K := Keep.refl h0 [a]
  show own_Run p e below _ (T.setTop (mkF m 0 #[.val (.ref a), .val (.ref mb), .val (.ref db)] []))
  refine own_go (fun _ kS => XS.aloadN X.here hx rfl (hb hby d1_0) rfl rfl kS) ?_
  show own_Run p e below _ (T.setTop (mkF m 1 #[.val (.ref a), .val (.ref mb), .val (.ref db)] [(.ref a)]))
  refine own_initO X hx hZ e0 hown (hw _ (List.mem_of_getElem? (i := 7) rfl)) (hw _ (List.mem_of_getElem? (i := 8) rfl)) (hw _ (List.mem_of_getElem? (i := 9) rfl)) rfl (by rw [hml]; rfl) rfl (hb hby d1_1) (by decide) 0 (by show 2 * 0 + _ ≤ _; exact Nat.le_of_eq rfl) (by decide) (fun T1 X1 e1 => ?_)
  show own_Run p e below _ (T1.setTop (mkF m 4 #[.val (.ref a), .val (.ref mb), .val (.ref db)] []))
  refine own_go (fun _ kS => XS.aloadN X1.here hx rfl (hb hby d1_4) rfl rfl kS) ?_
  show own_Run p e below _ (T1.setTop (mkF m 5 #[.val (.ref a), .val (.ref mb), .val (.ref db)] [(.ref a)]))
  refine own_go (fun _ kS => XS.aloadN X1.here hx rfl (hb hby d1_5) rfl rfl kS) ?_
  show own_Run p e below _ (T1.setTop (mkF m 6 #[.val (.ref a), .val (.ref mb), .val (.ref db)] [(.ref mb), (.ref a)]))
  refine own_putF X1 hx hZ e1 hown (.array .byte) (hw _ (List.mem_of_getElem? (i := 10) rfl)) F_m E_a (Or.inr ⟨(hw _ (List.mem_of_getElem? (i := 11) rfl)), rfl, hnm⟩) (hw _ (List.mem_of_getElem? (i := 2) rfl)) (v' := (.ref mb)) (by decide) rfl rfl rfl rfl (hb hby d1_6) (fun T2 h2 X2 e2 W2 => ?_)
  replace E_a := E_a.wr W2
  replace F_m := F_m.same W2
  replace F_d := F_d.other W2 (Or.inr (slot_ne (Or.inr (hw _ (List.mem_of_getElem? (i := 13) rfl))) (Or.inr (hw _ (List.mem_of_getElem? (i := 11) rfl))) (by decide) (t := (.array .byte)) (t' := (.array .byte)) (by decide) (by decide)))
  replace hz := Nat.le_trans hz (Nat.le_of_eq W2.size.symm)
  replace N := Fr.snoc X2 N g_a
  replace K := K.wr W2 (Or.inl (List.mem_of_getElem? (i := 0) rfl))
  show own_Run p e below _ (T2.setTop (mkF m 9 #[.val (.ref a), .val (.ref mb), .val (.ref db)] []))
  refine own_go (fun _ kS => XS.aloadN X2.here hx rfl (hb hby d1_9) rfl rfl kS) ?_
  show own_Run p e below _ (T2.setTop (mkF m 10 #[.val (.ref a), .val (.ref mb), .val (.ref db)] [(.ref a)]))
  refine own_go (fun _ kS => XS.aloadN X2.here hx rfl (hb hby d1_10) rfl rfl kS) ?_
  show own_Run p e below _ (T2.setTop (mkF m 11 #[.val (.ref a), .val (.ref mb), .val (.ref db)] [(.ref db), (.ref a)]))
  refine own_putF X2 hx hZ e2 hown (.array .byte) (hw _ (List.mem_of_getElem? (i := 12) rfl)) F_d E_a (Or.inr ⟨(hw _ (List.mem_of_getElem? (i := 13) rfl)), rfl, hnm⟩) (hw _ (List.mem_of_getElem? (i := 2) rfl)) (v' := (.ref db)) (by decide) rfl rfl rfl rfl (hb hby d1_11) (fun T3 h3 X3 e3 W3 => ?_)
  replace E_a := E_a.wr W3
  replace F_m := F_m.other W3 (Or.inr (slot_ne (Or.inr (hw _ (List.mem_of_getElem? (i := 11) rfl))) (Or.inr (hw _ (List.mem_of_getElem? (i := 13) rfl))) (by decide) (t := (.array .byte)) (t' := (.array .byte)) (by decide) (by decide)))
  replace F_d := F_d.same W3
  replace hz := Nat.le_trans hz (Nat.le_of_eq W3.size.symm)
  replace N := Fr.snoc X3 N g_a
  replace K := K.wr W3 (Or.inl (List.mem_of_getElem? (i := 0) rfl))
  show own_Run p e below _ (T3.setTop (mkF m 14 #[.val (.ref a), .val (.ref mb), .val (.ref db)] []))
  refine own_retV X3 hx hret hlk (hb hby d1_14) (by decide) (by decide) ?_
  rw [e3]
  exact ⟨rfl, N, K, E_a, F_m⟩
theorem d2_0 : decode prog_31_method_8_code 0 = .ok (.aload_n 0, 1) := by decide +kernel
theorem d2_1 : decode prog_31_method_8_code 1 = .ok (.getfield 7, 3) := by decide +kernel
theorem d2_4 : decode prog_31_method_8_code 4 = .ok (.ifnull 16, 3) := by decide +kernel
theorem d2_20 : decode prog_31_method_8_code 20 = .ok (.aconst_null, 1) := by decide +kernel
theorem d2_21 : decode prog_31_method_8_code 21 = .ok (.areturn, 1) := by decide +kernel
abbrev Q_metaN (Z : State) (a : Addr) (h0 : Heap) : Option Value → Heap → List Loc → Prop := fun v h L => v = some .null ∧ h0 = h ∧ L = []
set_option maxRecDepth 65536 in
set_option maxHeartbeats 40000000 in
theorem rm_metaN (l : Launch) (Z : State) (a0 : Array Value) (hw : ∀ d ∈ tables_1, d.before a0 Z = true) (a : Addr) (h0 : Heap) (F_m : Fld Z h0 a "com/example/credence/credence/Payload" "metadata" "[B" .null) :
    own_Met l Z (⟨"com/example/credence/credence/Payload", "metadata", "()[B"⟩ : MethodName) prog_31_method_8_code 1 (some (.array .byte)) ({ frames := 0, cells := 0, slots := 0, locals := 0 } : Room) #[(.ref a)] h0 (Q_metaN Z a h0) := by
  refine own_enter (g0 := fun m => (mkF m 0 #[.val (.ref a)] [])) (plainFor_of_name (by first | (simp [plainName, overriddenIn]; done) | decide +kernel)) (fun m => by first | (simp [entryFrame, mkF, argsToLocals, Value.category]; done) | rfl) ?_
  intro p e s m below meth c T hx hby hml hown hnm hZ hret hlk X e0
  replace hown : s.vm.findClass "com/example/credence/credence/Payload" = some m.cls := hown
  show own_Run p e below _ (T.setTop (mkF m 0 #[.val (.ref a)] []))
  refine own_go (fun _ kS => XS.aloadN X.here hx rfl (hb hby d2_0) rfl rfl kS) ?_
  show own_Run p e below _ (T.setTop (mkF m 1 #[.val (.ref a)] [(.ref a)]))
  refine own_getF X hx hZ e0 hown (hw _ (List.mem_of_getElem? (i := 10) rfl)) F_m rfl rfl (hb hby d2_1) (fun T1 X1 e1 => ?_)
  show own_Run p e below _ (T1.setTop (mkF m 4 #[.val (.ref a)] [.null]))
  refine own_go (fun _ kS => XS.ifnullYes X1.here hx rfl (pc0 := 4) (pc' := 20) rfl (hb hby d2_4) rfl (by decide) (by decide) kS) ?_
  show own_Run p e below _ (T1.setTop (mkF m 20 #[.val (.ref a)] []))
  refine own_go (fun _ kS => XS.aconstNull X1.here hx rfl (hb hby d2_20) kS) ?_
  show own_Run p e below _ (T1.setTop (mkF m 21 #[.val (.ref a)] [.null]))
  refine own_retA X1 hx hret hlk rfl rfl rfl (hb hby d2_21) (by decide) (by decide) ?_
  exact ⟨rfl, e1.symm, rfl⟩
theorem d3_0 : decode prog_31_method_8_code 0 = .ok (.aload_n 0, 1) := by decide +kernel
theorem d3_1 : decode prog_31_method_8_code 1 = .ok (.getfield 7, 3) := by decide +kernel
theorem d3_4 : decode prog_31_method_8_code 4 = .ok (.ifnull 16, 3) := by decide +kernel
theorem d3_7 : decode prog_31_method_8_code 7 = .ok (.aload_n 0, 1) := by decide +kernel
theorem d3_8 : decode prog_31_method_8_code 8 = .ok (.getfield 7, 3) := by decide +kernel
theorem d3_11 : decode prog_31_method_8_code 11 = .ok (.invokevirtual 16, 3) := by decide +kernel
theorem d3_14 : decode prog_31_method_8_code 14 = .ok (.checkcast 17, 3) := by decide +kernel
theorem d3_17 : decode prog_31_method_8_code 17 = .ok (.goto 4, 3) := by decide +kernel
theorem d3_21 : decode prog_31_method_8_code 21 = .ok (.areturn, 1) := by decide +kernel
abbrev Q_metaR (Z : State) (a : Addr) (mb : Addr) (n : Nat) (f : Nat → Value) (n0 : Nat) (h0 : Heap) : Option Value → Heap → List Loc → Prop := fun v h L => ∃ b : Addr, v = some (.ref b) ∧ Fr n0 L ∧ h0.size ≤ b ∧ Keep h0 h [] ∧ own_Arr Z h b .byte n f
set_option maxRecDepth 65536 in
set_option maxHeartbeats 40000000 in
theorem rm_metaR (l : Launch) (Z : State) (a0 : Array Value) (hw : ∀ d ∈ tables_1, d.before a0 Z = true) (a : Addr) (mb : Addr) (n : Nat) (f : Nat → Value) (n0 : Nat) (h0 : Heap) (Z0 : n0 ≤ h0.size) (F_m : Fld Z h0 a "com/example/credence/credence/Payload" "metadata" "[B" (.ref mb)) (A_m : own_Arr Z h0 mb .byte n f) (E_m : Exa Z h0 mb "[B") (hfit : ∀ i, i < n → fits .byte (f i) = true) (hn3 : n ≤ 3) :
    own_Met l Z (⟨"com/example/credence/credence/Payload", "metadata", "()[B"⟩ : MethodName) prog_31_method_8_code 1 (some (.array .byte)) ({ frames := 1, cells := 1, slots := 3, locals := 14 } : Room) #[(.ref a)] h0 (Q_metaR Z a mb n f n0 h0) := by
  refine own_enter (g0 := fun m => (mkF m 0 #[.val (.ref a)] [])) (plainFor_of_name (by first | (simp [plainName, overriddenIn]; done) | decide +kernel)) (fun m => by first | (simp [entryFrame, mkF, argsToLocals, Value.category]; done) | rfl) ?_
  intro p e s m below meth c T hx hby hml hown hnm hZ hret hlk X e0
  replace hown : s.vm.findClass "com/example/credence/credence/Payload" = some m.cls := hown
  have N := Fr.nil n0
  have hz := Z0
  have K := Keep.refl h0 []
  show own_Run p e below _ (T.setTop (mkF m 0 #[.val (.ref a)] []))
  refine own_go (fun _ kS => XS.aloadN X.here hx rfl (hb hby d3_0) rfl rfl kS) ?_
  show own_Run p e below _ (T.setTop (mkF m 1 #[.val (.ref a)] [(.ref a)]))
  refine own_getF X hx hZ e0 hown (hw _ (List.mem_of_getElem? (i := 10) rfl)) F_m rfl rfl (hb hby d3_1) (fun T1 X1 e1 => ?_)
  show own_Run p e below _ (T1.setTop (mkF m 4 #[.val (.ref a)] [(.ref mb)]))
  refine own_go (fun _ kS => XS.ifnullNo X1.here hx rfl (hb hby d3_4) rfl kS) ?_
  show own_Run p e below _ (T1.setTop (mkF m 7 #[.val (.ref a)] []))
  refine own_go (fun _ kS => XS.aloadN X1.here hx rfl (hb hby d3_7) rfl rfl kS) ?_
  show own_Run p e below _ (T1.setTop (mkF m 8 #[.val (.ref a)] [(.ref a)]))
  refine own_getF X1 hx hZ e1 hown (hw _ (List.mem_of_getElem? (i := 10) rfl)) F_m rfl rfl (hb hby d3_8) (fun T2 X2 e2 => ?_)
  show own_Run p e below _ (T2.setTop (mkF m 11 #[.val (.ref a)] [(.ref mb)]))
  refine own_clone X2 hx hZ e2 hown (hw _ (List.mem_of_getElem? (i := 19) rfl)) (hw _ (List.mem_of_getElem? (i := 20) rfl)) (hw _ (List.mem_of_getElem? (i := 24) rfl)) (hw _ (List.mem_of_getElem? (i := 22) rfl)) (hw _ (List.mem_of_getElem? (i := 23) rfl)) (hw _ (List.mem_of_getElem? (i := 25) rfl)) A_m E_m hfit rfl (by rw [hml]; rfl) rfl (hb hby d3_11) (by decide) 0 3 (by show 2 * 0 + _ ≤ _; exact Nat.le_of_eq rfl) (by decide) (by omega) (by decide) (by decide) (fun b3 T3 h3 gb3 X3 e3 E3 A3 G3 => ?_)
  have ne_a_b3 : a ≠ b3 := Nat.ne_of_lt (Nat.lt_of_lt_of_le F_m.lt (Nat.le_of_eq gb3.symm))
  have ne_mb_b3 : mb ≠ b3 := Nat.ne_of_lt (Nat.lt_of_lt_of_le A_m.lt (Nat.le_of_eq gb3.symm))
  have g_b3 : n0 ≤ b3 := Nat.le_trans hz (Nat.le_of_eq gb3.symm)
  have z_b3 : h0.size ≤ b3 := Nat.le_trans K.1 (Nat.le_of_eq gb3.symm)
  replace F_m := F_m.ext E3
  replace A_m := A_m.ext E3
  replace E_m := E_m.ext E3
  replace hz := Nat.le_trans hz E3.1
  replace K := K.ext E3
  show own_Run p e below _ (T3.setTop (mkF m 14 #[.val (.ref a)] [(.ref b3)]))
  refine own_cast X3 hx hZ e3 hown (hw _ (List.mem_of_getElem? (i := 26) rfl)) G3 (hw _ (List.mem_of_getElem? (i := 27) rfl)) rfl rfl (hb hby d3_14) (fun T4 X4 e4 => ?_)
  show own_Run p e below _ (T4.setTop (mkF m 17 #[.val (.ref a)] [(.ref b3)]))
  refine own_go (fun _ kS => XS.goto X4.here hx rfl (pc0 := 17) (pc' := 21) rfl (hb hby d3_17) (by decide) (by decide) kS) ?_
  show own_Run p e below _ (T4.setTop (mkF m 21 #[.val (.ref a)] [(.ref b3)]))
  refine own_retA X4 hx hret hlk rfl rfl rfl (hb hby d3_21) (by decide) (by decide) ?_
  rw [e4]
  exact ⟨_, rfl, N, z_b3, K, A3⟩
theorem d4_0 : decode method_2_code 0 = .ok (.aload_n 0, 1) := by decide +kernel
theorem d4_1 : decode method_2_code 1 = .ok (.ifnull 9, 3) := by decide +kernel
theorem d4_4 : decode method_2_code 4 = .ok (.aload_n 0, 1) := by decide +kernel
theorem d4_5 : decode method_2_code 5 = .ok (.arraylength, 1) := by decide +kernel
theorem d4_6 : decode method_2_code 6 = .ok (.iload_n 1, 1) := by decide +kernel
theorem d4_7 : decode method_2_code 7 = .ok (.if_icmp .eq 5, 3) := by decide +kernel
theorem d4_12 : decode method_2_code 12 = .ok (.iload_n 1, 1) := by decide +kernel
theorem d4_13 : decode method_2_code 13 = .ok (.ifCond .le 13, 3) := by decide +kernel
theorem d4_16 : decode method_2_code 16 = .ok (.aload_n 0, 1) := by decide +kernel
theorem d4_17 : decode method_2_code 17 = .ok (.iconst 0, 1) := by decide +kernel
theorem d4_18 : decode method_2_code 18 = .ok (.baload, 1) := by decide +kernel
theorem d4_19 : decode method_2_code 19 = .ok (.iload_n 2, 1) := by decide +kernel
theorem d4_20 : decode method_2_code 20 = .ok (.i2b, 1) := by decide +kernel
theorem d4_21 : decode method_2_code 21 = .ok (.if_icmp .eq 5, 3) := by decide +kernel
theorem d4_26 : decode method_2_code 26 = .ok (.iload_n 1, 1) := by decide +kernel
theorem d4_27 : decode method_2_code 27 = .ok (.iconst 1, 1) := by decide +kernel
theorem d4_28 : decode method_2_code 28 = .ok (.if_icmp .le 13, 3) := by decide +kernel
theorem d4_31 : decode method_2_code 31 = .ok (.aload_n 0, 1) := by decide +kernel
theorem d4_32 : decode method_2_code 32 = .ok (.iconst 1, 1) := by decide +kernel
theorem d4_33 : decode method_2_code 33 = .ok (.baload, 1) := by decide +kernel
theorem d4_34 : decode method_2_code 34 = .ok (.iload_n 3, 1) := by decide +kernel
theorem d4_35 : decode method_2_code 35 = .ok (.i2b, 1) := by decide +kernel
theorem d4_36 : decode method_2_code 36 = .ok (.if_icmp .eq 5, 3) := by decide +kernel
theorem d4_41 : decode method_2_code 41 = .ok (.iload_n 1, 1) := by decide +kernel
theorem d4_42 : decode method_2_code 42 = .ok (.iconst 2, 1) := by decide +kernel
theorem d4_43 : decode method_2_code 43 = .ok (.if_icmp .le 14, 3) := by decide +kernel
theorem d4_46 : decode method_2_code 46 = .ok (.aload_n 0, 1) := by decide +kernel
theorem d4_47 : decode method_2_code 47 = .ok (.iconst 2, 1) := by decide +kernel
theorem d4_48 : decode method_2_code 48 = .ok (.baload, 1) := by decide +kernel
theorem d4_49 : decode method_2_code 49 = .ok (.iload 4, 2) := by decide +kernel
theorem d4_51 : decode method_2_code 51 = .ok (.i2b, 1) := by decide +kernel
theorem d4_52 : decode method_2_code 52 = .ok (.if_icmp .eq 5, 3) := by decide +kernel
theorem d4_57 : decode method_2_code 57 = .ok (.iconst 1, 1) := by decide +kernel
theorem d4_58 : decode method_2_code 58 = .ok (.ireturn, 1) := by decide +kernel
abbrev Q_same (Z : State) (a : Addr) (u : Int32) (u0 : Int32) (u1 : Int32) (u2 : Int32) (n : Nat) (f : Nat → Value) (h0 : Heap) : Option Value → Heap → List Loc → Prop := fun v h L => v = some (.int 1) ∧ h0 = h ∧ L = []
set_option maxRecDepth 65536 in
set_option maxHeartbeats 40000000 in
theorem rm_same (l : Launch) (Z : State) (a0 : Array Value) (hw : ∀ d ∈ tables_1, d.before a0 Z = true) (a : Addr) (u : Int32) (u0 : Int32) (u1 : Int32) (u2 : Int32) (n : Nat) (f : Nat → Value) (h0 : Heap) (A_a : own_Arr Z h0 a .byte n f) (hn : u.toInt = n) (hf0 : 0 < n → f 0 = .int u0.toInt8.toInt32) (hf1 : 1 < n → f 1 = .int u1.toInt8.toInt32) (hf2 : 2 < n → f 2 = .int u2.toInt8.toInt32) :
    own_Met l Z (⟨"com/example/credence/credence/PayloadMetadataPinLaw", "same", "([BIIII)Z"⟩ : MethodName) method_2_code 5 (some .boolean) ({ frames := 0, cells := 0, slots := 0, locals := 0 } : Room) #[(.ref a), (.int u), (.int u0), (.int u1), (.int u2)] h0 (Q_same Z a u u0 u1 u2 n f h0) := by
  refine own_enter (g0 := fun m => (mkF m 0 #[.val (.ref a), .val (.int u), .val (.int u0), .val (.int u1), .val (.int u2)] [])) (plainFor_of_name (by first | (simp [plainName, overriddenIn]; done) | decide +kernel)) (fun m => by first | (simp [entryFrame, mkF, argsToLocals, Value.category]; done) | rfl) ?_
  intro p e s m below meth c T hx hby hml hown hnm hZ hret hlk X e0
  replace hown : s.vm.findClass "com/example/credence/credence/PayloadMetadataPinLaw" = some m.cls := hown
  have z0 : (0 : Int32).toInt = 0 := rfl
  have z1 : (1 : Int32).toInt = 1 := rfl
  have z2 : (2 : Int32).toInt = 2 := rfl
  show own_Run p e below _ (T.setTop (mkF m 0 #[.val (.ref a), .val (.int u), .val (.int u0), .val (.int u1), .val (.int u2)] []))
  refine own_go (fun _ kS => XS.aloadN X.here hx rfl (hb hby d4_0) rfl rfl kS) ?_
  show own_Run p e below _ (T.setTop (mkF m 1 #[.val (.ref a), .val (.int u), .val (.int u0), .val (.int u1), .val (.int u2)] [(.ref a)]))
  refine own_go (fun _ kS => XS.ifnullNo X.here hx rfl (hb hby d4_1) rfl kS) ?_
  show own_Run p e below _ (T.setTop (mkF m 4 #[.val (.ref a), .val (.int u), .val (.int u0), .val (.int u1), .val (.int u2)] []))
  refine own_go (fun _ kS => XS.aloadN X.here hx rfl (hb hby d4_4) rfl rfl kS) ?_
  show own_Run p e below _ (T.setTop (mkF m 5 #[.val (.ref a), .val (.int u), .val (.int u0), .val (.int u1), .val (.int u2)] [(.ref a)]))
  refine own_alen X hx hZ e0 A_a u hn rfl rfl (hb hby d4_5) ?_
  show own_Run p e below _ (T.setTop (mkF m 6 #[.val (.ref a), .val (.int u), .val (.int u0), .val (.int u1), .val (.int u2)] [(.int u)]))
  refine own_go (fun _ kS => XS.iloadN X.here hx rfl (hb hby d4_6) rfl kS) ?_
  show own_Run p e below _ (T.setTop (mkF m 7 #[.val (.ref a), .val (.int u), .val (.int u0), .val (.int u1), .val (.int u2)] [(.int u), (.int u)]))
  refine own_go (fun _ kS => XS.icmpYes X.here hx rfl (pc0 := 7) (pc' := 12) rfl (hb hby d4_7) rfl (teq (show u = u from (rfl))).1 (by decide) (by decide) kS) ?_
  show own_Run p e below _ (T.setTop (mkF m 12 #[.val (.ref a), .val (.int u), .val (.int u0), .val (.int u1), .val (.int u2)] []))
  refine own_go (fun _ kS => XS.iloadN X.here hx rfl (hb hby d4_12) rfl kS) ?_
  show own_Run p e below _ (T.setTop (mkF m 13 #[.val (.ref a), .val (.int u), .val (.int u0), .val (.int u1), .val (.int u2)] [(.int u)]))
  have J26 : own_Run p e below (own_End s ({ frames := 0, cells := 0, slots := 0, locals := 0 } : Room) (Q_same Z a u u0 u1 u2 n f h0)) (T.setTop (mkF m 26 #[.val (.ref a), .val (.int u), .val (.int u0), .val (.int u1), .val (.int u2)] [])) := by
    show own_Run p e below _ (T.setTop (mkF m 26 #[.val (.ref a), .val (.int u), .val (.int u0), .val (.int u1), .val (.int u2)] []))
    refine own_go (fun _ kS => XS.iloadN X.here hx rfl (hb hby d4_26) rfl kS) ?_
    show own_Run p e below _ (T.setTop (mkF m 27 #[.val (.ref a), .val (.int u), .val (.int u0), .val (.int u1), .val (.int u2)] [(.int u)]))
    refine own_go (fun _ kS => XS.iconst X.here hx rfl (hb hby d4_27) kS) ?_
    show own_Run p e below _ (T.setTop (mkF m 28 #[.val (.ref a), .val (.int u), .val (.int u0), .val (.int u1), .val (.int u2)] [(.int (1 : Int32)), (.int u)]))
    have J41 : own_Run p e below (own_End s ({ frames := 0, cells := 0, slots := 0, locals := 0 } : Room) (Q_same Z a u u0 u1 u2 n f h0)) (T.setTop (mkF m 41 #[.val (.ref a), .val (.int u), .val (.int u0), .val (.int u1), .val (.int u2)] [])) := by
      show own_Run p e below _ (T.setTop (mkF m 41 #[.val (.ref a), .val (.int u), .val (.int u0), .val (.int u1), .val (.int u2)] []))
      refine own_go (fun _ kS => XS.iloadN X.here hx rfl (hb hby d4_41) rfl kS) ?_
      show own_Run p e below _ (T.setTop (mkF m 42 #[.val (.ref a), .val (.int u), .val (.int u0), .val (.int u1), .val (.int u2)] [(.int u)]))
      refine own_go (fun _ kS => XS.iconst X.here hx rfl (hb hby d4_42) kS) ?_
      show own_Run p e below _ (T.setTop (mkF m 43 #[.val (.ref a), .val (.int u), .val (.int u0), .val (.int u1), .val (.int u2)] [(.int (2 : Int32)), (.int u)]))
      have J57 : own_Run p e below (own_End s ({ frames := 0, cells := 0, slots := 0, locals := 0 } : Room) (Q_same Z a u u0 u1 u2 n f h0)) (T.setTop (mkF m 57 #[.val (.ref a), .val (.int u), .val (.int u0), .val (.int u1), .val (.int u2)] [])) := by
        show own_Run p e below _ (T.setTop (mkF m 57 #[.val (.ref a), .val (.int u), .val (.int u0), .val (.int u1), .val (.int u2)] []))
        refine own_go (fun _ kS => XS.iconst X.here hx rfl (hb hby d4_57) kS) ?_
        show own_Run p e below _ (T.setTop (mkF m 58 #[.val (.ref a), .val (.int u), .val (.int u0), .val (.int u1), .val (.int u2)] [(.int (1 : Int32))]))
        refine own_retN X hx (t := .boolean) hret hlk (by simp) (hb hby d4_58) (by decide) (by decide) ?_
        exact ⟨rfl, e0.symm, rfl⟩
      by_cases hc43 : (2 : Int32) < u
      · refine own_go (fun _ kS => XS.icmpNo X.here hx rfl (hb hby d4_43) rfl (tlt hc43).2.2.2 kS) ?_
        show own_Run p e below _ (T.setTop (mkF m 46 #[.val (.ref a), .val (.int u), .val (.int u0), .val (.int u1), .val (.int u2)] []))
        have k2 : 2 < n := by have w := hc43; rw [Int32.lt_iff_toInt_lt] at w; omega
        refine own_go (fun _ kS => XS.aloadN X.here hx rfl (hb hby d4_46) rfl rfl kS) ?_
        show own_Run p e below _ (T.setTop (mkF m 47 #[.val (.ref a), .val (.int u), .val (.int u0), .val (.int u1), .val (.int u2)] [(.ref a)]))
        refine own_go (fun _ kS => XS.iconst X.here hx rfl (hb hby d4_47) kS) ?_
        show own_Run p e below _ (T.setTop (mkF m 48 #[.val (.ref a), .val (.int u), .val (.int u0), .val (.int u1), .val (.int u2)] [(.int (2 : Int32)), (.ref a)]))
        refine own_baload X hx hZ e0 A_a (j := (2 : Int32)) u2.toInt8.toInt32 ⟨by decide, by omega⟩ (hf2 k2) rfl rfl (hb hby d4_48) ?_
        show own_Run p e below _ (T.setTop (mkF m 49 #[.val (.ref a), .val (.int u), .val (.int u0), .val (.int u1), .val (.int u2)] [(.int u2.toInt8.toInt32)]))
        refine own_go (fun _ kS => XS.iload X.here hx rfl (hb hby d4_49) rfl kS) ?_
        show own_Run p e below _ (T.setTop (mkF m 51 #[.val (.ref a), .val (.int u), .val (.int u0), .val (.int u1), .val (.int u2)] [(.int u2), (.int u2.toInt8.toInt32)]))
        refine own_go (fun _ kS => XS.i2b X.here hx rfl (hb hby d4_51) rfl kS) ?_
        show own_Run p e below _ (T.setTop (mkF m 52 #[.val (.ref a), .val (.int u), .val (.int u0), .val (.int u1), .val (.int u2)] [(.int u2.toInt8.toInt32), (.int u2.toInt8.toInt32)]))
        refine own_go (fun _ kS => XS.icmpYes X.here hx rfl (pc0 := 52) (pc' := 57) rfl (hb hby d4_52) rfl (teq (show u2.toInt8.toInt32 = u2.toInt8.toInt32 from (rfl))).1 (by decide) (by decide) kS) ?_
        show own_Run p e below _ (T.setTop (mkF m 57 #[.val (.ref a), .val (.int u), .val (.int u0), .val (.int u1), .val (.int u2)] []))
        exact J57
      · refine own_go (fun _ kS => XS.icmpYes X.here hx rfl (pc0 := 43) (pc' := 57) rfl (hb hby d4_43) rfl (flt hc43).2.2.2 (by decide) (by decide) kS) ?_
        show own_Run p e below _ (T.setTop (mkF m 57 #[.val (.ref a), .val (.int u), .val (.int u0), .val (.int u1), .val (.int u2)] []))
        exact J57
    by_cases hc28 : (1 : Int32) < u
    · refine own_go (fun _ kS => XS.icmpNo X.here hx rfl (hb hby d4_28) rfl (tlt hc28).2.2.2 kS) ?_
      show own_Run p e below _ (T.setTop (mkF m 31 #[.val (.ref a), .val (.int u), .val (.int u0), .val (.int u1), .val (.int u2)] []))
      have k1 : 1 < n := by have w := hc28; rw [Int32.lt_iff_toInt_lt] at w; omega
      refine own_go (fun _ kS => XS.aloadN X.here hx rfl (hb hby d4_31) rfl rfl kS) ?_
      show own_Run p e below _ (T.setTop (mkF m 32 #[.val (.ref a), .val (.int u), .val (.int u0), .val (.int u1), .val (.int u2)] [(.ref a)]))
      refine own_go (fun _ kS => XS.iconst X.here hx rfl (hb hby d4_32) kS) ?_
      show own_Run p e below _ (T.setTop (mkF m 33 #[.val (.ref a), .val (.int u), .val (.int u0), .val (.int u1), .val (.int u2)] [(.int (1 : Int32)), (.ref a)]))
      refine own_baload X hx hZ e0 A_a (j := (1 : Int32)) u1.toInt8.toInt32 ⟨by decide, by omega⟩ (hf1 k1) rfl rfl (hb hby d4_33) ?_
      show own_Run p e below _ (T.setTop (mkF m 34 #[.val (.ref a), .val (.int u), .val (.int u0), .val (.int u1), .val (.int u2)] [(.int u1.toInt8.toInt32)]))
      refine own_go (fun _ kS => XS.iloadN X.here hx rfl (hb hby d4_34) rfl kS) ?_
      show own_Run p e below _ (T.setTop (mkF m 35 #[.val (.ref a), .val (.int u), .val (.int u0), .val (.int u1), .val (.int u2)] [(.int u1), (.int u1.toInt8.toInt32)]))
      refine own_go (fun _ kS => XS.i2b X.here hx rfl (hb hby d4_35) rfl kS) ?_
      show own_Run p e below _ (T.setTop (mkF m 36 #[.val (.ref a), .val (.int u), .val (.int u0), .val (.int u1), .val (.int u2)] [(.int u1.toInt8.toInt32), (.int u1.toInt8.toInt32)]))
      refine own_go (fun _ kS => XS.icmpYes X.here hx rfl (pc0 := 36) (pc' := 41) rfl (hb hby d4_36) rfl (teq (show u1.toInt8.toInt32 = u1.toInt8.toInt32 from (rfl))).1 (by decide) (by decide) kS) ?_
      show own_Run p e below _ (T.setTop (mkF m 41 #[.val (.ref a), .val (.int u), .val (.int u0), .val (.int u1), .val (.int u2)] []))
      exact J41
    · refine own_go (fun _ kS => XS.icmpYes X.here hx rfl (pc0 := 28) (pc' := 41) rfl (hb hby d4_28) rfl (flt hc28).2.2.2 (by decide) (by decide) kS) ?_
      show own_Run p e below _ (T.setTop (mkF m 41 #[.val (.ref a), .val (.int u), .val (.int u0), .val (.int u1), .val (.int u2)] []))
      exact J41
  by_cases hc13 : (0 : Int32) < u
  · refine own_go (fun _ kS => XS.ifNo X.here hx rfl (hb hby d4_13) rfl ((if0 _ _).trans (tlt hc13).2.2.2) kS) ?_
    show own_Run p e below _ (T.setTop (mkF m 16 #[.val (.ref a), .val (.int u), .val (.int u0), .val (.int u1), .val (.int u2)] []))
    have k0 : 0 < n := by have w := hc13; rw [Int32.lt_iff_toInt_lt] at w; omega
    refine own_go (fun _ kS => XS.aloadN X.here hx rfl (hb hby d4_16) rfl rfl kS) ?_
    show own_Run p e below _ (T.setTop (mkF m 17 #[.val (.ref a), .val (.int u), .val (.int u0), .val (.int u1), .val (.int u2)] [(.ref a)]))
    refine own_go (fun _ kS => XS.iconst X.here hx rfl (hb hby d4_17) kS) ?_
    show own_Run p e below _ (T.setTop (mkF m 18 #[.val (.ref a), .val (.int u), .val (.int u0), .val (.int u1), .val (.int u2)] [(.int (0 : Int32)), (.ref a)]))
    refine own_baload X hx hZ e0 A_a (j := (0 : Int32)) u0.toInt8.toInt32 ⟨by decide, by omega⟩ (hf0 k0) rfl rfl (hb hby d4_18) ?_
    show own_Run p e below _ (T.setTop (mkF m 19 #[.val (.ref a), .val (.int u), .val (.int u0), .val (.int u1), .val (.int u2)] [(.int u0.toInt8.toInt32)]))
    refine own_go (fun _ kS => XS.iloadN X.here hx rfl (hb hby d4_19) rfl kS) ?_
    show own_Run p e below _ (T.setTop (mkF m 20 #[.val (.ref a), .val (.int u), .val (.int u0), .val (.int u1), .val (.int u2)] [(.int u0), (.int u0.toInt8.toInt32)]))
    refine own_go (fun _ kS => XS.i2b X.here hx rfl (hb hby d4_20) rfl kS) ?_
    show own_Run p e below _ (T.setTop (mkF m 21 #[.val (.ref a), .val (.int u), .val (.int u0), .val (.int u1), .val (.int u2)] [(.int u0.toInt8.toInt32), (.int u0.toInt8.toInt32)]))
    refine own_go (fun _ kS => XS.icmpYes X.here hx rfl (pc0 := 21) (pc' := 26) rfl (hb hby d4_21) rfl (teq (show u0.toInt8.toInt32 = u0.toInt8.toInt32 from (rfl))).1 (by decide) (by decide) kS) ?_
    show own_Run p e below _ (T.setTop (mkF m 26 #[.val (.ref a), .val (.int u), .val (.int u0), .val (.int u1), .val (.int u2)] []))
    exact J26
  · refine own_go (fun _ kS => XS.ifYes X.here hx rfl (pc0 := 13) (pc' := 26) rfl (hb hby d4_13) rfl ((if0 _ _).trans (flt hc13).2.2.2) (by decide) (by decide) kS) ?_
    show own_Run p e below _ (T.setTop (mkF m 26 #[.val (.ref a), .val (.int u), .val (.int u0), .val (.int u1), .val (.int u2)] []))
    exact J26
theorem own_pd0 : parseMethodDescriptor "([B[B)V" = some ⟨[(.array .byte), (.array .byte)], none⟩ := by decide +kernel
theorem own_pd1 : parseMethodDescriptor "()[B" = some ⟨[], some (.array .byte)⟩ := by decide +kernel
theorem own_pd2 : parseMethodDescriptor "([BIIII)Z" = some ⟨[(.array .byte), .int, .int, .int, .int], some .boolean⟩ := by decide +kernel
abbrev Q_law (Z : State) (p1 : Int32) (p2 : Int32) (p3 : Int32) (p4 : Int32) (p5 : Int32) (n0 : Nat) (h0 : Heap) : Option Value → Heap → List Loc → Prop := fun v h L => v = some (.int 1) ∧ Fr n0 L
set_option maxRecDepth 65536 in
set_option maxHeartbeats 40000000 in
theorem rm_law (l : Launch) (Z : State) (a0 : Array Value) (hw : ∀ d ∈ tables_1, d.before a0 Z = true) (p1 : Int32) (p2 : Int32) (p3 : Int32) (p4 : Int32) (p5 : Int32) (n0 : Nat) (h0 : Heap) (Z0 : n0 ≤ h0.size)  :
    own_Met l Z x code maxLocals ret room_1 #[(.int p1), (.int p2), (.int p3), (.int p4), (.int p5)] h0 (Q_law Z p1 p2 p3 p4 p5 n0 h0) := by
  refine own_enter (g0 := fun m => (mkF m 0 #[.val (.int p1), .val (.int p2), .val (.int p3), .val (.int p4), .val (.int p5), .unset, .unset, .unset, .unset, .unset, .unset, .unset] [])) (plainFor_of_name (by first | (simp [plainName, overriddenIn]; done) | decide +kernel)) (fun m => by first | (simp [entryFrame, mkF, argsToLocals, Value.category, maxLocals]; done) | rfl) ?_
  intro p e s m below meth c T hx hby hml hown hnm hZ hret hlk X e0
  have hml : c.maxLocals = 12 := hml
  replace hown : s.vm.findClass "com/example/credence/credence/PayloadMetadataPinLaw" = some m.cls := hown
  have N := Fr.nil n0
  have hz := Z0
  show own_Run p e below _ (T.setTop (mkF m 0 #[.val (.int p1), .val (.int p2), .val (.int p3), .val (.int p4), .val (.int p5), .unset, .unset, .unset, .unset, .unset, .unset, .unset] []))
  refine own_go (fun _ kS => XS.iloadN X.here hx rfl (hb hby at_0) rfl kS) ?_
  show own_Run p e below _ (T.setTop (mkF m 1 #[.val (.int p1), .val (.int p2), .val (.int p3), .val (.int p4), .val (.int p5), .unset, .unset, .unset, .unset, .unset, .unset, .unset] [(.int p1)]))
  refine own_go (fun _ kS => XS.iconst X.here hx rfl (hb hby at_1) kS) ?_
  show own_Run p e below _ (T.setTop (mkF m 2 #[.val (.int p1), .val (.int p2), .val (.int p3), .val (.int p4), .val (.int p5), .unset, .unset, .unset, .unset, .unset, .unset, .unset] [(.int (1 : Int32)), (.int p1)]))
  refine own_go (fun _ kS => XS.iand X.here hx rfl (hb hby at_2) rfl kS) ?_
  show own_Run p e below _ (T.setTop (mkF m 3 #[.val (.int p1), .val (.int p2), .val (.int p3), .val (.int p4), .val (.int p5), .unset, .unset, .unset, .unset, .unset, .unset, .unset] [(.int (p1 &&& (1 : Int32)))]))
  have J13 : ∀ ab : Int32, ab = 0 ∨ ab = 1 → own_Run p e below (own_End s room_1 (Q_law Z p1 p2 p3 p4 p5 n0 h0)) (T.setTop (mkF m 13 #[.val (.int p1), .val (.int p2), .val (.int p3), .val (.int p4), .val (.int p5), .val (.int ab), .unset, .unset, .unset, .unset, .unset, .unset] [])) := by
    intro ab hab
    show own_Run p e below _ (T.setTop (mkF m 13 #[.val (.int p1), .val (.int p2), .val (.int p3), .val (.int p4), .val (.int p5), .val (.int ab), .unset, .unset, .unset, .unset, .unset, .unset] []))
    refine own_go (fun _ kS => XS.iloadN X.here hx rfl (hb hby at_13) rfl kS) ?_
    show own_Run p e below _ (T.setTop (mkF m 14 #[.val (.int p1), .val (.int p2), .val (.int p3), .val (.int p4), .val (.int p5), .val (.int ab), .unset, .unset, .unset, .unset, .unset, .unset] [(.int p1)]))
    refine own_go (fun _ kS => XS.iconst X.here hx rfl (hb hby at_14) kS) ?_
    show own_Run p e below _ (T.setTop (mkF m 15 #[.val (.int p1), .val (.int p2), .val (.int p3), .val (.int p4), .val (.int p5), .val (.int ab), .unset, .unset, .unset, .unset, .unset, .unset] [(.int (1 : Int32)), (.int p1)]))
    refine own_go (fun _ kS => XS.iushr X.here hx rfl (hb hby at_15) rfl kS) ?_
    show own_Run p e below _ (T.setTop (mkF m 16 #[.val (.int p1), .val (.int p2), .val (.int p3), .val (.int p4), .val (.int p5), .val (.int ab), .unset, .unset, .unset, .unset, .unset, .unset] [(.int ((p1.toUInt32 >>> ((1 : Int32) &&& 31).toUInt32).toInt32))]))
    refine own_go (fun _ kS => XS.iconst X.here hx rfl (hb hby at_16) kS) ?_
    show own_Run p e below _ (T.setTop (mkF m 17 #[.val (.int p1), .val (.int p2), .val (.int p3), .val (.int p4), .val (.int p5), .val (.int ab), .unset, .unset, .unset, .unset, .unset, .unset] [(.int (3 : Int32)), (.int ((p1.toUInt32 >>> ((1 : Int32) &&& 31).toUInt32).toInt32))]))
    refine own_go (fun _ kS => XS.iand X.here hx rfl (hb hby at_17) rfl kS) ?_
    show own_Run p e below _ (T.setTop (mkF m 18 #[.val (.int p1), .val (.int p2), .val (.int p3), .val (.int p4), .val (.int p5), .val (.int ab), .unset, .unset, .unset, .unset, .unset, .unset] [(.int (((p1.toUInt32 >>> ((1 : Int32) &&& 31).toUInt32).toInt32) &&& (3 : Int32)))]))
    refine own_go (fun _ kS => XS.istore X.here hx rfl (hb hby at_18) rfl (l' := #[.val (.int p1), .val (.int p2), .val (.int p3), .val (.int p4), .val (.int p5), .val (.int ab), .val (.int (((p1.toUInt32 >>> ((1 : Int32) &&& 31).toUInt32).toInt32) &&& (3 : Int32))), .unset, .unset, .unset, .unset, .unset]) rfl kS) ?_
    show own_Run p e below _ (T.setTop (mkF m 20 #[.val (.int p1), .val (.int p2), .val (.int p3), .val (.int p4), .val (.int p5), .val (.int ab), .val (.int (((p1.toUInt32 >>> ((1 : Int32) &&& 31).toUInt32).toInt32) &&& (3 : Int32))), .unset, .unset, .unset, .unset, .unset] []))
    generalize e_u : (((p1.toUInt32 >>> ((1 : Int32) &&& 31).toUInt32).toInt32) &&& (3 : Int32)) = u
    have r_u := e_u ▸ c_and ((p1.toUInt32 >>> ((1 : Int32) &&& 31).toUInt32).toInt32) 3 (by decide)
    have z3 : (3 : Int32).toInt = 3 := rfl
    have z0 : (0 : Int32).toInt = 0 := rfl
    have z1 : (1 : Int32).toInt = 1 := rfl
    have z2 : (2 : Int32).toInt = 2 := rfl
    obtain ⟨n, hn⟩ : ∃ q : Nat, u.toInt = q := ⟨u.toInt.toNat, by omega⟩
    have hn3 : n ≤ 3 := by omega
    refine own_go (fun _ kS => XS.iload X.here hx rfl (hb hby at_20) rfl kS) ?_
    show own_Run p e below _ (T.setTop (mkF m 22 #[.val (.int p1), .val (.int p2), .val (.int p3), .val (.int p4), .val (.int p5), .val (.int ab), .val (.int u), .unset, .unset, .unset, .unset, .unset] [(.int u)]))
    refine own_newP X hx hZ e0 (hw _ (List.mem_of_getElem? (i := 0) rfl)) rfl (hb hby at_22) rfl n 3 hn (by omega) (by decide) (by decide) (by decide) "[B" rfl (fun b1 T1 h1 gb1 X1 e1 E1 A1 G1 => ?_)
    have g_b1 : n0 ≤ b1 := Nat.le_trans hz (Nat.le_of_eq gb1.symm)
    replace hz := Nat.le_trans hz E1.1
    replace A1 : own_Arr Z h1 b1 .byte n (fun _ => (.int (0 : Int32))) := A1
    show own_Run p e below _ (T1.setTop (mkF m 24 #[.val (.int p1), .val (.int p2), .val (.int p3), .val (.int p4), .val (.int p5), .val (.int ab), .val (.int u), .unset, .unset, .unset, .unset, .unset] [(.ref b1)]))
    refine own_go (fun _ kS => XS.astore X1.here hx rfl (hb hby at_24) rfl rfl (l' := #[.val (.int p1), .val (.int p2), .val (.int p3), .val (.int p4), .val (.int p5), .val (.int ab), .val (.int u), .val (.ref b1), .unset, .unset, .unset, .unset]) rfl kS) ?_
    show own_Run p e below _ (T1.setTop (mkF m 26 #[.val (.int p1), .val (.int p2), .val (.int p3), .val (.int p4), .val (.int p5), .val (.int ab), .val (.int u), .val (.ref b1), .unset, .unset, .unset, .unset] []))
    replace A1 : own_Arr Z h1 b1 .byte n (own_ms 0 p2 p3 p4) := A1.congr (fun k _ => rfl)
    refine own_go (fun _ kS => XS.iload X1.here hx rfl (hb hby at_26) rfl kS) ?_
    show own_Run p e below _ (T1.setTop (mkF m 28 #[.val (.int p1), .val (.int p2), .val (.int p3), .val (.int p4), .val (.int p5), .val (.int ab), .val (.int u), .val (.ref b1), .unset, .unset, .unset, .unset] [(.int u)]))
    have J37 : ∀  (T_37 : State) (h_37 : Heap) (locs_37 : List Loc), Stand p l e room_1 s m #[(.int p1), (.int p2), (.int p3), (.int p4), (.int p5)] below meth c T_37 locs_37 1 3 → T_37.heap = h_37 → Fr n0 locs_37 → n0 ≤ h_37.size → own_Arr Z h_37 b1 .byte n (own_ms 1 p2 p3 p4) → Exa Z h_37 b1 "[B" → own_Run p e below (own_End s room_1 (Q_law Z p1 p2 p3 p4 p5 n0 h0)) (T_37.setTop (mkF m 37 #[.val (.int p1), .val (.int p2), .val (.int p3), .val (.int p4), .val (.int p5), .val (.int ab), .val (.int u), .val (.ref b1), .unset, .unset, .unset, .unset] [])) := by
      intro  T_37 h_37 locs_37 X_37 e_37 N hz A1 G1
      show own_Run p e below _ (T_37.setTop (mkF m 37 #[.val (.int p1), .val (.int p2), .val (.int p3), .val (.int p4), .val (.int p5), .val (.int ab), .val (.int u), .val (.ref b1), .unset, .unset, .unset, .unset] []))
      refine own_go (fun _ kS => XS.iload X_37.here hx rfl (hb hby at_37) rfl kS) ?_
      show own_Run p e below _ (T_37.setTop (mkF m 39 #[.val (.int p1), .val (.int p2), .val (.int p3), .val (.int p4), .val (.int p5), .val (.int ab), .val (.int u), .val (.ref b1), .unset, .unset, .unset, .unset] [(.int u)]))
      refine own_go (fun _ kS => XS.iconst X_37.here hx rfl (hb hby at_39) kS) ?_
      show own_Run p e below _ (T_37.setTop (mkF m 40 #[.val (.int p1), .val (.int p2), .val (.int p3), .val (.int p4), .val (.int p5), .val (.int ab), .val (.int u), .val (.ref b1), .unset, .unset, .unset, .unset] [(.int (1 : Int32)), (.int u)]))
      have J49 : ∀  (T_49 : State) (h_49 : Heap) (locs_49 : List Loc), Stand p l e room_1 s m #[(.int p1), (.int p2), (.int p3), (.int p4), (.int p5)] below meth c T_49 locs_49 1 3 → T_49.heap = h_49 → Fr n0 locs_49 → n0 ≤ h_49.size → own_Arr Z h_49 b1 .byte n (own_ms 2 p2 p3 p4) → Exa Z h_49 b1 "[B" → own_Run p e below (own_End s room_1 (Q_law Z p1 p2 p3 p4 p5 n0 h0)) (T_49.setTop (mkF m 49 #[.val (.int p1), .val (.int p2), .val (.int p3), .val (.int p4), .val (.int p5), .val (.int ab), .val (.int u), .val (.ref b1), .unset, .unset, .unset, .unset] [])) := by
        intro  T_49 h_49 locs_49 X_49 e_49 N hz A1 G1
        show own_Run p e below _ (T_49.setTop (mkF m 49 #[.val (.int p1), .val (.int p2), .val (.int p3), .val (.int p4), .val (.int p5), .val (.int ab), .val (.int u), .val (.ref b1), .unset, .unset, .unset, .unset] []))
        refine own_go (fun _ kS => XS.iload X_49.here hx rfl (hb hby at_49) rfl kS) ?_
        show own_Run p e below _ (T_49.setTop (mkF m 51 #[.val (.int p1), .val (.int p2), .val (.int p3), .val (.int p4), .val (.int p5), .val (.int ab), .val (.int u), .val (.ref b1), .unset, .unset, .unset, .unset] [(.int u)]))
        refine own_go (fun _ kS => XS.iconst X_49.here hx rfl (hb hby at_51) kS) ?_
        show own_Run p e below _ (T_49.setTop (mkF m 52 #[.val (.int p1), .val (.int p2), .val (.int p3), .val (.int p4), .val (.int p5), .val (.int ab), .val (.int u), .val (.ref b1), .unset, .unset, .unset, .unset] [(.int (2 : Int32)), (.int u)]))
        have J61 : ∀  (T_61 : State) (h_61 : Heap) (locs_61 : List Loc), Stand p l e room_1 s m #[(.int p1), (.int p2), (.int p3), (.int p4), (.int p5)] below meth c T_61 locs_61 1 3 → T_61.heap = h_61 → Fr n0 locs_61 → n0 ≤ h_61.size → own_Arr Z h_61 b1 .byte n (own_ms 3 p2 p3 p4) → Exa Z h_61 b1 "[B" → own_Run p e below (own_End s room_1 (Q_law Z p1 p2 p3 p4 p5 n0 h0)) (T_61.setTop (mkF m 61 #[.val (.int p1), .val (.int p2), .val (.int p3), .val (.int p4), .val (.int p5), .val (.int ab), .val (.int u), .val (.ref b1), .unset, .unset, .unset, .unset] [])) := by
          intro  T_61 h_61 locs_61 X_61 e_61 N hz A1 G1
          show own_Run p e below _ (T_61.setTop (mkF m 61 #[.val (.int p1), .val (.int p2), .val (.int p3), .val (.int p4), .val (.int p5), .val (.int ab), .val (.int u), .val (.ref b1), .unset, .unset, .unset, .unset] []))
          refine own_go (fun _ kS => XS.iconst X_61.here hx rfl (hb hby at_61) kS) ?_
          show own_Run p e below _ (T_61.setTop (mkF m 62 #[.val (.int p1), .val (.int p2), .val (.int p3), .val (.int p4), .val (.int p5), .val (.int ab), .val (.int u), .val (.ref b1), .unset, .unset, .unset, .unset] [(.int (1 : Int32))]))
          refine own_newP X_61 hx hZ e_61 (hw _ (List.mem_of_getElem? (i := 0) rfl)) rfl (hb hby at_62) rfl 1 1 rfl (by decide) (by decide) (by decide) (by decide) "[B" rfl (fun b2 T2 h2 gb2 X2 e2 E2 A2 G2 => ?_)
          have ne_b1_b2 : b1 ≠ b2 := Nat.ne_of_lt (Nat.lt_of_lt_of_le A1.lt (Nat.le_of_eq gb2.symm))
          have g_b2 : n0 ≤ b2 := Nat.le_trans hz (Nat.le_of_eq gb2.symm)
          replace A1 := A1.ext E2
          replace G1 := G1.ext E2
          replace hz := Nat.le_trans hz E2.1
          replace A2 : own_Arr Z h2 b2 .byte 1 (fun _ => (.int (0 : Int32))) := A2
          show own_Run p e below _ (T2.setTop (mkF m 64 #[.val (.int p1), .val (.int p2), .val (.int p3), .val (.int p4), .val (.int p5), .val (.int ab), .val (.int u), .val (.ref b1), .unset, .unset, .unset, .unset] [(.ref b2)]))
          refine own_go (fun _ kS => XS.dup X2.here hx rfl (hb hby at_64) rfl rfl kS) ?_
          show own_Run p e below _ (T2.setTop (mkF m 65 #[.val (.int p1), .val (.int p2), .val (.int p3), .val (.int p4), .val (.int p5), .val (.int ab), .val (.int u), .val (.ref b1), .unset, .unset, .unset, .unset] [(.ref b2), (.ref b2)]))
          refine own_go (fun _ kS => XS.iconst X2.here hx rfl (hb hby at_65) kS) ?_
          show own_Run p e below _ (T2.setTop (mkF m 66 #[.val (.int p1), .val (.int p2), .val (.int p3), .val (.int p4), .val (.int p5), .val (.int ab), .val (.int u), .val (.ref b1), .unset, .unset, .unset, .unset] [(.int (0 : Int32)), (.ref b2), (.ref b2)]))
          refine own_go (fun _ kS => XS.iload X2.here hx rfl (hb hby at_66) rfl kS) ?_
          show own_Run p e below _ (T2.setTop (mkF m 68 #[.val (.int p1), .val (.int p2), .val (.int p3), .val (.int p4), .val (.int p5), .val (.int ab), .val (.int u), .val (.ref b1), .unset, .unset, .unset, .unset] [(.int p5), (.int (0 : Int32)), (.ref b2), (.ref b2)]))
          refine own_go (fun _ kS => XS.i2b X2.here hx rfl (hb hby at_68) rfl kS) ?_
          show own_Run p e below _ (T2.setTop (mkF m 69 #[.val (.int p1), .val (.int p2), .val (.int p3), .val (.int p4), .val (.int p5), .val (.int ab), .val (.int u), .val (.ref b1), .unset, .unset, .unset, .unset] [(.int p5.toInt8.toInt32), (.int (0 : Int32)), (.ref b2), (.ref b2)]))
          refine own_bastore X2 hx hZ e2 A2 (j := (0 : Int32)) ⟨by decide, by decide⟩ rfl rfl (hb hby at_69) (fun T3 h3 X3 e3 W3 A3 => ?_)
          replace A1 := A1.other W3 ne_b1_b2
          replace G1 := G1.wr W3
          replace G2 := G2.wr W3
          replace hz := Nat.le_trans hz (Nat.le_of_eq W3.size.symm)
          replace N := Fr.snoc X3 N g_b2
          replace A3 : own_Arr Z h3 b2 .byte 1 (fun i => if i = 0 then (.int (nar .byte p5.toInt8.toInt32)) else (fun _ => (.int (0 : Int32))) i) := A3
          show own_Run p e below _ (T3.setTop (mkF m 70 #[.val (.int p1), .val (.int p2), .val (.int p3), .val (.int p4), .val (.int p5), .val (.int ab), .val (.int u), .val (.ref b1), .unset, .unset, .unset, .unset] [(.ref b2)]))
          refine own_go (fun _ kS => XS.astore X3.here hx rfl (hb hby at_70) rfl rfl (l' := #[.val (.int p1), .val (.int p2), .val (.int p3), .val (.int p4), .val (.int p5), .val (.int ab), .val (.int u), .val (.ref b1), .val (.ref b2), .unset, .unset, .unset]) rfl kS) ?_
          show own_Run p e below _ (T3.setTop (mkF m 72 #[.val (.int p1), .val (.int p2), .val (.int p3), .val (.int p4), .val (.int p5), .val (.int ab), .val (.int u), .val (.ref b1), .val (.ref b2), .unset, .unset, .unset] []))
          rcases hab with rfl | rfl
          · show own_Run p e below _ (T3.setTop (mkF m 72 #[.val (.int p1), .val (.int p2), .val (.int p3), .val (.int p4), .val (.int p5), .val (.int (0 : Int32)), .val (.int u), .val (.ref b1), .val (.ref b2), .unset, .unset, .unset] []))
            refine own_newO X3 hx hZ e3 hown (hw _ (List.mem_of_getElem? (i := 1) rfl)) (hw _ (List.mem_of_getElem? (i := 2) rfl)) (hw _ (List.mem_of_getElem? (i := 3) rfl)) rfl (hb hby at_72) (by decide) (by decide) (fun b4 T4 h4 gb4 X4 e4 E4 A4 D4 => ?_)
            have ne_b1_b4 : b1 ≠ b4 := Nat.ne_of_lt (Nat.lt_of_lt_of_le A1.lt (Nat.le_of_eq gb4.symm))
            have ne_b2_b4 : b2 ≠ b4 := Nat.ne_of_lt (Nat.lt_of_lt_of_le G2.lt (Nat.le_of_eq gb4.symm))
            have g_b4 : n0 ≤ b4 := Nat.le_trans hz (Nat.le_of_eq gb4.symm)
            replace A1 := A1.ext E4
            replace G1 := G1.ext E4
            replace G2 := G2.ext E4
            replace A3 := A3.ext E4
            replace hz := Nat.le_trans hz E4.1
            have F4_metadata : Fld Z h4 b4 "com/example/credence/credence/Payload" "metadata" "[B" .null := D4 (Or.inr (hw _ (List.mem_of_getElem? (i := 11) rfl))) (ty := (.array .byte)) (by decide)
            have F4_data : Fld Z h4 b4 "com/example/credence/credence/Payload" "data" "[B" .null := D4 (Or.inr (hw _ (List.mem_of_getElem? (i := 13) rfl))) (ty := (.array .byte)) (by decide)
            show own_Run p e below _ (T4.setTop (mkF m 75 #[.val (.int p1), .val (.int p2), .val (.int p3), .val (.int p4), .val (.int p5), .val (.int (0 : Int32)), .val (.int u), .val (.ref b1), .val (.ref b2), .unset, .unset, .unset] [(.ref b4)]))
            refine own_go (fun _ kS => XS.dup X4.here hx rfl (hb hby at_75) rfl rfl kS) ?_
            show own_Run p e below _ (T4.setTop (mkF m 76 #[.val (.int p1), .val (.int p2), .val (.int p3), .val (.int p4), .val (.int p5), .val (.int (0 : Int32)), .val (.int u), .val (.ref b1), .val (.ref b2), .unset, .unset, .unset] [(.ref b4), (.ref b4)]))
            refine own_go (fun _ kS => XS.iload X4.here hx rfl (hb hby at_76) rfl kS) ?_
            show own_Run p e below _ (T4.setTop (mkF m 78 #[.val (.int p1), .val (.int p2), .val (.int p3), .val (.int p4), .val (.int p5), .val (.int (0 : Int32)), .val (.int u), .val (.ref b1), .val (.ref b2), .unset, .unset, .unset] [(.int (0 : Int32)), (.ref b4), (.ref b4)]))
            refine own_go (fun _ kS => XS.ifYes X4.here hx rfl (pc0 := 78) (pc' := 85) rfl (hb hby at_78) rfl ((if0 _ _).trans (teq (show (0 : Int32) = (0 : Int32) from (by decide))).1) (by decide) (by decide) kS) ?_
            show own_Run p e below _ (T4.setTop (mkF m 85 #[.val (.int p1), .val (.int p2), .val (.int p3), .val (.int p4), .val (.int p5), .val (.int (0 : Int32)), .val (.int u), .val (.ref b1), .val (.ref b2), .unset, .unset, .unset] [(.ref b4), (.ref b4)]))
            refine own_go (fun _ kS => XS.aload X4.here hx rfl (hb hby at_85) rfl rfl kS) ?_
            show own_Run p e below _ (T4.setTop (mkF m 87 #[.val (.int p1), .val (.int p2), .val (.int p3), .val (.int p4), .val (.int p5), .val (.int (0 : Int32)), .val (.int u), .val (.ref b1), .val (.ref b2), .unset, .unset, .unset] [(.ref b1), (.ref b4), (.ref b4)]))
            refine own_go (fun _ kS => XS.aload X4.here hx rfl (hb hby at_87) rfl rfl kS) ?_
            show own_Run p e below _ (T4.setTop (mkF m 89 #[.val (.int p1), .val (.int p2), .val (.int p3), .val (.int p4), .val (.int p5), .val (.int (0 : Int32)), .val (.int u), .val (.ref b1), .val (.ref b2), .unset, .unset, .unset] [(.ref b2), (.ref b1), (.ref b4), (.ref b4)]))
            refine own_callN X4 hx hZ e4 hown (⟨"com/example/credence/credence/Payload", "<init>", "([B[B)V"⟩ : MethodName) rfl (hw _ (List.mem_of_getElem? (i := 4) rfl)) (hw _ (List.mem_of_getElem? (i := 5) rfl)) (hw _ (List.mem_of_getElem? (i := 3) rfl)) (hw _ (List.mem_of_getElem? (i := 6) rfl)) (by decide) b4 [(.ref b1), (.ref b2)] [(.ref b4)] (rm_initR l Z a0 hw b4 b1 b2 n0 h4 hz A4 g_b4 F4_metadata F4_data) (by decide) 1 (by decide) (by decide) (by decide) rfl (by rw [hml]; rfl) (lenOf own_pd0 rfl) rfl (by show 2 * 0 + _ ≤ _; exact Nat.le_of_eq rfl) (hb hby at_89) (fun v5 h5 L5 T5 Q5 X5 e5 => ?_)
            obtain ⟨rfl, Nq5, Kq5, A5, F5_metadata⟩ := Q5
            replace A1 := A1.keep Kq5 (ninS ne_b1_b4 nin0)
            replace G1 := G1.keep Kq5
            replace G2 := G2.keep Kq5
            replace A3 := A3.keep Kq5 (ninS ne_b2_b4 nin0)
            replace hz := Nat.le_trans hz Kq5.1
            replace N := N.app Nq5
            show own_Run p e below _ (T5.setTop (mkF m 92 #[.val (.int p1), .val (.int p2), .val (.int p3), .val (.int p4), .val (.int p5), .val (.int (0 : Int32)), .val (.int u), .val (.ref b1), .val (.ref b2), .unset, .unset, .unset] [(.ref b4)]))
            refine own_go (fun _ kS => XS.astore X5.here hx rfl (hb hby at_92) rfl rfl (l' := #[.val (.int p1), .val (.int p2), .val (.int p3), .val (.int p4), .val (.int p5), .val (.int (0 : Int32)), .val (.int u), .val (.ref b1), .val (.ref b2), .val (.ref b4), .unset, .unset]) rfl kS) ?_
            show own_Run p e below _ (T5.setTop (mkF m 94 #[.val (.int p1), .val (.int p2), .val (.int p3), .val (.int p4), .val (.int p5), .val (.int (0 : Int32)), .val (.int u), .val (.ref b1), .val (.ref b2), .val (.ref b4), .unset, .unset] []))
            refine own_go (fun _ kS => XS.aload X5.here hx rfl (hb hby at_94) rfl rfl kS) ?_
            show own_Run p e below _ (T5.setTop (mkF m 96 #[.val (.int p1), .val (.int p2), .val (.int p3), .val (.int p4), .val (.int p5), .val (.int (0 : Int32)), .val (.int u), .val (.ref b1), .val (.ref b2), .val (.ref b4), .unset, .unset] [(.ref b4)]))
            refine own_callV X5 hx hZ e5 hown (⟨"com/example/credence/credence/Payload", "metadata", "()[B"⟩ : MethodName) (hw _ (List.mem_of_getElem? (i := 14) rfl)) (hw _ (List.mem_of_getElem? (i := 15) rfl)) (hw _ (List.mem_of_getElem? (i := 17) rfl)) (hw _ (List.mem_of_getElem? (i := 16) rfl)) (hw _ (List.mem_of_getElem? (i := 3) rfl)) (hw _ (List.mem_of_getElem? (i := 18) rfl)) (by decide) b4 A5 [] [] (rm_metaR l Z a0 hw b4 b1 n (own_ms 3 p2 p3 p4) n0 h5 hz F5_metadata A1 G1 (fun i _ => own_msfit i) hn3) (by decide) 0 (by decide) (by decide) (by decide) rfl (by rw [hml]; rfl) (lenOf own_pd1 rfl) rfl (by show 2 * 0 + _ ≤ _; exact Nat.le_of_eq rfl) (hb hby at_96) (fun v6 h6 L6 T6 Q6 X6 e6 => ?_)
            obtain ⟨b6, rfl, Nq6, zq6, Kq6, A6⟩ := Q6
            have ne_b1_b6 : b1 ≠ b6 := Nat.ne_of_lt (Nat.lt_of_lt_of_le A1.lt zq6)
            have ne_b2_b6 : b2 ≠ b6 := Nat.ne_of_lt (Nat.lt_of_lt_of_le G2.lt zq6)
            have ne_b4_b6 : b4 ≠ b6 := Nat.ne_of_lt (Nat.lt_of_lt_of_le A5.lt zq6)
            have g_b6 : n0 ≤ b6 := Nat.le_trans hz zq6
            replace A1 := A1.keep Kq6 nin0
            replace G1 := G1.keep Kq6
            replace G2 := G2.keep Kq6
            replace A3 := A3.keep Kq6 nin0
            replace A5 := A5.keep Kq6
            replace F5_metadata := F5_metadata.keep Kq6 nin0
            replace hz := Nat.le_trans hz Kq6.1
            replace N := N.app Nq6
            show own_Run p e below _ (T6.setTop (mkF m 99 #[.val (.int p1), .val (.int p2), .val (.int p3), .val (.int p4), .val (.int p5), .val (.int (0 : Int32)), .val (.int u), .val (.ref b1), .val (.ref b2), .val (.ref b4), .unset, .unset] [(.ref b6)]))
            refine own_go (fun _ kS => XS.astore X6.here hx rfl (hb hby at_99) rfl rfl (l' := #[.val (.int p1), .val (.int p2), .val (.int p3), .val (.int p4), .val (.int p5), .val (.int (0 : Int32)), .val (.int u), .val (.ref b1), .val (.ref b2), .val (.ref b4), .val (.ref b6), .unset]) rfl kS) ?_
            show own_Run p e below _ (T6.setTop (mkF m 101 #[.val (.int p1), .val (.int p2), .val (.int p3), .val (.int p4), .val (.int p5), .val (.int (0 : Int32)), .val (.int u), .val (.ref b1), .val (.ref b2), .val (.ref b4), .val (.ref b6), .unset] []))
            refine own_go (fun _ kS => XS.iload X6.here hx rfl (hb hby at_101) rfl kS) ?_
            show own_Run p e below _ (T6.setTop (mkF m 103 #[.val (.int p1), .val (.int p2), .val (.int p3), .val (.int p4), .val (.int p5), .val (.int (0 : Int32)), .val (.int u), .val (.ref b1), .val (.ref b2), .val (.ref b4), .val (.ref b6), .unset] [(.int (0 : Int32))]))
            refine own_go (fun _ kS => XS.ifYes X6.here hx rfl (pc0 := 103) (pc' := 117) rfl (hb hby at_103) rfl ((if0 _ _).trans (teq (show (0 : Int32) = (0 : Int32) from (by decide))).1) (by decide) (by decide) kS) ?_
            show own_Run p e below _ (T6.setTop (mkF m 117 #[.val (.int p1), .val (.int p2), .val (.int p3), .val (.int p4), .val (.int p5), .val (.int (0 : Int32)), .val (.int u), .val (.ref b1), .val (.ref b2), .val (.ref b4), .val (.ref b6), .unset] []))
            refine own_go (fun _ kS => XS.aload X6.here hx rfl (hb hby at_117) rfl rfl kS) ?_
            show own_Run p e below _ (T6.setTop (mkF m 119 #[.val (.int p1), .val (.int p2), .val (.int p3), .val (.int p4), .val (.int p5), .val (.int (0 : Int32)), .val (.int u), .val (.ref b1), .val (.ref b2), .val (.ref b4), .val (.ref b6), .unset] [(.ref b6)]))
            refine own_go (fun _ kS => XS.aload X6.here hx rfl (hb hby at_119) rfl rfl kS) ?_
            show own_Run p e below _ (T6.setTop (mkF m 121 #[.val (.int p1), .val (.int p2), .val (.int p3), .val (.int p4), .val (.int p5), .val (.int (0 : Int32)), .val (.int u), .val (.ref b1), .val (.ref b2), .val (.ref b4), .val (.ref b6), .unset] [(.ref b1), (.ref b6)]))
            refine own_go (fun _ kS => Jvm.RoadKit.acmp (g := (mkF m 121 #[.val (.int p1), .val (.int p2), .val (.int p3), .val (.int p4), .val (.int p5), .val (.int (0 : Int32)), .val (.int u), .val (.ref b1), .val (.ref b2), .val (.ref b4), .val (.ref b6), .unset] [(.ref b1), (.ref b6)])) X6 hx rfl rfl rfl (pc0 := 121) (pc' := 124) (same := false) rfl (hb hby at_121) rfl (decide_eq_false fun q => (Ne.symm ne_b1_b6) (Value.ref.inj q)) (by decide) (by decide) kS) ?_
            show own_Run p e below _ (T6.setTop (mkF m 124 #[.val (.int p1), .val (.int p2), .val (.int p3), .val (.int p4), .val (.int p5), .val (.int (0 : Int32)), .val (.int u), .val (.ref b1), .val (.ref b2), .val (.ref b4), .val (.ref b6), .unset] []))
            refine own_go (fun _ kS => XS.aload X6.here hx rfl (hb hby at_124) rfl rfl kS) ?_
            show own_Run p e below _ (T6.setTop (mkF m 126 #[.val (.int p1), .val (.int p2), .val (.int p3), .val (.int p4), .val (.int p5), .val (.int (0 : Int32)), .val (.int u), .val (.ref b1), .val (.ref b2), .val (.ref b4), .val (.ref b6), .unset] [(.ref b6)]))
            refine own_go (fun _ kS => XS.aload X6.here hx rfl (hb hby at_126) rfl rfl kS) ?_
            show own_Run p e below _ (T6.setTop (mkF m 128 #[.val (.int p1), .val (.int p2), .val (.int p3), .val (.int p4), .val (.int p5), .val (.int (0 : Int32)), .val (.int u), .val (.ref b1), .val (.ref b2), .val (.ref b4), .val (.ref b6), .unset] [(.ref b2), (.ref b6)]))
            refine own_go (fun _ kS => Jvm.RoadKit.acmp (g := (mkF m 128 #[.val (.int p1), .val (.int p2), .val (.int p3), .val (.int p4), .val (.int p5), .val (.int (0 : Int32)), .val (.int u), .val (.ref b1), .val (.ref b2), .val (.ref b4), .val (.ref b6), .unset] [(.ref b2), (.ref b6)])) X6 hx rfl rfl rfl (pc0 := 128) (pc' := 131) (same := false) rfl (hb hby at_128) rfl (decide_eq_false fun q => (Ne.symm ne_b2_b6) (Value.ref.inj q)) (by decide) (by decide) kS) ?_
            show own_Run p e below _ (T6.setTop (mkF m 131 #[.val (.int p1), .val (.int p2), .val (.int p3), .val (.int p4), .val (.int p5), .val (.int (0 : Int32)), .val (.int u), .val (.ref b1), .val (.ref b2), .val (.ref b4), .val (.ref b6), .unset] []))
            refine own_go (fun _ kS => XS.aload X6.here hx rfl (hb hby at_131) rfl rfl kS) ?_
            show own_Run p e below _ (T6.setTop (mkF m 133 #[.val (.int p1), .val (.int p2), .val (.int p3), .val (.int p4), .val (.int p5), .val (.int (0 : Int32)), .val (.int u), .val (.ref b1), .val (.ref b2), .val (.ref b4), .val (.ref b6), .unset] [(.ref b6)]))
            refine own_go (fun _ kS => XS.iload X6.here hx rfl (hb hby at_133) rfl kS) ?_
            show own_Run p e below _ (T6.setTop (mkF m 135 #[.val (.int p1), .val (.int p2), .val (.int p3), .val (.int p4), .val (.int p5), .val (.int (0 : Int32)), .val (.int u), .val (.ref b1), .val (.ref b2), .val (.ref b4), .val (.ref b6), .unset] [(.int u), (.ref b6)]))
            refine own_go (fun _ kS => XS.iloadN X6.here hx rfl (hb hby at_135) rfl kS) ?_
            show own_Run p e below _ (T6.setTop (mkF m 136 #[.val (.int p1), .val (.int p2), .val (.int p3), .val (.int p4), .val (.int p5), .val (.int (0 : Int32)), .val (.int u), .val (.ref b1), .val (.ref b2), .val (.ref b4), .val (.ref b6), .unset] [(.int p2), (.int u), (.ref b6)]))
            refine own_go (fun _ kS => XS.iloadN X6.here hx rfl (hb hby at_136) rfl kS) ?_
            show own_Run p e below _ (T6.setTop (mkF m 137 #[.val (.int p1), .val (.int p2), .val (.int p3), .val (.int p4), .val (.int p5), .val (.int (0 : Int32)), .val (.int u), .val (.ref b1), .val (.ref b2), .val (.ref b4), .val (.ref b6), .unset] [(.int p3), (.int p2), (.int u), (.ref b6)]))
            refine own_go (fun _ kS => XS.iloadN X6.here hx rfl (hb hby at_137) rfl kS) ?_
            show own_Run p e below _ (T6.setTop (mkF m 138 #[.val (.int p1), .val (.int p2), .val (.int p3), .val (.int p4), .val (.int p5), .val (.int (0 : Int32)), .val (.int u), .val (.ref b1), .val (.ref b2), .val (.ref b4), .val (.ref b6), .unset] [(.int p4), (.int p3), (.int p2), (.int u), (.ref b6)]))
            refine own_callS X6 hx hZ e6 hown (⟨"com/example/credence/credence/PayloadMetadataPinLaw", "same", "([BIIII)Z"⟩ : MethodName) (hw _ (List.mem_of_getElem? (i := 28) rfl)) (hw _ (List.mem_of_getElem? (i := 29) rfl)) (hw _ (List.mem_of_getElem? (i := 30) rfl)) (hw _ (List.mem_of_getElem? (i := 31) rfl)) (by decide) [(.ref b6), (.int u), (.int p2), (.int p3), (.int p4)] [] (rm_same l Z a0 hw b6 u p2 p3 p4 n (own_ms 3 p2 p3 p4) h6 A6 hn (fun _ => own_ms0 p2 p3 p4) (fun _ => own_ms1 p2 p3 p4) (fun _ => own_ms2 p2 p3 p4)) (by decide) 0 (by decide) (by decide) (by decide) rfl (by rw [hml]; rfl) (lenOf own_pd2 rfl) rfl (by show 2 * 0 + _ ≤ _; exact Nat.le_of_eq rfl) (hb hby at_138) (fun v7 h7 L7 T7 Q7 X7 e7 => ?_)
            obtain ⟨rfl, rfl, rfl⟩ := Q7
            replace N := N.app (Fr.nil n0)
            show own_Run p e below _ (T7.setTop (mkF m 141 #[.val (.int p1), .val (.int p2), .val (.int p3), .val (.int p4), .val (.int p5), .val (.int (0 : Int32)), .val (.int u), .val (.ref b1), .val (.ref b2), .val (.ref b4), .val (.ref b6), .unset] [(.int (1 : Int32))]))
            refine own_go (fun _ kS => XS.ifYes X7.here hx rfl (pc0 := 141) (pc' := 146) rfl (hb hby at_141) rfl ((if0 _ _).trans (feq (show ¬ ((1 : Int32) = (0 : Int32)) from (by decide))).2) (by decide) (by decide) kS) ?_
            show own_Run p e below _ (T7.setTop (mkF m 146 #[.val (.int p1), .val (.int p2), .val (.int p3), .val (.int p4), .val (.int p5), .val (.int (0 : Int32)), .val (.int u), .val (.ref b1), .val (.ref b2), .val (.ref b4), .val (.ref b6), .unset] []))
            refine own_go (fun _ kS => XS.iload X7.here hx rfl (hb hby at_146) rfl kS) ?_
            show own_Run p e below _ (T7.setTop (mkF m 148 #[.val (.int p1), .val (.int p2), .val (.int p3), .val (.int p4), .val (.int p5), .val (.int (0 : Int32)), .val (.int u), .val (.ref b1), .val (.ref b2), .val (.ref b4), .val (.ref b6), .unset] [(.int u)]))
            have J162 : ∀ (fm : Nat → Value) (T_162 : State) (h_162 : Heap) (locs_162 : List Loc), Stand p l e room_1 s m #[(.int p1), (.int p2), (.int p3), (.int p4), (.int p5)] below meth c T_162 locs_162 4 9 → T_162.heap = h_162 → Fr n0 locs_162 → n0 ≤ h_162.size → own_Arr Z h_162 b1 .byte n (own_ms 3 p2 p3 p4) → Exa Z h_162 b1 "[B" → Exa Z h_162 b2 "[B" → own_Arr Z h_162 b2 .byte 1 (fun i => if i = 0 then (.int (nar .byte p5.toInt8.toInt32)) else (fun _ => (.int (0 : Int32))) i) → Exa Z h_162 b4 "com/example/credence/credence/Payload" → Fld Z h_162 b4 "com/example/credence/credence/Payload" "metadata" "[B" (.ref b1) → own_Arr Z h_162 b6 .byte n fm → own_Run p e below (own_End s room_1 (Q_law Z p1 p2 p3 p4 p5 n0 h0)) (T_162.setTop (mkF m 162 #[.val (.int p1), .val (.int p2), .val (.int p3), .val (.int p4), .val (.int p5), .val (.int (0 : Int32)), .val (.int u), .val (.ref b1), .val (.ref b2), .val (.ref b4), .val (.ref b6), .unset] [])) := by
              intro fm T_162 h_162 locs_162 X_162 e_162 N hz A1 G1 G2 A3 A5 F5_metadata A6
              show own_Run p e below _ (T_162.setTop (mkF m 162 #[.val (.int p1), .val (.int p2), .val (.int p3), .val (.int p4), .val (.int p5), .val (.int (0 : Int32)), .val (.int u), .val (.ref b1), .val (.ref b2), .val (.ref b4), .val (.ref b6), .unset] []))
              refine own_go (fun _ kS => XS.aload X_162.here hx rfl (hb hby at_162) rfl rfl kS) ?_
              show own_Run p e below _ (T_162.setTop (mkF m 164 #[.val (.int p1), .val (.int p2), .val (.int p3), .val (.int p4), .val (.int p5), .val (.int (0 : Int32)), .val (.int u), .val (.ref b1), .val (.ref b2), .val (.ref b4), .val (.ref b6), .unset] [(.ref b4)]))
              refine own_callV X_162 hx hZ e_162 hown (⟨"com/example/credence/credence/Payload", "metadata", "()[B"⟩ : MethodName) (hw _ (List.mem_of_getElem? (i := 14) rfl)) (hw _ (List.mem_of_getElem? (i := 15) rfl)) (hw _ (List.mem_of_getElem? (i := 17) rfl)) (hw _ (List.mem_of_getElem? (i := 16) rfl)) (hw _ (List.mem_of_getElem? (i := 3) rfl)) (hw _ (List.mem_of_getElem? (i := 18) rfl)) (by decide) b4 A5 [] [] (rm_metaR l Z a0 hw b4 b1 n (own_ms 3 p2 p3 p4) n0 h_162 hz F5_metadata A1 G1 (fun i _ => own_msfit i) hn3) (by decide) 0 (by decide) (by decide) (by decide) rfl (by rw [hml]; rfl) (lenOf own_pd1 rfl) rfl (by show 2 * 0 + _ ≤ _; exact Nat.le_of_eq rfl) (hb hby at_164) (fun v8 h8 L8 T8 Q8 X8 e8 => ?_)
              obtain ⟨b8, rfl, Nq8, zq8, Kq8, A8⟩ := Q8
              have ne_b1_b8 : b1 ≠ b8 := Nat.ne_of_lt (Nat.lt_of_lt_of_le A1.lt zq8)
              have ne_b2_b8 : b2 ≠ b8 := Nat.ne_of_lt (Nat.lt_of_lt_of_le G2.lt zq8)
              have ne_b4_b8 : b4 ≠ b8 := Nat.ne_of_lt (Nat.lt_of_lt_of_le A5.lt zq8)
              have ne_b6_b8 : b6 ≠ b8 := Nat.ne_of_lt (Nat.lt_of_lt_of_le A6.lt zq8)
              have g_b8 : n0 ≤ b8 := Nat.le_trans hz zq8
              replace A1 := A1.keep Kq8 nin0
              replace G1 := G1.keep Kq8
              replace G2 := G2.keep Kq8
              replace A3 := A3.keep Kq8 nin0
              replace A5 := A5.keep Kq8
              replace F5_metadata := F5_metadata.keep Kq8 nin0
              replace A6 := A6.keep Kq8 nin0
              replace hz := Nat.le_trans hz Kq8.1
              replace N := N.app Nq8
              show own_Run p e below _ (T8.setTop (mkF m 167 #[.val (.int p1), .val (.int p2), .val (.int p3), .val (.int p4), .val (.int p5), .val (.int (0 : Int32)), .val (.int u), .val (.ref b1), .val (.ref b2), .val (.ref b4), .val (.ref b6), .unset] [(.ref b8)]))
              refine own_go (fun _ kS => XS.astore X8.here hx rfl (hb hby at_167) rfl rfl (l' := #[.val (.int p1), .val (.int p2), .val (.int p3), .val (.int p4), .val (.int p5), .val (.int (0 : Int32)), .val (.int u), .val (.ref b1), .val (.ref b2), .val (.ref b4), .val (.ref b6), .val (.ref b8)]) rfl kS) ?_
              show own_Run p e below _ (T8.setTop (mkF m 169 #[.val (.int p1), .val (.int p2), .val (.int p3), .val (.int p4), .val (.int p5), .val (.int (0 : Int32)), .val (.int u), .val (.ref b1), .val (.ref b2), .val (.ref b4), .val (.ref b6), .val (.ref b8)] []))
              refine own_go (fun _ kS => XS.aload X8.here hx rfl (hb hby at_169) rfl rfl kS) ?_
              show own_Run p e below _ (T8.setTop (mkF m 171 #[.val (.int p1), .val (.int p2), .val (.int p3), .val (.int p4), .val (.int p5), .val (.int (0 : Int32)), .val (.int u), .val (.ref b1), .val (.ref b2), .val (.ref b4), .val (.ref b6), .val (.ref b8)] [(.ref b8)]))
              refine own_go (fun _ kS => XS.aload X8.here hx rfl (hb hby at_171) rfl rfl kS) ?_
              show own_Run p e below _ (T8.setTop (mkF m 173 #[.val (.int p1), .val (.int p2), .val (.int p3), .val (.int p4), .val (.int p5), .val (.int (0 : Int32)), .val (.int u), .val (.ref b1), .val (.ref b2), .val (.ref b4), .val (.ref b6), .val (.ref b8)] [(.ref b1), (.ref b8)]))
              refine own_go (fun _ kS => Jvm.RoadKit.acmp (g := (mkF m 173 #[.val (.int p1), .val (.int p2), .val (.int p3), .val (.int p4), .val (.int p5), .val (.int (0 : Int32)), .val (.int u), .val (.ref b1), .val (.ref b2), .val (.ref b4), .val (.ref b6), .val (.ref b8)] [(.ref b1), (.ref b8)])) X8 hx rfl rfl rfl (pc0 := 173) (pc' := 176) (same := false) rfl (hb hby at_173) rfl (decide_eq_false fun q => (Ne.symm ne_b1_b8) (Value.ref.inj q)) (by decide) (by decide) kS) ?_
              show own_Run p e below _ (T8.setTop (mkF m 176 #[.val (.int p1), .val (.int p2), .val (.int p3), .val (.int p4), .val (.int p5), .val (.int (0 : Int32)), .val (.int u), .val (.ref b1), .val (.ref b2), .val (.ref b4), .val (.ref b6), .val (.ref b8)] []))
              refine own_go (fun _ kS => XS.aload X8.here hx rfl (hb hby at_176) rfl rfl kS) ?_
              show own_Run p e below _ (T8.setTop (mkF m 178 #[.val (.int p1), .val (.int p2), .val (.int p3), .val (.int p4), .val (.int p5), .val (.int (0 : Int32)), .val (.int u), .val (.ref b1), .val (.ref b2), .val (.ref b4), .val (.ref b6), .val (.ref b8)] [(.ref b8)]))
              refine own_go (fun _ kS => XS.aload X8.here hx rfl (hb hby at_178) rfl rfl kS) ?_
              show own_Run p e below _ (T8.setTop (mkF m 180 #[.val (.int p1), .val (.int p2), .val (.int p3), .val (.int p4), .val (.int p5), .val (.int (0 : Int32)), .val (.int u), .val (.ref b1), .val (.ref b2), .val (.ref b4), .val (.ref b6), .val (.ref b8)] [(.ref b6), (.ref b8)]))
              refine own_go (fun _ kS => Jvm.RoadKit.acmp (g := (mkF m 180 #[.val (.int p1), .val (.int p2), .val (.int p3), .val (.int p4), .val (.int p5), .val (.int (0 : Int32)), .val (.int u), .val (.ref b1), .val (.ref b2), .val (.ref b4), .val (.ref b6), .val (.ref b8)] [(.ref b6), (.ref b8)])) X8 hx rfl rfl rfl (pc0 := 180) (pc' := 183) (same := false) rfl (hb hby at_180) rfl (decide_eq_false fun q => (Ne.symm ne_b6_b8) (Value.ref.inj q)) (by decide) (by decide) kS) ?_
              show own_Run p e below _ (T8.setTop (mkF m 183 #[.val (.int p1), .val (.int p2), .val (.int p3), .val (.int p4), .val (.int p5), .val (.int (0 : Int32)), .val (.int u), .val (.ref b1), .val (.ref b2), .val (.ref b4), .val (.ref b6), .val (.ref b8)] []))
              refine own_go (fun _ kS => XS.aload X8.here hx rfl (hb hby at_183) rfl rfl kS) ?_
              show own_Run p e below _ (T8.setTop (mkF m 185 #[.val (.int p1), .val (.int p2), .val (.int p3), .val (.int p4), .val (.int p5), .val (.int (0 : Int32)), .val (.int u), .val (.ref b1), .val (.ref b2), .val (.ref b4), .val (.ref b6), .val (.ref b8)] [(.ref b8)]))
              refine own_go (fun _ kS => XS.aload X8.here hx rfl (hb hby at_185) rfl rfl kS) ?_
              show own_Run p e below _ (T8.setTop (mkF m 187 #[.val (.int p1), .val (.int p2), .val (.int p3), .val (.int p4), .val (.int p5), .val (.int (0 : Int32)), .val (.int u), .val (.ref b1), .val (.ref b2), .val (.ref b4), .val (.ref b6), .val (.ref b8)] [(.ref b2), (.ref b8)]))
              refine own_go (fun _ kS => Jvm.RoadKit.acmp (g := (mkF m 187 #[.val (.int p1), .val (.int p2), .val (.int p3), .val (.int p4), .val (.int p5), .val (.int (0 : Int32)), .val (.int u), .val (.ref b1), .val (.ref b2), .val (.ref b4), .val (.ref b6), .val (.ref b8)] [(.ref b2), (.ref b8)])) X8 hx rfl rfl rfl (pc0 := 187) (pc' := 192) (same := false) rfl (hb hby at_187) rfl (decide_eq_false fun q => (Ne.symm ne_b2_b8) (Value.ref.inj q)) (by decide) (by decide) kS) ?_
              show own_Run p e below _ (T8.setTop (mkF m 192 #[.val (.int p1), .val (.int p2), .val (.int p3), .val (.int p4), .val (.int p5), .val (.int (0 : Int32)), .val (.int u), .val (.ref b1), .val (.ref b2), .val (.ref b4), .val (.ref b6), .val (.ref b8)] []))
              refine own_go (fun _ kS => XS.aload X8.here hx rfl (hb hby at_192) rfl rfl kS) ?_
              show own_Run p e below _ (T8.setTop (mkF m 194 #[.val (.int p1), .val (.int p2), .val (.int p3), .val (.int p4), .val (.int p5), .val (.int (0 : Int32)), .val (.int u), .val (.ref b1), .val (.ref b2), .val (.ref b4), .val (.ref b6), .val (.ref b8)] [(.ref b8)]))
              refine own_go (fun _ kS => XS.iload X8.here hx rfl (hb hby at_194) rfl kS) ?_
              show own_Run p e below _ (T8.setTop (mkF m 196 #[.val (.int p1), .val (.int p2), .val (.int p3), .val (.int p4), .val (.int p5), .val (.int (0 : Int32)), .val (.int u), .val (.ref b1), .val (.ref b2), .val (.ref b4), .val (.ref b6), .val (.ref b8)] [(.int u), (.ref b8)]))
              refine own_go (fun _ kS => XS.iloadN X8.here hx rfl (hb hby at_196) rfl kS) ?_
              show own_Run p e below _ (T8.setTop (mkF m 197 #[.val (.int p1), .val (.int p2), .val (.int p3), .val (.int p4), .val (.int p5), .val (.int (0 : Int32)), .val (.int u), .val (.ref b1), .val (.ref b2), .val (.ref b4), .val (.ref b6), .val (.ref b8)] [(.int p2), (.int u), (.ref b8)]))
              refine own_go (fun _ kS => XS.iloadN X8.here hx rfl (hb hby at_197) rfl kS) ?_
              show own_Run p e below _ (T8.setTop (mkF m 198 #[.val (.int p1), .val (.int p2), .val (.int p3), .val (.int p4), .val (.int p5), .val (.int (0 : Int32)), .val (.int u), .val (.ref b1), .val (.ref b2), .val (.ref b4), .val (.ref b6), .val (.ref b8)] [(.int p3), (.int p2), (.int u), (.ref b8)]))
              refine own_go (fun _ kS => XS.iloadN X8.here hx rfl (hb hby at_198) rfl kS) ?_
              show own_Run p e below _ (T8.setTop (mkF m 199 #[.val (.int p1), .val (.int p2), .val (.int p3), .val (.int p4), .val (.int p5), .val (.int (0 : Int32)), .val (.int u), .val (.ref b1), .val (.ref b2), .val (.ref b4), .val (.ref b6), .val (.ref b8)] [(.int p4), (.int p3), (.int p2), (.int u), (.ref b8)]))
              refine own_callS X8 hx hZ e8 hown (⟨"com/example/credence/credence/PayloadMetadataPinLaw", "same", "([BIIII)Z"⟩ : MethodName) (hw _ (List.mem_of_getElem? (i := 28) rfl)) (hw _ (List.mem_of_getElem? (i := 29) rfl)) (hw _ (List.mem_of_getElem? (i := 30) rfl)) (hw _ (List.mem_of_getElem? (i := 31) rfl)) (by decide) [(.ref b8), (.int u), (.int p2), (.int p3), (.int p4)] [] (rm_same l Z a0 hw b8 u p2 p3 p4 n (own_ms 3 p2 p3 p4) h8 A8 hn (fun _ => own_ms0 p2 p3 p4) (fun _ => own_ms1 p2 p3 p4) (fun _ => own_ms2 p2 p3 p4)) (by decide) 0 (by decide) (by decide) (by decide) rfl (by rw [hml]; rfl) (lenOf own_pd2 rfl) rfl (by show 2 * 0 + _ ≤ _; exact Nat.le_of_eq rfl) (hb hby at_199) (fun v9 h9 L9 T9 Q9 X9 e9 => ?_)
              obtain ⟨rfl, rfl, rfl⟩ := Q9
              replace N := N.app (Fr.nil n0)
              show own_Run p e below _ (T9.setTop (mkF m 202 #[.val (.int p1), .val (.int p2), .val (.int p3), .val (.int p4), .val (.int p5), .val (.int (0 : Int32)), .val (.int u), .val (.ref b1), .val (.ref b2), .val (.ref b4), .val (.ref b6), .val (.ref b8)] [(.int (1 : Int32))]))
              refine own_go (fun _ kS => XS.ifNo X9.here hx rfl (hb hby at_202) rfl ((if0 _ _).trans (feq (show ¬ ((1 : Int32) = (0 : Int32)) from (by decide))).1) kS) ?_
              show own_Run p e below _ (T9.setTop (mkF m 205 #[.val (.int p1), .val (.int p2), .val (.int p3), .val (.int p4), .val (.int p5), .val (.int (0 : Int32)), .val (.int u), .val (.ref b1), .val (.ref b2), .val (.ref b4), .val (.ref b6), .val (.ref b8)] []))
              refine own_go (fun _ kS => XS.aload X9.here hx rfl (hb hby at_205) rfl rfl kS) ?_
              show own_Run p e below _ (T9.setTop (mkF m 207 #[.val (.int p1), .val (.int p2), .val (.int p3), .val (.int p4), .val (.int p5), .val (.int (0 : Int32)), .val (.int u), .val (.ref b1), .val (.ref b2), .val (.ref b4), .val (.ref b6), .val (.ref b8)] [(.ref b1)]))
              refine own_go (fun _ kS => XS.iload X9.here hx rfl (hb hby at_207) rfl kS) ?_
              show own_Run p e below _ (T9.setTop (mkF m 209 #[.val (.int p1), .val (.int p2), .val (.int p3), .val (.int p4), .val (.int p5), .val (.int (0 : Int32)), .val (.int u), .val (.ref b1), .val (.ref b2), .val (.ref b4), .val (.ref b6), .val (.ref b8)] [(.int u), (.ref b1)]))
              refine own_go (fun _ kS => XS.iloadN X9.here hx rfl (hb hby at_209) rfl kS) ?_
              show own_Run p e below _ (T9.setTop (mkF m 210 #[.val (.int p1), .val (.int p2), .val (.int p3), .val (.int p4), .val (.int p5), .val (.int (0 : Int32)), .val (.int u), .val (.ref b1), .val (.ref b2), .val (.ref b4), .val (.ref b6), .val (.ref b8)] [(.int p2), (.int u), (.ref b1)]))
              refine own_go (fun _ kS => XS.iloadN X9.here hx rfl (hb hby at_210) rfl kS) ?_
              show own_Run p e below _ (T9.setTop (mkF m 211 #[.val (.int p1), .val (.int p2), .val (.int p3), .val (.int p4), .val (.int p5), .val (.int (0 : Int32)), .val (.int u), .val (.ref b1), .val (.ref b2), .val (.ref b4), .val (.ref b6), .val (.ref b8)] [(.int p3), (.int p2), (.int u), (.ref b1)]))
              refine own_go (fun _ kS => XS.iloadN X9.here hx rfl (hb hby at_211) rfl kS) ?_
              show own_Run p e below _ (T9.setTop (mkF m 212 #[.val (.int p1), .val (.int p2), .val (.int p3), .val (.int p4), .val (.int p5), .val (.int (0 : Int32)), .val (.int u), .val (.ref b1), .val (.ref b2), .val (.ref b4), .val (.ref b6), .val (.ref b8)] [(.int p4), (.int p3), (.int p2), (.int u), (.ref b1)]))
              refine own_callS X9 hx hZ e9 hown (⟨"com/example/credence/credence/PayloadMetadataPinLaw", "same", "([BIIII)Z"⟩ : MethodName) (hw _ (List.mem_of_getElem? (i := 28) rfl)) (hw _ (List.mem_of_getElem? (i := 29) rfl)) (hw _ (List.mem_of_getElem? (i := 30) rfl)) (hw _ (List.mem_of_getElem? (i := 31) rfl)) (by decide) [(.ref b1), (.int u), (.int p2), (.int p3), (.int p4)] [] (rm_same l Z a0 hw b1 u p2 p3 p4 n (own_ms 3 p2 p3 p4) h8 A1 hn (fun _ => own_ms0 p2 p3 p4) (fun _ => own_ms1 p2 p3 p4) (fun _ => own_ms2 p2 p3 p4)) (by decide) 0 (by decide) (by decide) (by decide) rfl (by rw [hml]; rfl) (lenOf own_pd2 rfl) rfl (by show 2 * 0 + _ ≤ _; exact Nat.le_of_eq rfl) (hb hby at_212) (fun v10 h10 L10 T10 Q10 X10 e10 => ?_)
              obtain ⟨rfl, rfl, rfl⟩ := Q10
              replace N := N.app (Fr.nil n0)
              show own_Run p e below _ (T10.setTop (mkF m 215 #[.val (.int p1), .val (.int p2), .val (.int p3), .val (.int p4), .val (.int p5), .val (.int (0 : Int32)), .val (.int u), .val (.ref b1), .val (.ref b2), .val (.ref b4), .val (.ref b6), .val (.ref b8)] [(.int (1 : Int32))]))
              refine own_go (fun _ kS => XS.ifNo X10.here hx rfl (hb hby at_215) rfl ((if0 _ _).trans (feq (show ¬ ((1 : Int32) = (0 : Int32)) from (by decide))).1) kS) ?_
              show own_Run p e below _ (T10.setTop (mkF m 218 #[.val (.int p1), .val (.int p2), .val (.int p3), .val (.int p4), .val (.int p5), .val (.int (0 : Int32)), .val (.int u), .val (.ref b1), .val (.ref b2), .val (.ref b4), .val (.ref b6), .val (.ref b8)] []))
              refine own_go (fun _ kS => XS.iconst X10.here hx rfl (hb hby at_218) kS) ?_
              show own_Run p e below _ (T10.setTop (mkF m 219 #[.val (.int p1), .val (.int p2), .val (.int p3), .val (.int p4), .val (.int p5), .val (.int (0 : Int32)), .val (.int u), .val (.ref b1), .val (.ref b2), .val (.ref b4), .val (.ref b6), .val (.ref b8)] [(.int (1 : Int32))]))
              refine own_go (fun _ kS => XS.goto X10.here hx rfl (pc0 := 219) (pc' := 223) rfl (hb hby at_219) (by decide) (by decide) kS) ?_
              show own_Run p e below _ (T10.setTop (mkF m 223 #[.val (.int p1), .val (.int p2), .val (.int p3), .val (.int p4), .val (.int p5), .val (.int (0 : Int32)), .val (.int u), .val (.ref b1), .val (.ref b2), .val (.ref b4), .val (.ref b6), .val (.ref b8)] [(.int (1 : Int32))]))
              refine own_retN X10 hx (t := .boolean) hret hlk (by simp) (hb hby at_223) (by decide) (by decide) ?_
              exact ⟨rfl, N⟩
            by_cases hc148 : (0 : Int32) < u
            · refine own_go (fun _ kS => XS.ifNo X7.here hx rfl (hb hby at_148) rfl ((if0 _ _).trans (tlt hc148).2.2.2) kS) ?_
              show own_Run p e below _ (T7.setTop (mkF m 151 #[.val (.int p1), .val (.int p2), .val (.int p3), .val (.int p4), .val (.int p5), .val (.int (0 : Int32)), .val (.int u), .val (.ref b1), .val (.ref b2), .val (.ref b4), .val (.ref b6), .unset] []))
              have k148 : 0 < n := by have w := hc148; rw [Int32.lt_iff_toInt_lt] at w; omega
              refine own_go (fun _ kS => XS.aload X7.here hx rfl (hb hby at_151) rfl rfl kS) ?_
              show own_Run p e below _ (T7.setTop (mkF m 153 #[.val (.int p1), .val (.int p2), .val (.int p3), .val (.int p4), .val (.int p5), .val (.int (0 : Int32)), .val (.int u), .val (.ref b1), .val (.ref b2), .val (.ref b4), .val (.ref b6), .unset] [(.ref b6)]))
              refine own_go (fun _ kS => XS.iconst X7.here hx rfl (hb hby at_153) kS) ?_
              show own_Run p e below _ (T7.setTop (mkF m 154 #[.val (.int p1), .val (.int p2), .val (.int p3), .val (.int p4), .val (.int p5), .val (.int (0 : Int32)), .val (.int u), .val (.ref b1), .val (.ref b2), .val (.ref b4), .val (.ref b6), .unset] [(.int (0 : Int32)), (.ref b6)]))
              refine own_go (fun _ kS => XS.aload X7.here hx rfl (hb hby at_154) rfl rfl kS) ?_
              show own_Run p e below _ (T7.setTop (mkF m 156 #[.val (.int p1), .val (.int p2), .val (.int p3), .val (.int p4), .val (.int p5), .val (.int (0 : Int32)), .val (.int u), .val (.ref b1), .val (.ref b2), .val (.ref b4), .val (.ref b6), .unset] [(.ref b6), (.int (0 : Int32)), (.ref b6)]))
              refine own_go (fun _ kS => XS.iconst X7.here hx rfl (hb hby at_156) kS) ?_
              show own_Run p e below _ (T7.setTop (mkF m 157 #[.val (.int p1), .val (.int p2), .val (.int p3), .val (.int p4), .val (.int p5), .val (.int (0 : Int32)), .val (.int u), .val (.ref b1), .val (.ref b2), .val (.ref b4), .val (.ref b6), .unset] [(.int (0 : Int32)), (.ref b6), (.int (0 : Int32)), (.ref b6)]))
              refine own_baload X7 hx hZ e7 A6 (j := (0 : Int32)) (nar .byte p2.toInt8.toInt32) ⟨by decide, by omega⟩ rfl rfl rfl (hb hby at_157) ?_
              show own_Run p e below _ (T7.setTop (mkF m 158 #[.val (.int p1), .val (.int p2), .val (.int p3), .val (.int p4), .val (.int p5), .val (.int (0 : Int32)), .val (.int u), .val (.ref b1), .val (.ref b2), .val (.ref b4), .val (.ref b6), .unset] [(.int (nar .byte p2.toInt8.toInt32)), (.int (0 : Int32)), (.ref b6)]))
              refine own_go (fun _ kS => XS.iconst X7.here hx rfl (hb hby at_158) kS) ?_
              show own_Run p e below _ (T7.setTop (mkF m 159 #[.val (.int p1), .val (.int p2), .val (.int p3), .val (.int p4), .val (.int p5), .val (.int (0 : Int32)), .val (.int u), .val (.ref b1), .val (.ref b2), .val (.ref b4), .val (.ref b6), .unset] [(.int (1 : Int32)), (.int (nar .byte p2.toInt8.toInt32)), (.int (0 : Int32)), (.ref b6)]))
              refine own_go (fun _ kS => XS.iadd X7.here hx rfl (hb hby at_159) rfl kS) ?_
              show own_Run p e below _ (T7.setTop (mkF m 160 #[.val (.int p1), .val (.int p2), .val (.int p3), .val (.int p4), .val (.int p5), .val (.int (0 : Int32)), .val (.int u), .val (.ref b1), .val (.ref b2), .val (.ref b4), .val (.ref b6), .unset] [(.int ((nar .byte p2.toInt8.toInt32) + (1 : Int32))), (.int (0 : Int32)), (.ref b6)]))
              refine own_go (fun _ kS => XS.i2b X7.here hx rfl (hb hby at_160) rfl kS) ?_
              show own_Run p e below _ (T7.setTop (mkF m 161 #[.val (.int p1), .val (.int p2), .val (.int p3), .val (.int p4), .val (.int p5), .val (.int (0 : Int32)), .val (.int u), .val (.ref b1), .val (.ref b2), .val (.ref b4), .val (.ref b6), .unset] [(.int ((nar .byte p2.toInt8.toInt32) + (1 : Int32)).toInt8.toInt32), (.int (0 : Int32)), (.ref b6)]))
              refine own_bastore X7 hx hZ e7 A6 (j := (0 : Int32)) ⟨by decide, by omega⟩ rfl rfl (hb hby at_161) (fun T11 h11 X11 e11 W11 A11 => ?_)
              replace A1 := A1.other W11 ne_b1_b6
              replace G1 := G1.wr W11
              replace G2 := G2.wr W11
              replace A3 := A3.other W11 ne_b2_b6
              replace A5 := A5.wr W11
              replace F5_metadata := F5_metadata.other W11 (Or.inl ne_b4_b6)
              replace hz := Nat.le_trans hz (Nat.le_of_eq W11.size.symm)
              replace N := Fr.snoc X11 N g_b6
              replace A11 : own_Arr Z h11 b6 .byte n (fun i => if i = 0 then (.int (nar .byte ((nar .byte p2.toInt8.toInt32) + (1 : Int32)).toInt8.toInt32)) else (own_ms 3 p2 p3 p4) i) := A11
              show own_Run p e below _ (T11.setTop (mkF m 162 #[.val (.int p1), .val (.int p2), .val (.int p3), .val (.int p4), .val (.int p5), .val (.int (0 : Int32)), .val (.int u), .val (.ref b1), .val (.ref b2), .val (.ref b4), .val (.ref b6), .unset] []))
              exact J162 _ _ _ _ X11 e11 N hz A1 G1 G2 A3 A5 F5_metadata A11
            · refine own_go (fun _ kS => XS.ifYes X7.here hx rfl (pc0 := 148) (pc' := 162) rfl (hb hby at_148) rfl ((if0 _ _).trans (flt hc148).2.2.2) (by decide) (by decide) kS) ?_
              show own_Run p e below _ (T7.setTop (mkF m 162 #[.val (.int p1), .val (.int p2), .val (.int p3), .val (.int p4), .val (.int p5), .val (.int (0 : Int32)), .val (.int u), .val (.ref b1), .val (.ref b2), .val (.ref b4), .val (.ref b6), .unset] []))
              exact J162 _ _ _ _ X7 e7 N hz A1 G1 G2 A3 A5 F5_metadata A6
          · show own_Run p e below _ (T3.setTop (mkF m 72 #[.val (.int p1), .val (.int p2), .val (.int p3), .val (.int p4), .val (.int p5), .val (.int (1 : Int32)), .val (.int u), .val (.ref b1), .val (.ref b2), .unset, .unset, .unset] []))
            refine own_newO X3 hx hZ e3 hown (hw _ (List.mem_of_getElem? (i := 1) rfl)) (hw _ (List.mem_of_getElem? (i := 2) rfl)) (hw _ (List.mem_of_getElem? (i := 3) rfl)) rfl (hb hby at_72) (by decide) (by decide) (fun b12 T12 h12 gb12 X12 e12 E12 A12 D12 => ?_)
            have ne_b1_b12 : b1 ≠ b12 := Nat.ne_of_lt (Nat.lt_of_lt_of_le A1.lt (Nat.le_of_eq gb12.symm))
            have ne_b2_b12 : b2 ≠ b12 := Nat.ne_of_lt (Nat.lt_of_lt_of_le G2.lt (Nat.le_of_eq gb12.symm))
            have g_b12 : n0 ≤ b12 := Nat.le_trans hz (Nat.le_of_eq gb12.symm)
            replace A1 := A1.ext E12
            replace G1 := G1.ext E12
            replace G2 := G2.ext E12
            replace A3 := A3.ext E12
            replace hz := Nat.le_trans hz E12.1
            have F12_metadata : Fld Z h12 b12 "com/example/credence/credence/Payload" "metadata" "[B" .null := D12 (Or.inr (hw _ (List.mem_of_getElem? (i := 11) rfl))) (ty := (.array .byte)) (by decide)
            have F12_data : Fld Z h12 b12 "com/example/credence/credence/Payload" "data" "[B" .null := D12 (Or.inr (hw _ (List.mem_of_getElem? (i := 13) rfl))) (ty := (.array .byte)) (by decide)
            show own_Run p e below _ (T12.setTop (mkF m 75 #[.val (.int p1), .val (.int p2), .val (.int p3), .val (.int p4), .val (.int p5), .val (.int (1 : Int32)), .val (.int u), .val (.ref b1), .val (.ref b2), .unset, .unset, .unset] [(.ref b12)]))
            refine own_go (fun _ kS => XS.dup X12.here hx rfl (hb hby at_75) rfl rfl kS) ?_
            show own_Run p e below _ (T12.setTop (mkF m 76 #[.val (.int p1), .val (.int p2), .val (.int p3), .val (.int p4), .val (.int p5), .val (.int (1 : Int32)), .val (.int u), .val (.ref b1), .val (.ref b2), .unset, .unset, .unset] [(.ref b12), (.ref b12)]))
            refine own_go (fun _ kS => XS.iload X12.here hx rfl (hb hby at_76) rfl kS) ?_
            show own_Run p e below _ (T12.setTop (mkF m 78 #[.val (.int p1), .val (.int p2), .val (.int p3), .val (.int p4), .val (.int p5), .val (.int (1 : Int32)), .val (.int u), .val (.ref b1), .val (.ref b2), .unset, .unset, .unset] [(.int (1 : Int32)), (.ref b12), (.ref b12)]))
            refine own_go (fun _ kS => XS.ifNo X12.here hx rfl (hb hby at_78) rfl ((if0 _ _).trans (feq (show ¬ ((1 : Int32) = (0 : Int32)) from (by decide))).1) kS) ?_
            show own_Run p e below _ (T12.setTop (mkF m 81 #[.val (.int p1), .val (.int p2), .val (.int p3), .val (.int p4), .val (.int p5), .val (.int (1 : Int32)), .val (.int u), .val (.ref b1), .val (.ref b2), .unset, .unset, .unset] [(.ref b12), (.ref b12)]))
            refine own_go (fun _ kS => XS.aconstNull X12.here hx rfl (hb hby at_81) kS) ?_
            show own_Run p e below _ (T12.setTop (mkF m 82 #[.val (.int p1), .val (.int p2), .val (.int p3), .val (.int p4), .val (.int p5), .val (.int (1 : Int32)), .val (.int u), .val (.ref b1), .val (.ref b2), .unset, .unset, .unset] [.null, (.ref b12), (.ref b12)]))
            refine own_go (fun _ kS => XS.goto X12.here hx rfl (pc0 := 82) (pc' := 87) rfl (hb hby at_82) (by decide) (by decide) kS) ?_
            show own_Run p e below _ (T12.setTop (mkF m 87 #[.val (.int p1), .val (.int p2), .val (.int p3), .val (.int p4), .val (.int p5), .val (.int (1 : Int32)), .val (.int u), .val (.ref b1), .val (.ref b2), .unset, .unset, .unset] [.null, (.ref b12), (.ref b12)]))
            refine own_go (fun _ kS => XS.aload X12.here hx rfl (hb hby at_87) rfl rfl kS) ?_
            show own_Run p e below _ (T12.setTop (mkF m 89 #[.val (.int p1), .val (.int p2), .val (.int p3), .val (.int p4), .val (.int p5), .val (.int (1 : Int32)), .val (.int u), .val (.ref b1), .val (.ref b2), .unset, .unset, .unset] [(.ref b2), .null, (.ref b12), (.ref b12)]))
            refine own_callN X12 hx hZ e12 hown (⟨"com/example/credence/credence/Payload", "<init>", "([B[B)V"⟩ : MethodName) rfl (hw _ (List.mem_of_getElem? (i := 4) rfl)) (hw _ (List.mem_of_getElem? (i := 5) rfl)) (hw _ (List.mem_of_getElem? (i := 3) rfl)) (hw _ (List.mem_of_getElem? (i := 6) rfl)) (by decide) b12 [.null, (.ref b2)] [(.ref b12)] (rm_initN l Z a0 hw b12  b2 n0 h12 hz A12 g_b12 F12_metadata F12_data) (by decide) 1 (by decide) (by decide) (by decide) rfl (by rw [hml]; rfl) (lenOf own_pd0 rfl) rfl (by show 2 * 0 + _ ≤ _; exact Nat.le_of_eq rfl) (hb hby at_89) (fun v13 h13 L13 T13 Q13 X13 e13 => ?_)
            obtain ⟨rfl, Nq13, Kq13, A13, F13_metadata⟩ := Q13
            replace A1 := A1.keep Kq13 (ninS ne_b1_b12 nin0)
            replace G1 := G1.keep Kq13
            replace G2 := G2.keep Kq13
            replace A3 := A3.keep Kq13 (ninS ne_b2_b12 nin0)
            replace hz := Nat.le_trans hz Kq13.1
            replace N := N.app Nq13
            show own_Run p e below _ (T13.setTop (mkF m 92 #[.val (.int p1), .val (.int p2), .val (.int p3), .val (.int p4), .val (.int p5), .val (.int (1 : Int32)), .val (.int u), .val (.ref b1), .val (.ref b2), .unset, .unset, .unset] [(.ref b12)]))
            refine own_go (fun _ kS => XS.astore X13.here hx rfl (hb hby at_92) rfl rfl (l' := #[.val (.int p1), .val (.int p2), .val (.int p3), .val (.int p4), .val (.int p5), .val (.int (1 : Int32)), .val (.int u), .val (.ref b1), .val (.ref b2), .val (.ref b12), .unset, .unset]) rfl kS) ?_
            show own_Run p e below _ (T13.setTop (mkF m 94 #[.val (.int p1), .val (.int p2), .val (.int p3), .val (.int p4), .val (.int p5), .val (.int (1 : Int32)), .val (.int u), .val (.ref b1), .val (.ref b2), .val (.ref b12), .unset, .unset] []))
            refine own_go (fun _ kS => XS.aload X13.here hx rfl (hb hby at_94) rfl rfl kS) ?_
            show own_Run p e below _ (T13.setTop (mkF m 96 #[.val (.int p1), .val (.int p2), .val (.int p3), .val (.int p4), .val (.int p5), .val (.int (1 : Int32)), .val (.int u), .val (.ref b1), .val (.ref b2), .val (.ref b12), .unset, .unset] [(.ref b12)]))
            refine own_callV X13 hx hZ e13 hown (⟨"com/example/credence/credence/Payload", "metadata", "()[B"⟩ : MethodName) (hw _ (List.mem_of_getElem? (i := 14) rfl)) (hw _ (List.mem_of_getElem? (i := 15) rfl)) (hw _ (List.mem_of_getElem? (i := 17) rfl)) (hw _ (List.mem_of_getElem? (i := 16) rfl)) (hw _ (List.mem_of_getElem? (i := 3) rfl)) (hw _ (List.mem_of_getElem? (i := 18) rfl)) (by decide) b12 A13 [] [] (rm_metaN l Z a0 hw b12 h13 F13_metadata) (by decide) 0 (by decide) (by decide) (by decide) rfl (by rw [hml]; rfl) (lenOf own_pd1 rfl) rfl (by show 2 * 0 + _ ≤ _; exact Nat.le_of_eq rfl) (hb hby at_96) (fun v14 h14 L14 T14 Q14 X14 e14 => ?_)
            obtain ⟨rfl, rfl, rfl⟩ := Q14
            replace N := N.app (Fr.nil n0)
            show own_Run p e below _ (T14.setTop (mkF m 99 #[.val (.int p1), .val (.int p2), .val (.int p3), .val (.int p4), .val (.int p5), .val (.int (1 : Int32)), .val (.int u), .val (.ref b1), .val (.ref b2), .val (.ref b12), .unset, .unset] [.null]))
            refine own_go (fun _ kS => XS.astore X14.here hx rfl (hb hby at_99) rfl rfl (l' := #[.val (.int p1), .val (.int p2), .val (.int p3), .val (.int p4), .val (.int p5), .val (.int (1 : Int32)), .val (.int u), .val (.ref b1), .val (.ref b2), .val (.ref b12), .val .null, .unset]) rfl kS) ?_
            show own_Run p e below _ (T14.setTop (mkF m 101 #[.val (.int p1), .val (.int p2), .val (.int p3), .val (.int p4), .val (.int p5), .val (.int (1 : Int32)), .val (.int u), .val (.ref b1), .val (.ref b2), .val (.ref b12), .val .null, .unset] []))
            refine own_go (fun _ kS => XS.iload X14.here hx rfl (hb hby at_101) rfl kS) ?_
            show own_Run p e below _ (T14.setTop (mkF m 103 #[.val (.int p1), .val (.int p2), .val (.int p3), .val (.int p4), .val (.int p5), .val (.int (1 : Int32)), .val (.int u), .val (.ref b1), .val (.ref b2), .val (.ref b12), .val .null, .unset] [(.int (1 : Int32))]))
            refine own_go (fun _ kS => XS.ifNo X14.here hx rfl (hb hby at_103) rfl ((if0 _ _).trans (feq (show ¬ ((1 : Int32) = (0 : Int32)) from (by decide))).1) kS) ?_
            show own_Run p e below _ (T14.setTop (mkF m 106 #[.val (.int p1), .val (.int p2), .val (.int p3), .val (.int p4), .val (.int p5), .val (.int (1 : Int32)), .val (.int u), .val (.ref b1), .val (.ref b2), .val (.ref b12), .val .null, .unset] []))
            refine own_go (fun _ kS => XS.aload X14.here hx rfl (hb hby at_106) rfl rfl kS) ?_
            show own_Run p e below _ (T14.setTop (mkF m 108 #[.val (.int p1), .val (.int p2), .val (.int p3), .val (.int p4), .val (.int p5), .val (.int (1 : Int32)), .val (.int u), .val (.ref b1), .val (.ref b2), .val (.ref b12), .val .null, .unset] [.null]))
            refine own_go (fun _ kS => XS.ifnonnullNo X14.here hx rfl (hb hby at_108) rfl kS) ?_
            show own_Run p e below _ (T14.setTop (mkF m 111 #[.val (.int p1), .val (.int p2), .val (.int p3), .val (.int p4), .val (.int p5), .val (.int (1 : Int32)), .val (.int u), .val (.ref b1), .val (.ref b2), .val (.ref b12), .val .null, .unset] []))
            refine own_go (fun _ kS => XS.iconst X14.here hx rfl (hb hby at_111) kS) ?_
            show own_Run p e below _ (T14.setTop (mkF m 112 #[.val (.int p1), .val (.int p2), .val (.int p3), .val (.int p4), .val (.int p5), .val (.int (1 : Int32)), .val (.int u), .val (.ref b1), .val (.ref b2), .val (.ref b12), .val .null, .unset] [(.int (1 : Int32))]))
            refine own_go (fun _ kS => XS.goto X14.here hx rfl (pc0 := 112) (pc' := 116) rfl (hb hby at_112) (by decide) (by decide) kS) ?_
            show own_Run p e below _ (T14.setTop (mkF m 116 #[.val (.int p1), .val (.int p2), .val (.int p3), .val (.int p4), .val (.int p5), .val (.int (1 : Int32)), .val (.int u), .val (.ref b1), .val (.ref b2), .val (.ref b12), .val .null, .unset] [(.int (1 : Int32))]))
            refine own_retN X14 hx (t := .boolean) hret hlk (by simp) (hb hby at_116) (by decide) (by decide) ?_
            exact ⟨rfl, N⟩
        by_cases hc52 : (2 : Int32) < u
        · refine own_go (fun _ kS => XS.icmpNo X_49.here hx rfl (hb hby at_52) rfl (tlt hc52).2.2.2 kS) ?_
          show own_Run p e below _ (T_49.setTop (mkF m 55 #[.val (.int p1), .val (.int p2), .val (.int p3), .val (.int p4), .val (.int p5), .val (.int ab), .val (.int u), .val (.ref b1), .unset, .unset, .unset, .unset] []))
          refine own_go (fun _ kS => XS.aload X_49.here hx rfl (hb hby at_55) rfl rfl kS) ?_
          show own_Run p e below _ (T_49.setTop (mkF m 57 #[.val (.int p1), .val (.int p2), .val (.int p3), .val (.int p4), .val (.int p5), .val (.int ab), .val (.int u), .val (.ref b1), .unset, .unset, .unset, .unset] [(.ref b1)]))
          refine own_go (fun _ kS => XS.iconst X_49.here hx rfl (hb hby at_57) kS) ?_
          show own_Run p e below _ (T_49.setTop (mkF m 58 #[.val (.int p1), .val (.int p2), .val (.int p3), .val (.int p4), .val (.int p5), .val (.int ab), .val (.int u), .val (.ref b1), .unset, .unset, .unset, .unset] [(.int (2 : Int32)), (.ref b1)]))
          refine own_go (fun _ kS => XS.iloadN X_49.here hx rfl (hb hby at_58) rfl kS) ?_
          show own_Run p e below _ (T_49.setTop (mkF m 59 #[.val (.int p1), .val (.int p2), .val (.int p3), .val (.int p4), .val (.int p5), .val (.int ab), .val (.int u), .val (.ref b1), .unset, .unset, .unset, .unset] [(.int p4), (.int (2 : Int32)), (.ref b1)]))
          refine own_go (fun _ kS => XS.i2b X_49.here hx rfl (hb hby at_59) rfl kS) ?_
          show own_Run p e below _ (T_49.setTop (mkF m 60 #[.val (.int p1), .val (.int p2), .val (.int p3), .val (.int p4), .val (.int p5), .val (.int ab), .val (.int u), .val (.ref b1), .unset, .unset, .unset, .unset] [(.int p4.toInt8.toInt32), (.int (2 : Int32)), (.ref b1)]))
          refine own_bastore X_49 hx hZ e_49 A1 (j := (2 : Int32)) ⟨by decide, by have w := hc52; rw [Int32.lt_iff_toInt_lt] at w; have zz : (2 : Int32).toInt = 2 := rfl; omega⟩ rfl rfl (hb hby at_60) (fun T15 h15 X15 e15 W15 A15 => ?_)
          replace G1 := G1.wr W15
          replace hz := Nat.le_trans hz (Nat.le_of_eq W15.size.symm)
          replace N := Fr.snoc X15 N g_b1
          replace A15 : own_Arr Z h15 b1 .byte n (fun i => if i = 2 then (.int (nar .byte p4.toInt8.toInt32)) else (own_ms 2 p2 p3 p4) i) := A15
          show own_Run p e below _ (T15.setTop (mkF m 61 #[.val (.int p1), .val (.int p2), .val (.int p3), .val (.int p4), .val (.int p5), .val (.int ab), .val (.int u), .val (.ref b1), .unset, .unset, .unset, .unset] []))
          exact J61  _ _ _ X15 e15 N hz (A15.congr (fun k _ => own_mst2 p2 p3 p4 k)) G1
        · refine own_go (fun _ kS => XS.icmpYes X_49.here hx rfl (pc0 := 52) (pc' := 61) rfl (hb hby at_52) rfl (flt hc52).2.2.2 (by decide) (by decide) kS) ?_
          show own_Run p e below _ (T_49.setTop (mkF m 61 #[.val (.int p1), .val (.int p2), .val (.int p3), .val (.int p4), .val (.int p5), .val (.int ab), .val (.int u), .val (.ref b1), .unset, .unset, .unset, .unset] []))
          exact J61  _ _ _ X_49 e_49 N hz (A1.congr (fun k hk => own_msn 2 p2 p3 p4 k (by have w := hc52; rw [Int32.lt_iff_toInt_lt] at w; omega))) G1
      by_cases hc40 : (1 : Int32) < u
      · refine own_go (fun _ kS => XS.icmpNo X_37.here hx rfl (hb hby at_40) rfl (tlt hc40).2.2.2 kS) ?_
        show own_Run p e below _ (T_37.setTop (mkF m 43 #[.val (.int p1), .val (.int p2), .val (.int p3), .val (.int p4), .val (.int p5), .val (.int ab), .val (.int u), .val (.ref b1), .unset, .unset, .unset, .unset] []))
        refine own_go (fun _ kS => XS.aload X_37.here hx rfl (hb hby at_43) rfl rfl kS) ?_
        show own_Run p e below _ (T_37.setTop (mkF m 45 #[.val (.int p1), .val (.int p2), .val (.int p3), .val (.int p4), .val (.int p5), .val (.int ab), .val (.int u), .val (.ref b1), .unset, .unset, .unset, .unset] [(.ref b1)]))
        refine own_go (fun _ kS => XS.iconst X_37.here hx rfl (hb hby at_45) kS) ?_
        show own_Run p e below _ (T_37.setTop (mkF m 46 #[.val (.int p1), .val (.int p2), .val (.int p3), .val (.int p4), .val (.int p5), .val (.int ab), .val (.int u), .val (.ref b1), .unset, .unset, .unset, .unset] [(.int (1 : Int32)), (.ref b1)]))
        refine own_go (fun _ kS => XS.iloadN X_37.here hx rfl (hb hby at_46) rfl kS) ?_
        show own_Run p e below _ (T_37.setTop (mkF m 47 #[.val (.int p1), .val (.int p2), .val (.int p3), .val (.int p4), .val (.int p5), .val (.int ab), .val (.int u), .val (.ref b1), .unset, .unset, .unset, .unset] [(.int p3), (.int (1 : Int32)), (.ref b1)]))
        refine own_go (fun _ kS => XS.i2b X_37.here hx rfl (hb hby at_47) rfl kS) ?_
        show own_Run p e below _ (T_37.setTop (mkF m 48 #[.val (.int p1), .val (.int p2), .val (.int p3), .val (.int p4), .val (.int p5), .val (.int ab), .val (.int u), .val (.ref b1), .unset, .unset, .unset, .unset] [(.int p3.toInt8.toInt32), (.int (1 : Int32)), (.ref b1)]))
        refine own_bastore X_37 hx hZ e_37 A1 (j := (1 : Int32)) ⟨by decide, by have w := hc40; rw [Int32.lt_iff_toInt_lt] at w; have zz : (1 : Int32).toInt = 1 := rfl; omega⟩ rfl rfl (hb hby at_48) (fun T16 h16 X16 e16 W16 A16 => ?_)
        replace G1 := G1.wr W16
        replace hz := Nat.le_trans hz (Nat.le_of_eq W16.size.symm)
        replace N := Fr.snoc X16 N g_b1
        replace A16 : own_Arr Z h16 b1 .byte n (fun i => if i = 1 then (.int (nar .byte p3.toInt8.toInt32)) else (own_ms 1 p2 p3 p4) i) := A16
        show own_Run p e below _ (T16.setTop (mkF m 49 #[.val (.int p1), .val (.int p2), .val (.int p3), .val (.int p4), .val (.int p5), .val (.int ab), .val (.int u), .val (.ref b1), .unset, .unset, .unset, .unset] []))
        exact J49  _ _ _ X16 e16 N hz (A16.congr (fun k _ => own_mst1 p2 p3 p4 k)) G1
      · refine own_go (fun _ kS => XS.icmpYes X_37.here hx rfl (pc0 := 40) (pc' := 49) rfl (hb hby at_40) rfl (flt hc40).2.2.2 (by decide) (by decide) kS) ?_
        show own_Run p e below _ (T_37.setTop (mkF m 49 #[.val (.int p1), .val (.int p2), .val (.int p3), .val (.int p4), .val (.int p5), .val (.int ab), .val (.int u), .val (.ref b1), .unset, .unset, .unset, .unset] []))
        exact J49  _ _ _ X_37 e_37 N hz (A1.congr (fun k hk => own_msn 1 p2 p3 p4 k (by have w := hc40; rw [Int32.lt_iff_toInt_lt] at w; omega))) G1
    by_cases hc28 : (0 : Int32) < u
    · refine own_go (fun _ kS => XS.ifNo X1.here hx rfl (hb hby at_28) rfl ((if0 _ _).trans (tlt hc28).2.2.2) kS) ?_
      show own_Run p e below _ (T1.setTop (mkF m 31 #[.val (.int p1), .val (.int p2), .val (.int p3), .val (.int p4), .val (.int p5), .val (.int ab), .val (.int u), .val (.ref b1), .unset, .unset, .unset, .unset] []))
      refine own_go (fun _ kS => XS.aload X1.here hx rfl (hb hby at_31) rfl rfl kS) ?_
      show own_Run p e below _ (T1.setTop (mkF m 33 #[.val (.int p1), .val (.int p2), .val (.int p3), .val (.int p4), .val (.int p5), .val (.int ab), .val (.int u), .val (.ref b1), .unset, .unset, .unset, .unset] [(.ref b1)]))
      refine own_go (fun _ kS => XS.iconst X1.here hx rfl (hb hby at_33) kS) ?_
      show own_Run p e below _ (T1.setTop (mkF m 34 #[.val (.int p1), .val (.int p2), .val (.int p3), .val (.int p4), .val (.int p5), .val (.int ab), .val (.int u), .val (.ref b1), .unset, .unset, .unset, .unset] [(.int (0 : Int32)), (.ref b1)]))
      refine own_go (fun _ kS => XS.iloadN X1.here hx rfl (hb hby at_34) rfl kS) ?_
      show own_Run p e below _ (T1.setTop (mkF m 35 #[.val (.int p1), .val (.int p2), .val (.int p3), .val (.int p4), .val (.int p5), .val (.int ab), .val (.int u), .val (.ref b1), .unset, .unset, .unset, .unset] [(.int p2), (.int (0 : Int32)), (.ref b1)]))
      refine own_go (fun _ kS => XS.i2b X1.here hx rfl (hb hby at_35) rfl kS) ?_
      show own_Run p e below _ (T1.setTop (mkF m 36 #[.val (.int p1), .val (.int p2), .val (.int p3), .val (.int p4), .val (.int p5), .val (.int ab), .val (.int u), .val (.ref b1), .unset, .unset, .unset, .unset] [(.int p2.toInt8.toInt32), (.int (0 : Int32)), (.ref b1)]))
      refine own_bastore X1 hx hZ e1 A1 (j := (0 : Int32)) ⟨by decide, by have w := hc28; rw [Int32.lt_iff_toInt_lt] at w; have zz : (0 : Int32).toInt = 0 := rfl; omega⟩ rfl rfl (hb hby at_36) (fun T17 h17 X17 e17 W17 A17 => ?_)
      replace G1 := G1.wr W17
      replace hz := Nat.le_trans hz (Nat.le_of_eq W17.size.symm)
      replace N := Fr.snoc X17 N g_b1
      replace A17 : own_Arr Z h17 b1 .byte n (fun i => if i = 0 then (.int (nar .byte p2.toInt8.toInt32)) else (own_ms 0 p2 p3 p4) i) := A17
      show own_Run p e below _ (T17.setTop (mkF m 37 #[.val (.int p1), .val (.int p2), .val (.int p3), .val (.int p4), .val (.int p5), .val (.int ab), .val (.int u), .val (.ref b1), .unset, .unset, .unset, .unset] []))
      exact J37  _ _ _ X17 e17 N hz (A17.congr (fun k _ => own_mst0 p2 p3 p4 k)) G1
    · refine own_go (fun _ kS => XS.ifYes X1.here hx rfl (pc0 := 28) (pc' := 37) rfl (hb hby at_28) rfl ((if0 _ _).trans (flt hc28).2.2.2) (by decide) (by decide) kS) ?_
      show own_Run p e below _ (T1.setTop (mkF m 37 #[.val (.int p1), .val (.int p2), .val (.int p3), .val (.int p4), .val (.int p5), .val (.int ab), .val (.int u), .val (.ref b1), .unset, .unset, .unset, .unset] []))
      exact J37  _ _ _ X1 e1 N hz (A1.congr (fun k hk => own_msn 0 p2 p3 p4 k (by have w := hc28; rw [Int32.lt_iff_toInt_lt] at w; omega))) G1
  by_cases hc3 : (p1 &&& (1 : Int32)) = (0 : Int32)
  · refine own_go (fun _ kS => XS.ifYes X.here hx rfl (pc0 := 3) (pc' := 10) rfl (hb hby at_3) rfl ((if0 _ _).trans (teq hc3).1) (by decide) (by decide) kS) ?_
    show own_Run p e below _ (T.setTop (mkF m 10 #[.val (.int p1), .val (.int p2), .val (.int p3), .val (.int p4), .val (.int p5), .unset, .unset, .unset, .unset, .unset, .unset, .unset] []))
    refine own_go (fun _ kS => XS.iconst X.here hx rfl (hb hby at_10) kS) ?_
    show own_Run p e below _ (T.setTop (mkF m 11 #[.val (.int p1), .val (.int p2), .val (.int p3), .val (.int p4), .val (.int p5), .unset, .unset, .unset, .unset, .unset, .unset, .unset] [(.int (0 : Int32))]))
    refine own_go (fun _ kS => XS.istore X.here hx rfl (hb hby at_11) rfl (l' := #[.val (.int p1), .val (.int p2), .val (.int p3), .val (.int p4), .val (.int p5), .val (.int (0 : Int32)), .unset, .unset, .unset, .unset, .unset, .unset]) rfl kS) ?_
    show own_Run p e below _ (T.setTop (mkF m 13 #[.val (.int p1), .val (.int p2), .val (.int p3), .val (.int p4), .val (.int p5), .val (.int (0 : Int32)), .unset, .unset, .unset, .unset, .unset, .unset] []))
    exact J13 _ (by first | exact Or.inl rfl | exact Or.inr rfl)
  · refine own_go (fun _ kS => XS.ifNo X.here hx rfl (hb hby at_3) rfl ((if0 _ _).trans (feq hc3).1) kS) ?_
    show own_Run p e below _ (T.setTop (mkF m 6 #[.val (.int p1), .val (.int p2), .val (.int p3), .val (.int p4), .val (.int p5), .unset, .unset, .unset, .unset, .unset, .unset, .unset] []))
    refine own_go (fun _ kS => XS.iconst X.here hx rfl (hb hby at_6) kS) ?_
    show own_Run p e below _ (T.setTop (mkF m 7 #[.val (.int p1), .val (.int p2), .val (.int p3), .val (.int p4), .val (.int p5), .unset, .unset, .unset, .unset, .unset, .unset, .unset] [(.int (1 : Int32))]))
    refine own_go (fun _ kS => XS.goto X.here hx rfl (pc0 := 7) (pc' := 11) rfl (hb hby at_7) (by decide) (by decide) kS) ?_
    show own_Run p e below _ (T.setTop (mkF m 11 #[.val (.int p1), .val (.int p2), .val (.int p3), .val (.int p4), .val (.int p5), .unset, .unset, .unset, .unset, .unset, .unset, .unset] [(.int (1 : Int32))]))
    refine own_go (fun _ kS => XS.istore X.here hx rfl (hb hby at_11) rfl (l' := #[.val (.int p1), .val (.int p2), .val (.int p3), .val (.int p4), .val (.int p5), .val (.int (1 : Int32)), .unset, .unset, .unset, .unset, .unset, .unset]) rfl kS) ?_
    show own_Run p e below _ (T.setTop (mkF m 13 #[.val (.int p1), .val (.int p2), .val (.int p3), .val (.int p4), .val (.int p5), .val (.int (1 : Int32)), .unset, .unset, .unset, .unset, .unset, .unset] []))
    exact J13 _ (by first | exact Or.inl rfl | exact Or.inr rfl)
set_option maxRecDepth 65536 in
set_option maxHeartbeats 40000000 in
theorem own_comes_1 {Post : Tables → Env → Array Value → State → Outcome → State → Prop} (hpost : ∀ tb e args s v u, (limb_1_1.after args s (.returned v) u = true ∧ limb_1_2.after args s (.returned v) u = true) → FrameEnd s (.returned v) u (Jvm.fieldLocs frame_1_writes args s ++ Jvm.arrayLocs frame_1_arrays args s ++ Jvm.staticLocs frame_1_statics s) 24 128 → Post tb e args s (.returned v) u) :
    ArmFor flags0 classFile x code maxLocals ret World_1 tables_1 room_1 Calls_1 rest_1 Pre_1 Post := by
  intro l hfl _ _ p e ha hc hk s m args below hf hA hF happ hP
  obtain ⟨hcalls, hrest, hpre⟩ := hP
  obtain ⟨-, -, -, hnamed, -, -, -, hat⟩ := (Spec.applies_iff hf).mp happ
  obtain ⟨hg, hn⟩ := and_e (Cond.before_iff.mp (show (Jvm.Cond.and given_1 narrow_1).before args s = true from hpre))
  obtain ⟨g0, hg⟩ := and_e hg
  obtain ⟨k0, hg⟩ := and_e hg
  obtain ⟨k1, hg⟩ := and_e hg
  obtain ⟨k2, hg⟩ := and_e hg
  obtain ⟨k3, hg⟩ := and_e hg
  have k4 := hg
  obtain ⟨w0, w1, w2, w3, w4, rfl⟩ : ∃ w0 w1 w2 w3 w4 : Value, args = #[w0, w1, w2, w3, w4] := by
    have hs : args.size = 5 := by simpa [Cond.value, given_1] using g0
    obtain ⟨L⟩ := args
    match L, hs with
    | [w0, w1, w2, w3, w4], _ => exact ⟨w0, w1, w2, w3, w4, rfl⟩
  have hw := fun d (hd : d ∈ tables_1) => atoms_spec (ws := Jvm.Cond.code x code maxLocals ret :: tables_1) hat d (List.mem_cons_of_mem _ hd)
  obtain ⟨i0, ei0⟩ := is_v k0
  obtain rfl : w0 = (.int i0) := Option.some.inj ei0
  obtain ⟨i1, ei1⟩ := is_v k1
  obtain rfl : w1 = (.int i1) := Option.some.inj ei1
  obtain ⟨i2, ei2⟩ := is_v k2
  obtain rfl : w2 = (.int i2) := Option.some.inj ei2
  obtain ⟨i3, ei3⟩ := is_v k3
  obtain rfl : w3 = (.int i3) := Option.some.inj ei3
  obtain ⟨i4, ei4⟩ := is_v k4
  obtain rfl : w4 = (.int i4) := Option.some.inj ei4
  obtain ⟨n, o, h1, h2, h3, _, L, rfl, ⟨rfl, N⟩, hq⟩ := rm_law l s _ hw i0 i1 i2 i3 i4 s.heap.size s.heap (Nat.le_refl _) tables_1 p e ha hc hk s m _ below hf ((Spec.applies_iff_loose hf).mp happ).1 ⟨rfl, State.Warmed39.refl s, rfl⟩ trivial
  refine ⟨n, _, h1, h2, h3, hpost _ _ _ _ _ _ ⟨Cond.after_iff.mpr rfl, Cond.after_iff.mpr (eq_i res_at (Term.int_eval (1)) rfl)⟩ ⟨hq.1, hq.2.1, (hq.2.2.sift fun y hy => Or.inr (N y hy)).mono (by decide) (by decide)⟩⟩
theorem main_1_1 : Claimed_1_1 := own_comes_1 fun _ _ _ _ _ _ h hF => ⟨h.1, hF⟩
theorem main_1_2 : Claimed_1_2 := own_comes_1 fun _ _ _ _ _ _ h hF => ⟨h.2, hF⟩
end Jvm.Pilot.@@N@@
namespace Jvm.Pilot.@@N@@
open Jvm Jvm.ClassFile Sem Op Lib Jvm.Free Jvm.Stand Jvm.Pilot.@@N@@.Jvm.D
/-! MADE BY PROGRAM (witnessworld.py) out of the Statement's table words and the real class files: 9 classes; the members and pool entries that the words name. The judged class is class 1, her method 2. -/
namespace start1
open Jvm.ClassFile
def u (s : String) : CpInfo := .utf8 (stringToUtf16 s)
/-- a pool by its gaps: so many unusable entries, then the entry; so many at the end -/
def gap : Nat → List CpInfo → List CpInfo
  | 0, r => r
  | n + 1, r => .unusable :: gap n r
def poolList (es : List (Nat × CpInfo)) (last : Nat) : List CpInfo := es.foldr (fun e r => gap e.1 (e.2 :: r)) (gap last [])
def pool (es : List (Nat × CpInfo)) (last : Nat) : Array CpInfo := ⟨poolList es last⟩
def fileOf (pool : Array CpInfo) (this : Nat) (attrs : Array Attribute := #[]) (ms : Array MethodInfo := #[]) (fl : Nat := 33) (sup : Nat := 0) (ifs : Array Nat := #[]) (fds : Array FieldInfo := #[]) : ClassFile where
  minorVersion := 0
  majorVersion := 65
  constantPool := pool
  accessFlags := fl
  thisClass := this
  superClass := sup
  interfaces := ifs
  fields := fds
  methods := ms
  attributes := attrs
def plain (name : String) (sup : Option ClassId) : Class where
  name := name
  kind := .ordinary
  loader := none
  accessFlags := 33
  super := sup
  interfaces := #[]
  cf := none
  fields := #[]
  methods := #[]
  instanceTypes := #[]
  staticTypes := #[]
  resolved := #[]
  callSites := []
  init := .initialized
  statics := none
  mirror := none

def pool0 : Array CpInfo := pool [(5, u "<init>"), (0, u "()V"), (1, .class_ 10), (1, u "java/lang/Object"), (85, u "clone"), (0, u "()Ljava/lang/Object;")] 26

def k0c0 : Code := { maxStack := 0, maxLocals := 1, code := object_method_1_code, exceptionTable := #[], attributes := #[] }
def k0m0 : Method := { name := "<init>", desc := "()V", sig := { parameters := [], returnType := none }, accessFlags := 1, code := some k0c0 }
def k0m1 : Method := { name := "clone", desc := "()Ljava/lang/Object;", sig := { parameters := [], returnType := some (.object "java/lang/Object") }, accessFlags := 260, code := none }
/-- java/lang/Object -/
def k0 : Class := { plain "java/lang/Object" none with
  accessFlags := 33
  interfaces := #[]
  cf := some (fileOf pool0 8 #[] #[{ accessFlags := 1, nameIndex := 5, descriptorIndex := 6, attributes := #[] }, { accessFlags := 260, nameIndex := 96, descriptorIndex := 97, attributes := #[] }] 33 0 #[] #[])
  fields := #[]
  methods := #[k0m0, k0m1]
  instanceTypes := #[]
  staticTypes := #[]
  resolved := Array.replicate 124 none
  statics := none }

def pool1 : Array CpInfo := pool [(2, .class_ 4), (1, u "java/lang/Object"), (0, u "<init>"), (0, u "()V"), (0, .class_ 8), (0, u "com/example/credence/credence/Payload"), (0, .methodref 7 10), (0, .nameAndType 5 11), (0, u "([B[B)V"), (0, .methodref 7 13), (0, .nameAndType 14 15), (0, u "metadata"), (0, u "()[B"), (0, .methodref 17 18), (0, .class_ 19), (0, .nameAndType 20 21), (0, u "com/example/credence/credence/PayloadMetadataPinLaw"), (0, u "same"), (0, u "([BIIII)Z"), (3, u "law"), (0, u "(IIIII)Z")] 4

def k1m0 : Method := { name := "<init>", desc := "()V", sig := { parameters := [], returnType := none }, accessFlags := 1, code := none }
def k1c1 : Code := { maxStack := 2, maxLocals := 5, code := method_2_code, exceptionTable := #[], attributes := #[] }
def k1m1 : Method := { name := "same", desc := "([BIIII)Z", sig := { parameters := [(.array .byte), .int, .int, .int, .int], returnType := some .boolean }, accessFlags := 10, code := some k1c1 }
def k1c2 : Code := { maxStack := 5, maxLocals := 12, code := code, exceptionTable := #[], attributes := #[] }
def k1m2 : Method := { name := "law", desc := "(IIIII)Z", sig := { parameters := [.int, .int, .int, .int, .int], returnType := some .boolean }, accessFlags := 9, code := some k1c2 }
/-- com/example/credence/credence/PayloadMetadataPinLaw -/
def k1 : Class := { plain "com/example/credence/credence/PayloadMetadataPinLaw" (some 0) with
  accessFlags := 49
  interfaces := #[]
  cf := some (fileOf pool1 17 #[] #[{ accessFlags := 1, nameIndex := 5, descriptorIndex := 6, attributes := #[] }, { accessFlags := 10, nameIndex := 20, descriptorIndex := 21, attributes := #[] }, { accessFlags := 9, nameIndex := 25, descriptorIndex := 26, attributes := #[] }] 49 2 #[] #[])
  fields := #[]
  methods := #[k1m0, k1m1, k1m2]
  instanceTypes := #[]
  staticTypes := #[]
  resolved := Array.replicate 31 none
  statics := none }

def pool2 : Array CpInfo := pool [(1, .methodref 2 3), (0, .class_ 4), (0, .nameAndType 5 6), (0, u "java/lang/Object"), (0, u "<init>"), (0, u "()V"), (0, .fieldref 8 9), (0, .class_ 10), (0, .nameAndType 11 12), (0, u "com/example/credence/credence/Payload"), (0, u "metadata"), (0, u "[B"), (0, .fieldref 8 14), (0, .nameAndType 15 12), (0, u "data"), (0, .methodref 17 18), (0, .class_ 12), (0, .nameAndType 19 20), (0, u "clone"), (0, u "()Ljava/lang/Object;"), (2, u "([B[B)V"), (22, u "()[B")] 9

def k2c0 : Code := { maxStack := 2, maxLocals := 3, code := prog_31_method_1_code, exceptionTable := #[], attributes := #[] }
def k2m0 : Method := { name := "<init>", desc := "([B[B)V", sig := { parameters := [(.array .byte), (.array .byte)], returnType := none }, accessFlags := 0, code := some k2c0 }
def k2c1 : Code := { maxStack := 1, maxLocals := 1, code := prog_31_method_8_code, exceptionTable := #[], attributes := #[] }
def k2m1 : Method := { name := "metadata", desc := "()[B", sig := { parameters := [], returnType := some (.array .byte) }, accessFlags := 1, code := some k2c1 }
/-- com/example/credence/credence/Payload -/
def k2 : Class := { plain "com/example/credence/credence/Payload" (some 0) with
  accessFlags := 49
  interfaces := #[]
  cf := some (fileOf pool2 8 #[] #[{ accessFlags := 0, nameIndex := 5, descriptorIndex := 23, attributes := #[] }, { accessFlags := 1, nameIndex := 11, descriptorIndex := 46, attributes := #[] }] 49 2 #[] #[{ accessFlags := 18, nameIndex := 11, descriptorIndex := 12, attributes := #[] }, { accessFlags := 18, nameIndex := 15, descriptorIndex := 12, attributes := #[] }])
  fields := #[{ name := "metadata", type := (.array .byte), accessFlags := 18, slot := 0, constantValue := 0 }, { name := "data", type := (.array .byte), accessFlags := 18, slot := 1, constantValue := 0 }]
  methods := #[k2m0, k2m1]
  instanceTypes := #[(.array .byte), (.array .byte)]
  staticTypes := #[]
  resolved := Array.replicate 56 none
  statics := none }

def pool3 : Array CpInfo := pool [(1, .class_ 2), (0, u "java/lang/Cloneable"), (0, .class_ 4), (0, u "java/lang/Object")] 2

/-- java/lang/Cloneable -/
def k3 : Class := { plain "java/lang/Cloneable" (some 0) with
  accessFlags := 1537
  interfaces := #[]
  cf := some (fileOf pool3 1 #[] #[] 1537 3 #[] #[])
  fields := #[]
  methods := #[]
  instanceTypes := #[]
  staticTypes := #[]
  resolved := Array.replicate 7 none
  statics := none }

def pool4 : Array CpInfo := pool [(1, u "java/io/Serializable"), (0, .class_ 1), (0, u "java/lang/Object"), (0, .class_ 3)] 3

/-- java/io/Serializable -/
def k4 : Class := { plain "java/io/Serializable" (some 0) with
  accessFlags := 1537
  interfaces := #[]
  cf := some (fileOf pool4 2 #[] #[] 1537 4 #[] #[])
  fields := #[]
  methods := #[]
  instanceTypes := #[]
  staticTypes := #[]
  resolved := Array.replicate 8 none
  statics := none }

/-- the primitive byte -/
def k5 : Class := { plain "byte" none with kind := .primitive 'B', accessFlags := 0x411 }
/-- [B -/
def k6 : Class := { plain "[B" (some 0) with kind := .array 5 .byte, interfaces := #[3, 4], accessFlags := 1041 }

/-- the primitive int -/
def k7 : Class := { plain "int" none with kind := .primitive 'I', accessFlags := 0x411 }
/-- [I -/
def k8 : Class := { plain "[I" (some 0) with kind := .array 7 .int, interfaces := #[3, 4], accessFlags := 1041 }

def heap : Heap := #[]
def classes : Array Class := #[k0, k1, k2, k3, k4, k5, k6, k7, k8]
def interned : List (Array UInt16 × Addr) := []
def slotsUsed : Nat := 0
def theMethod : MethodId := ⟨1, 2⟩
def args0 : Array Value := #[.int 5, .int 7, .int 3, .int 2, .int 9]
def aboutOver (below : List Frame) : State where
  vm := { classes := classes, interned := interned.toArray }
  heap := heap
  slotsUsed := slotsUsed
  threads := #[{ frames := .invoking theMethod args0 :: below }]
def below0 : List Frame := [.native { method := ⟨0, 0⟩, args := #[] }]
def about1 : State := aboutOver below0
def p0 : Program := .bare "" "" ""
def e0 : Env := launch0.env 0 0 0
theorem w_frames : about1.frames = Frame.invoking theMethod args0 :: below0 := rfl
set_option maxRecDepth 65536 in
theorem w_args : argsFit about1.vm theMethod args0 = true := by decide +kernel
set_option maxRecDepth 65536 in
theorem w_heap : heapFits about1 = true := by decide +kernel
set_option maxRecDepth 65536 in
theorem w_runnable : about1.curStatus? = some .runnable := by decide +kernel
set_option maxRecDepth 65536 in
theorem w_alone : about1.alone = true := by decide +kernel
set_option maxRecDepth 65536 in
theorem w_named : about1.methodNamed? x = some theMethod := by decide +kernel
set_option maxRecDepth 65536 in
theorem w_hears : about1.hears theMethod below0 = true := by decide +kernel
set_option maxRecDepth 65536 in
theorem w_ripe : about1.ripe theMethod args0 below0 = true := by decide +kernel
theorem w_running : about1.status = .running := rfl
set_option maxRecDepth 65536 in
theorem w_room : about1.hasRoom e0.platform room_1 = true :=
  launch0.hasRoom_least _ room_1 (by decide +kernel) (by decide +kernel) (by decide +kernel) (by decide +kernel) (by decide +kernel) (by decide +kernel)
theorem allAtoms_all (ts : List Jvm.Cond) (a : Array Jvm.Value) (st : Jvm.State) : (allAtoms ts).before a st = ts.all (fun c => c.before a st) := by
  induction ts with
  | nil => rfl
  | cons c t ih =>
    show (Jvm.Cond.and c (allAtoms t)).before a st = _
    rw [Jvm.Cond.before_and, ih, List.all_cons]
def words1 : List Jvm.Cond := Jvm.Cond.code x code maxLocals ret :: tables_1
/-- a 'code' word, met by the world's own term for the bytes: nothing is compared byte by byte -/
theorem code_word {y : MethodName} {bytes : ByteArray} {mx : Nat} {rt : Option FieldType} {a : Array Value} {s : State} {m : MethodId} {meth : Method} {c : Code} (h1 : s.methodNamed? y = some m) (h2 : s.vm.method? m = some meth) (h3 : meth.code = some c) (h4 : c.code = bytes)
    (h5 : (c.maxLocals == mx && c.exceptionTable.isEmpty && decide (c.maxStack ≤ mostOperands) && decide (meth.sig.returnType = rt) && !meth.locks && decide (parseMethodDescriptor y.desc = some meth.sig)) = true) : (Jvm.Cond.code y bytes mx rt).before a s = true := by
  simp only [Bool.and_eq_true, beq_iff_eq, Bool.not_eq_true', decide_eq_true_eq] at h5
  obtain ⟨⟨⟨⟨⟨g1, g2⟩, g3⟩, g4⟩, g5⟩, g6⟩ := h5
  simp [Cond.before, Cond.holds, Cond.value, h1, h2, h3, h4, g1, g2, g3, g4, g5, g6]
def isCode : Jvm.Cond → Bool
  | .code _ _ _ _ => true
  | _ => false
theorem all_split {L : List Jvm.Cond} {P : Jvm.Cond → Bool} (h1 : L.all (fun c => isCode c || P c) = true) (h2 : ∀ c ∈ L.filter isCode, P c = true) : L.all P = true := by
  refine List.all_eq_true.mpr fun c hc => ?_
  have h := List.all_eq_true.mp h1 c hc
  rcases Bool.eq_false_or_eq_true (isCode c) with hi | hi
  · exact h2 c (List.mem_filter.mpr ⟨hc, hi⟩)
  · simpa [hi] using h
set_option maxRecDepth 65536 in
theorem w_c0 : (Jvm.Cond.code x code maxLocals ret).before args0 about1 = true := code_word (m := ⟨1, 2⟩) (meth := k1m2) (c := k1c2) (by decide +kernel) rfl rfl rfl (by decide +kernel)
set_option maxRecDepth 65536 in
theorem w_c1 : (Jvm.Cond.code ({ cls := "com/example/credence/credence/Payload", name := "<init>", desc := "([B[B)V" } : Jvm.MethodName) prog_31_method_1_code (3 : Nat) (Option.none : Option Jvm.ClassFile.FieldType)).before args0 about1 = true := code_word (m := ⟨2, 0⟩) (meth := k2m0) (c := k2c0) (by decide +kernel) rfl rfl rfl (by decide +kernel)
set_option maxRecDepth 65536 in
theorem w_c2 : (Jvm.Cond.code ({ cls := "java/lang/Object", name := "<init>", desc := "()V" } : Jvm.MethodName) object_method_1_code (1 : Nat) (Option.none : Option Jvm.ClassFile.FieldType)).before args0 about1 = true := code_word (m := ⟨0, 0⟩) (meth := k0m0) (c := k0c0) (by decide +kernel) rfl rfl rfl (by decide +kernel)
set_option maxRecDepth 65536 in
theorem w_c3 : (Jvm.Cond.code ({ cls := "com/example/credence/credence/Payload", name := "metadata", desc := "()[B" } : Jvm.MethodName) prog_31_method_8_code (1 : Nat) (Option.some (Jvm.ClassFile.FieldType.array Jvm.ClassFile.FieldType.byte))).before args0 about1 = true := code_word (m := ⟨2, 1⟩) (meth := k2m1) (c := k2c1) (by decide +kernel) rfl rfl rfl (by decide +kernel)
set_option maxRecDepth 65536 in
theorem w_c4 : (Jvm.Cond.code ({ cls := "com/example/credence/credence/PayloadMetadataPinLaw", name := "same", desc := "([BIIII)Z" } : Jvm.MethodName) method_2_code (5 : Nat) (Option.some Jvm.ClassFile.FieldType.boolean)).before args0 about1 = true := code_word (m := ⟨1, 1⟩) (meth := k1m1) (c := k1c1) (by decide +kernel) rfl rfl rfl (by decide +kernel)
def codes1 : List Jvm.Cond := [Jvm.Cond.code x code maxLocals ret, Jvm.Cond.code ({ cls := "com/example/credence/credence/Payload", name := "<init>", desc := "([B[B)V" } : Jvm.MethodName) prog_31_method_1_code (3 : Nat) (Option.none : Option Jvm.ClassFile.FieldType), Jvm.Cond.code ({ cls := "java/lang/Object", name := "<init>", desc := "()V" } : Jvm.MethodName) object_method_1_code (1 : Nat) (Option.none : Option Jvm.ClassFile.FieldType), Jvm.Cond.code ({ cls := "com/example/credence/credence/Payload", name := "metadata", desc := "()[B" } : Jvm.MethodName) prog_31_method_8_code (1 : Nat) (Option.some (Jvm.ClassFile.FieldType.array Jvm.ClassFile.FieldType.byte)), Jvm.Cond.code ({ cls := "com/example/credence/credence/PayloadMetadataPinLaw", name := "same", desc := "([BIIII)Z" } : Jvm.MethodName) method_2_code (5 : Nat) (Option.some Jvm.ClassFile.FieldType.boolean)]
set_option maxRecDepth 65536 in
theorem codes_eq : words1.filter isCode = codes1 := rfl
theorem w_codes : ∀ c ∈ words1.filter isCode, c.before args0 about1 = true := by
  rw [codes_eq]
  intro c hc
  simp only [codes1, List.mem_cons, List.not_mem_nil, or_false] at hc
  rcases hc with rfl | rfl | rfl | rfl | rfl
  · exact w_c0
  · exact w_c1
  · exact w_c2
  · exact w_c3
  · exact w_c4
set_option maxRecDepth 65536 in
theorem w_t1 : (words1.take 24).all (fun c => isCode c || c.before args0 about1) = true := by decide +kernel
set_option maxRecDepth 65536 in
theorem w_t2 : (words1.drop 24).all (fun c => isCode c || c.before args0 about1) = true := by decide +kernel
theorem w_tables : (allAtoms (Jvm.Cond.code x code maxLocals ret :: tables_1)).before args0 about1 = true := by
  rw [allAtoms_all]
  show words1.all (fun c => c.before args0 about1) = true
  refine all_split ?_ w_codes
  rw [← List.take_append_drop 24 words1, List.all_append, w_t1, w_t2]
  rfl
set_option maxRecDepth 65536 in
theorem w_case : (Jvm.Cond.and given_1 narrow_1).before args0 about1 = true := by decide +kernel
theorem w_applies : (headSpec (Jvm.Cond.code x code maxLocals ret :: tables_1) room_1).applies x e0.platform about1 = true :=
  (Spec.applies_iff w_frames).mpr ⟨w_running, w_runnable, w_alone, w_named, w_hears, w_ripe, w_room, w_tables⟩
theorem atStart : AtStart classFile x code maxLocals ret World_1 tables_1 room_1 Calls_1 rest_1 Pre_1 launch0 p0 e0 about1 theMethod args0 below0 :=
  ⟨lists_1, trivial, launch0.admits_env _ _ _, launch0.least_env, fairChoices_fair.cas, fairChoices_fair.clock, w_frames, w_args, w_heap, w_applies, trivial, trivial, w_case⟩
end start1
theorem witness_1 : WitnessClaimed_1 := ⟨start1.p0, start1.e0, start1.about1, start1.theMethod, start1.args0, start1.below0, start1.atStart⟩
end Jvm.Pilot.@@N@@
