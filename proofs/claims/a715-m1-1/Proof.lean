import JvmDerived
import JvmDerived.Pilot.@@N@@Statement
import JvmDerived.Pilot.@@N@@Code
set_option linter.unusedVariables false
set_option linter.unusedSimpArgs false
namespace Jvm.Pilot.@@N@@
open Jvm Jvm.ClassFile Sem Op Lib Jvm.Free Jvm.Stand Jvm.LawKit Jvm.RoadKit Bundle Jvm.Pilot.@@N@@.Jvm.D
section OwnKit
variable {p : Program} {l : Launch} {e : Env} {R : Room} {s : State} {m : MethodId} {args : Array Value} {below : List Frame} {meth : Method} {c : Code} {T : State} {locs : List Loc} {cells slots : Nat} {Z : State} {a0 : Array Value} {h h' : Heap}
/-- the run from t on comes to the method's end, and there Fin holds -/
def own_Run (p : Program) (e : Env) (below : List Frame) (Fin : Outcome → State → Prop) (t : State) : Prop :=
  ∃ s₂ o, Steps p.tables e below t s₂ ∧ s₂.status = .running ∧ Ended s₂ below o ∧ Fin o s₂
variable {Fin : Outcome → State → Prop}
theorem own_go {t t' : State} (st : ∀ target, Steps p.tables e below t' target → Steps p.tables e below t target) (k : own_Run p e below Fin t') : own_Run p e below Fin t := by
  obtain ⟨s₂, o, h1, h2⟩ := k
  exact ⟨s₂, o, st _ h1, h2⟩
def own_End (s : State) (R : Room) (Q : Option Value → Heap → List Loc → Prop) (o : Outcome) (U : State) : Prop :=
  ∃ v L, o = .returned v ∧ Q v U.heap L ∧ FrameEnd s o U L R.cells R.slots
/-- a body's contract: called with these arguments over the heap h0 it returns, and Q says what is left -/
def own_Met (l : Launch) (Z : State) (y : MethodName) (bytes : ByteArray) (maxL : Nat) (ret : Option FieldType) (rm : Room) (as : Array Value) (h0 : Heap) (Q : Option Value → Heap → List Loc → Prop) : Prop :=
  ∀ ws : List Jvm.Cond, MetFree l y (head1 (Jvm.Cond.code y bytes maxL ret :: ws) rm) (fun a U => a = as ∧ Z.Warmed39 U.vm ∧ U.heap = h0) (fun _ _ _ _ _ => True) (fun _ U o U' => own_End U rm Q o U')
theorem own_enter {y : MethodName} {bytes : ByteArray} {maxL : Nat} {ret : Option FieldType} {rm : Room} {as : Array Value} {h0 : Heap} {Q : Option Value → Heap → List Loc → Prop} {g0 : MethodId → JFrame} (hpl : plainFor y = true) (hg0 : ∀ m, entryFrame m as maxL = g0 m)
    (body : ∀ (p : Program) (e : Env) (s : State) (m : MethodId) (below : List Frame) (meth : Method) (c : Code) (T : State), p.tables.exec = Jvm.exec → c.code = bytes → c.maxLocals = maxL → s.vm.findClass y.cls = some m.cls → meth.name = y.name → Z.Warmed39 s.vm → meth.sig.returnType = ret → meth.locks = false →
      Stand p l e rm s m as below meth c T [] 0 0 → T.heap = h0 → own_Run p e below (own_End s rm Q) (T.setTop (g0 m))) : own_Met l Z y bytes maxL ret rm as h0 Q := by
  intro ws
  refine MetFree.of_bodySF hpl hisR ?_
  intro p e s m args below meth c s₁ Bd hml0 hP hK
  obtain ⟨rfl, hZ, hh⟩ := hP
  rw [hg0]
  exact body p e s m below meth c s₁ Bd.exec Bd.bytes hml0 (findClass_of_methodNamed Bd.named) (name_of_methodNamed Bd.named Bd.method).1 hZ Bd.returns Bd.notSynchronized (Stand.of_body Bd) (by rw [← hh, Bd.state]; rfl)
theorem own_ret (X : Stand p l e R s m args below meth c T locs cells slots) {g : JFrame} {v : Option Value} {Q : Option Value → Heap → List Loc → Prop} (hv : meth.sig.returnType = none → v = none) (hlk : meth.locks = false) (hc : cells ≤ R.cells) (hs : slots ≤ R.slots)
    (st : ∀ fs, (∀ (f : JFrame) (acts : List Action), f.method = m → f.locked = none → f.entered = [] → (doReturn e (T.setTop f) acts v).1 = T.setFrames fs) → Steps p.tables e below (T.setTop g) (T.setFrames fs)) (hq : Q v T.heap locs) : own_Run p e below (own_End s R Q) (T.setTop g) := by
  obtain ⟨fs, hr, hrun, hended, hW, hsame⟩ := X.leave (v := v) hv hlk
  exact ⟨_, _, st fs hr, hrun, hended, _, _, rfl, hq, ⟨_, rfl⟩, hW, hsame.mono hc hs⟩
theorem own_retN (X : Stand p l e R s m args below meth c T locs cells slots) (hx : p.tables.exec = Jvm.exec) {t : FieldType} (hret : meth.sig.returnType = some t) (hlk : meth.locks = false) (ht : t = .boolean ∨ t = .byte ∨ t = .char ∨ t = .short) {pc : Nat} {Ls : Array Slot} {z : Int32} {rest : List Value} (hd : decode c.code pc = .ok (.ireturn, 1)) {Q : Option Value → Heap → List Loc → Prop} (hc : cells ≤ R.cells) (hs : slots ≤ R.slots)
    (hq : Q (some (.int (nar t z))) T.heap locs) : own_Run p e below (own_End s R Q) (T.setTop (mkF m pc Ls (.int z :: rest))) :=
  own_ret X (fun q => by rw [hret] at q; cases q) hlk hc hs (fun fs hr => retN X hx hret ht hd hr) hq
theorem own_retI (X : Stand p l e R s m args below meth c T locs cells slots) (hx : p.tables.exec = Jvm.exec) (hret : meth.sig.returnType = some .int) (hlk : meth.locks = false) {pc : Nat} {Ls : Array Slot} {z : Int32} {rest : List Value} (hd : decode c.code pc = .ok (.ireturn, 1)) {Q : Option Value → Heap → List Loc → Prop} (hc : cells ≤ R.cells) (hs : slots ≤ R.slots)
    (hq : Q (some (.int z)) T.heap locs) : own_Run p e below (own_End s R Q) (T.setTop (mkF m pc Ls (.int z :: rest))) :=
  own_ret X (fun q => by rw [hret] at q; cases q) hlk hc hs (fun fs hr => retOut X hx hret rfl (Or.inl ⟨rfl, Or.inl rfl, z, rfl⟩) hd hr) hq
theorem own_retJ (X : Stand p l e R s m args below meth c T locs cells slots) (hx : p.tables.exec = Jvm.exec) (hret : meth.sig.returnType = some .long) (hlk : meth.locks = false) {pc : Nat} {Ls : Array Slot} {z : Int64} {rest : List Value} (hd : decode c.code pc = .ok (.lreturn, 1)) {Q : Option Value → Heap → List Loc → Prop} (hc : cells ≤ R.cells) (hs : slots ≤ R.slots)
    (hq : Q (some (.long z)) T.heap locs) : own_Run p e below (own_End s R Q) (T.setTop (mkF m pc Ls (.long z :: rest))) :=
  own_ret X (fun q => by rw [hret] at q; cases q) hlk hc hs (fun fs hr => retOut X hx hret rfl (Or.inr (Or.inl ⟨rfl, rfl, z, rfl⟩)) hd hr) hq
theorem own_retA (X : Stand p l e R s m args below meth c T locs cells slots) (hx : p.tables.exec = Jvm.exec) {t : FieldType} (hret : meth.sig.returnType = some t) (hlk : meth.locks = false) (ht : t.isReference = true) {pc : Nat} {Ls : Array Slot} {w : Value} (hw : w.isRef = true) {rest : List Value} (hn : narrow t w = w) (hd : decode c.code pc = .ok (.areturn, 1)) {Q : Option Value → Heap → List Loc → Prop} (hc : cells ≤ R.cells) (hs : slots ≤ R.slots)
    (hq : Q (some w) T.heap locs) : own_Run p e below (own_End s R Q) (T.setTop (mkF m pc Ls (w :: rest))) :=
  own_ret X (fun q => by rw [hret] at q; cases q) hlk hc hs (fun fs hr => retOut X hx hret hn (Or.inr (Or.inr (Or.inr (Or.inr ⟨rfl, ht, hw⟩)))) hd hr) hq
theorem own_retV (X : Stand p l e R s m args below meth c T locs cells slots) (hx : p.tables.exec = Jvm.exec) (hret : meth.sig.returnType = none) (hlk : meth.locks = false) {pc : Nat} {Ls : Array Slot} (hd : decode c.code pc = .ok (.return_, 1)) {Q : Option Value → Heap → List Loc → Prop} (hc : cells ≤ R.cells) (hs : slots ≤ R.slots)
    (hq : Q none T.heap locs) : own_Run p e below (own_End s R Q) (T.setTop (mkF m pc Ls [])) :=
  own_ret X (fun _ => rfl) hlk hc hs (fun fs hr => X.returnOut hx hret hd hr) hq
/-! calls -/
theorem own_callS (X : Stand p l e R s m args below meth c T locs cells slots) (hx : p.tables.exec = Jvm.exec) (hZ : Z.Warmed39 s.vm) (eT : T.heap = h) {own : String} (hown : s.vm.findClass own = some m.cls) {index : Nat} (y : MethodName) {bytes : ByteArray} {maxL : Nat} {ret : Option FieldType} {rm : Room} {Q : Option Value → Heap → List Loc → Prop}
    (w1 : (Jvm.Cond.methodLink own index y).before a0 Z = true) (w2 : (Jvm.Cond.static y).before a0 Z = true) (w3 : (Jvm.Cond.initialized y.cls).before a0 Z = true) (w4 : (Jvm.Cond.code y bytes maxL ret).before a0 Z = true) (hy : y.cls ≠ "java/lang/invoke/MethodHandle" ∧ y.cls ≠ "java/lang/invoke/VarHandle")
    (argsL rest : List Value) (hM : own_Met l Z y bytes maxL ret rm argsL.toArray h Q) (hf : rm.frames + 1 ≤ R.frames) (W : Nat) (hl : W + (maxL + 11) + rm.locals ≤ R.locals) (hc : cells + rm.cells ≤ R.cells) (hs : slots + rm.slots ≤ R.slots)
    {g : JFrame} (hg : g.method = m) (hsize : g.locals.size = c.maxLocals) (hlen : ∀ sig, parseMethodDescriptor y.desc = some sig → argsL.length = sig.parameters.length) (hstack : g.stack = argsL.reverse ++ rest) (hW : 2 * g.monitorRoom + (rest.map fun v => v.category).sum ≤ W) (hd : decode c.code g.pc = .ok (.invokestatic index, 3))
    (k : ∀ (v : Option Value) (h' : Heap) (L : List Loc) (T' : State), Q v h' L → Stand p l e R s m args below meth c T' (locs ++ L) (cells + rm.cells) (slots + rm.slots) → T'.heap = h' → own_Run p e below Fin (T'.setTop { g with pc := g.pc + 3, stack := v.toList ++ rest })) : own_Run p e below Fin (T.setTop g) := by
  obtain ⟨v, _, ⟨T', L', k', n'⟩, -, X', ⟨Lc, hQ, l1, y1, z1⟩, st⟩ := Jvm.LawKit.callS X hx (y := y) hown (mvT hZ w1) (mvT hZ w2) (mvT hZ w3) (mvT hZ w4) hy (backOf (W := W) (hM []) hZ w4 w3 hf hl) hg hsize (argsL := argsL) (rest := rest) hlen hstack hW hd (fun _ _ => ⟨rfl, eT, hc, hs⟩)
  dsimp only [Pt.U, Pt.locs, Pt.cells, Pt.slots] at X' l1 y1 z1 st hQ
  subst l1 y1 z1
  exact own_go st (k v T'.heap Lc T' hQ X' rfl)
theorem own_callN (X : Stand p l e R s m args below meth c T locs cells slots) (hx : p.tables.exec = Jvm.exec) (hZ : Z.Warmed39 s.vm) (eT : T.heap = h) {own : String} (hown : s.vm.findClass own = some m.cls) {index : Nat} (y : MethodName) (hy1 : y.name = "<init>") {bytes : ByteArray} {maxL : Nat} {rm : Room} {Q : Option Value → Heap → List Loc → Prop}
    (w1 : (Jvm.Cond.methodLink own index y).before a0 Z = true) (w2 : (Jvm.Cond.instanceMethod y).before a0 Z = true) (w3 : (Jvm.Cond.initialized y.cls).before a0 Z = true) (w4 : (Jvm.Cond.code y bytes maxL none).before a0 Z = true) (hy : y.cls ≠ "java/lang/invoke/MethodHandle" ∧ y.cls ≠ "java/lang/invoke/VarHandle")
    (a : Addr) (argsL rest : List Value) (hM : own_Met l Z y bytes maxL none rm (.ref a :: argsL).toArray h Q) (hf : rm.frames + 1 ≤ R.frames) (W : Nat) (hl : W + (maxL + 11) + rm.locals ≤ R.locals) (hc : cells + rm.cells ≤ R.cells) (hs : slots + rm.slots ≤ R.slots)
    {g : JFrame} (hg : g.method = m) (hsize : g.locals.size = c.maxLocals) (hlen : ∀ sig, parseMethodDescriptor y.desc = some sig → argsL.length = sig.parameters.length) (hstack : g.stack = argsL.reverse ++ .ref a :: rest) (hW : 2 * g.monitorRoom + (rest.map fun v => v.category).sum ≤ W) (hd : decode c.code g.pc = .ok (.invokespecial index, 3))
    (k : ∀ (v : Option Value) (h' : Heap) (L : List Loc) (T' : State), Q v h' L → Stand p l e R s m args below meth c T' (locs ++ L) (cells + rm.cells) (slots + rm.slots) → T'.heap = h' → own_Run p e below Fin (T'.setTop { g with pc := g.pc + 3, stack := v.toList ++ rest })) : own_Run p e below Fin (T.setTop g) := by
  obtain ⟨v, _, ⟨T', L', k', n'⟩, -, X', ⟨Lc, hQ, l1, y1, z1⟩, st⟩ := X.specialBack hx (y := y) hy1 hown (mvT hZ w1) (mvT hZ w2) (mvT hZ w4) hy (backOf (W := W) (hM []) hZ w4 w3 hf hl) hg hsize (Steps.refl _) (a := a) (argsL := argsL) (rest := rest) hlen hstack hW hd (fun _ _ => ⟨rfl, eT, hc, hs⟩)
  dsimp only [Pt.U, Pt.locs, Pt.cells, Pt.slots] at X' l1 y1 z1 st hQ
  subst l1 y1 z1
  exact own_go (fun _ q => st.trans q) (k v T'.heap Lc T' hQ X' rfl)
theorem own_callV (X : Stand p l e R s m args below meth c T locs cells slots) (hx : p.tables.exec = Jvm.exec) (hZ : Z.Warmed39 s.vm) (eT : T.heap = h) {own : String} (hown : s.vm.findClass own = some m.cls) {index : Nat} (y : MethodName) {C : String} {bytes : ByteArray} {maxL : Nat} {ret : Option FieldType} {rm : Room} {Q : Option Value → Heap → List Loc → Prop}
    (w1 : (Jvm.Cond.methodLink own index y).before a0 Z = true) (w5 : (Jvm.Cond.declares y).before a0 Z = true) (w6 : (Jvm.Cond.selects C y y).before a0 Z = true) (w2 : (Jvm.Cond.instanceMethod y).before a0 Z = true) (w3 : (Jvm.Cond.initialized y.cls).before a0 Z = true) (w4 : (Jvm.Cond.code y bytes maxL ret).before a0 Z = true) (hy : y.cls ≠ "java/lang/invoke/MethodHandle" ∧ y.cls ≠ "java/lang/invoke/VarHandle")
    (a : Addr) (E : Exa Z h a C) (argsL rest : List Value) (hM : own_Met l Z y bytes maxL ret rm (.ref a :: argsL).toArray h Q) (hf : rm.frames + 1 ≤ R.frames) (W : Nat) (hl : W + (maxL + 11) + rm.locals ≤ R.locals) (hc : cells + rm.cells ≤ R.cells) (hs : slots + rm.slots ≤ R.slots)
    {g : JFrame} (hg : g.method = m) (hsize : g.locals.size = c.maxLocals) (hlen : ∀ sig, parseMethodDescriptor y.desc = some sig → argsL.length = sig.parameters.length) (hstack : g.stack = argsL.reverse ++ .ref a :: rest) (hW : 2 * g.monitorRoom + (rest.map fun v => v.category).sum ≤ W) (hd : decode c.code g.pc = .ok (.invokevirtual index, 3))
    (k : ∀ (v : Option Value) (h' : Heap) (L : List Loc) (T' : State), Q v h' L → Stand p l e R s m args below meth c T' (locs ++ L) (cells + rm.cells) (slots + rm.slots) → T'.heap = h' → own_Run p e below Fin (T'.setTop { g with pc := g.pc + 3, stack := v.toList ++ rest })) : own_Run p e below Fin (T.setTop g) := by
  obtain ⟨cq, kq, qa, qb, qc⟩ := isOf hZ eT E
  obtain ⟨v, _, ⟨T', L', k', n'⟩, -, X', ⟨Lc, hQ, l1, y1, z1⟩, st⟩ := X.virtualBack hx (y := y) (z := y) hown (mvT hZ w1) (mvT hZ w5) (notFace_of_selects (args := #[]) (mvT hZ w6)) (mvT hZ w6) (mvT hZ w2) hy (backOf (W := W) (hM []) hZ w4 w3 hf hl) qa qc hg hsize (Steps.refl _) (argsL := argsL) (rest := rest) hlen hstack hW hd (fun _ _ => ⟨rfl, eT, hc, hs⟩)
  dsimp only [Pt.U, Pt.locs, Pt.cells, Pt.slots] at X' l1 y1 z1 st hQ
  subst l1 y1 z1
  exact own_go (fun _ q => st.trans q) (k v T'.heap Lc T' hQ X' rfl)
/-! fields -/
theorem own_getF (X : Stand p l e R s m args below meth c T locs cells slots) (hx : p.tables.exec = Jvm.exec) (hZ : Z.Warmed39 s.vm) (eT : T.heap = h) {own O n d : String} (hown : s.vm.findClass own = some m.cls) {index : Nat} (w : (Jvm.Cond.fieldLink own index O n d).before a0 Z = true)
    {a : Addr} {v : Value} (F : Fld Z h a O n d v) {g : JFrame} (hg : g.method = m) {rest : List Value} (hs : g.stack = .ref a :: rest) (hd : decode c.code g.pc = .ok (.getfield index, 3))
    (k : ∀ T' : State, Stand p l e R s m args below meth c T' locs cells slots → T'.heap = h → own_Run p e below Fin (T'.setTop { g with pc := g.pc + 3, stack := v :: rest })) : own_Run p e below Fin (T.setTop g) := by
  obtain ⟨T', X', e', st⟩ := getF X hx hZ hown (host := "") (Or.inl w) Via.refl eT F hg hs hd
  exact own_go st (k T' X' e')
theorem own_putF (X : Stand p l e R s m args below meth c T locs cells slots) (hx : p.tables.exec = Jvm.exec) (hZ : Z.Warmed39 s.vm) (eT : T.heap = h) {own O n d C : String} (hown : s.vm.findClass own = some m.cls) {index kk : Nat} (ty : FieldType) (w : (Jvm.Cond.fieldLink own index O n d).before a0 Z = true)
    {a : Addr} {v v' old : Value} (F : Fld Z h a O n d old) (E : Exa Z h a C) (L : (Jvm.Cond.lays C O n d).before a0 Z = true ∨ ((Jvm.Cond.laysFinal C O n d).before a0 Z = true ∧ own = O ∧ meth.name = "<init>")) (wi : (Jvm.Cond.instantiable C kk).before a0 Z = true)
    (hty : parseFieldDescriptor d = some ty) (hn : narrow ty v = v') (hf : fits ty v' = true) {g : JFrame} (hg : g.method = m) {rest : List Value} (hs : g.stack = v :: .ref a :: rest) (hd : decode c.code g.pc = .ok (.putfield index, 3))
    (k : ∀ (T' : State) (h' : Heap), Stand p l e R s m args below meth c T' (locs ++ [⟨a, Jvm.RoadKit.slotOf Z O n d⟩]) cells slots → T'.heap = h' → Wr h h' a (Jvm.RoadKit.slotOf Z O n d) v' → own_Run p e below Fin (T'.setTop { g with pc := g.pc + 3, stack := rest })) : own_Run p e below Fin (T.setTop g) := by
  obtain ⟨T', h', X', e', W, st⟩ := putFN X hx hZ hown w Via.refl eT F E L wi hty hn hf hg hs hd
  exact own_go st (k T' h' X' e' W)
/-! fresh objects -/
theorem own_newO (X : Stand p l e R s m args below meth c T locs cells slots) (hx : p.tables.exec = Jvm.exec) (hZ : Z.Warmed39 s.vm) (eT : T.heap = h) {own C : String} {index n : Nat} (hown : s.vm.findClass own = some m.cls) (w : (Jvm.Cond.classLink own index C).before a0 Z = true) (wi : (Jvm.Cond.instantiable C n).before a0 Z = true) (wz : (Jvm.Cond.initialized C).before a0 Z = true)
    {g : JFrame} (hg : g.method = m) (hd : decode c.code g.pc = .ok (.new index, 3)) (hc : cells + 1 ≤ R.cells) (hl : slots + n ≤ R.slots)
    (k : ∀ (b : Addr) (T' : State) (h' : Heap), b = h.size → Stand p l e R s m args below meth c T' locs (cells + 1) (slots + n) → T'.heap = h' → Ext h h' → Exa Z h' b C → (∀ {O nm d : String} {ty : FieldType}, Laid Z a0 C O nm d → parseFieldDescriptor d = some ty → Fld Z h' b O nm d (defaultValue ty)) →
      own_Run p e below Fin (T'.setTop { g with pc := g.pc + 3, stack := .ref b :: g.stack })) : own_Run p e below Fin (T.setTop g) := by
  obtain ⟨T', h', X', e', E, A, D, -, st⟩ := newO X hx hZ hown w wi wz eT hg hd hc hl
  exact own_go st (k h.size T' h' rfl X' e' E A D)
/-! arrays: n places, place k holds f k -/
def own_Arr (Z : State) (h : Heap) (a : Addr) (ty : FieldType) (n : Nat) (f : Nat → Value) : Prop := ∃ cl : Cell, Arr Z h a cl ty ∧ cl.slots.size = n ∧ ∀ k, k < n → cl.slots[k]? = some (f k)
theorem own_Arr.lt {a : Addr} {ty : FieldType} {n : Nat} {f : Nat → Value} (F : own_Arr Z h a ty n f) : a < h.size := by obtain ⟨c, A, -⟩ := F; exact A.lt
theorem own_Arr.ext {a : Addr} {ty : FieldType} {n : Nat} {f : Nat → Value} (F : own_Arr Z h a ty n f) (E : Ext h h') : own_Arr Z h' a ty n f := by obtain ⟨c, A, r⟩ := F; exact ⟨c, A.ext E, r⟩
theorem own_Arr.other {a b : Addr} {sl : Nat} {v : Value} {ty : FieldType} {n : Nat} {f : Nat → Value} (F : own_Arr Z h b ty n f) (W : Wr h h' a sl v) (q : b ≠ a) : own_Arr Z h' b ty n f := by obtain ⟨c, A, r⟩ := F; exact ⟨c, A.other W q, r⟩
theorem own_Arr.keep {a : Addr} {ws : List Addr} {ty : FieldType} {n : Nat} {f : Nat → Value} (F : own_Arr Z h a ty n f) (K : Keep h h' ws) (q : a ∉ ws) : own_Arr Z h' a ty n f := by obtain ⟨c, A, r⟩ := F; exact ⟨c, ⟨K.2.1 a c A.1 q, A.2⟩, r⟩
theorem own_Arr.set {a : Addr} {j : Nat} {v : Value} {ty : FieldType} {n : Nat} {f : Nat → Value} (F : own_Arr Z h a ty n f) (W : Wr h h' a j v) (hj : j < n) : own_Arr Z h' a ty n (fun k => if k = j then v else f k) := by
  obtain ⟨cl, A, r1, r2⟩ := F
  refine ⟨_, A.same W, by rw [sz_set]; exact r1, fun k hk => ?_⟩
  by_cases q : k = j
  · subst q; simp [Cell.setSlot, r1, hj]
  · show (cl.setSlot j v).slots[k]? = some (if k = j then v else f k)
    rw [if_neg q]; exact (Array.getElem?_setIfInBounds_ne (Ne.symm q)).trans (r2 k hk)
theorem own_Arr.congr {a : Addr} {ty : FieldType} {n : Nat} {f f' : Nat → Value} (F : own_Arr Z h a ty n f) (q : ∀ k, k < n → f k = f' k) : own_Arr Z h a ty n f' := by
  obtain ⟨cl, A, r1, r2⟩ := F
  exact ⟨cl, A, r1, fun k hk => by rw [← q k hk]; exact r2 k hk⟩
theorem own_in {cl : Cell} {n : Nat} {j : Int32} (r : cl.slots.size = n) (hj : 0 ≤ j.toInt ∧ j.toInt < n) : ¬ (j < 0 ∨ cl.slots.size ≤ j.toNatClampNeg) := by
  have e0 : (0 : Int32).toInt = 0 := rfl
  simp only [Int32.lt_iff_toInt_lt, Int32.toNatClampNeg, r, e0]; omega
theorem own_idx {n : Nat} {j : Int32} (hj : 0 ≤ j.toInt ∧ j.toInt < n) : j.toNatClampNeg < n := by
  simp only [Int32.toNatClampNeg]; omega
theorem own_newP (X : Stand p l e R s m args below meth c T locs cells slots) (hx : p.tables.exec = Jvm.exec) (hZ : Z.Warmed39 s.vm) (eT : T.heap = h) {aty : ArrayType} (w : (Jvm.Cond.arrayClass (newarray.typeOf aty)).before a0 Z = true) {g : JFrame} (hg : g.method = m) (hd : decode c.code g.pc = .ok (.newarray aty, 2)) {z : Int32} {rest : List Value} (hs : g.stack = .int z :: rest)
    (n cap : Nat) (hn : z.toInt = n) (hcap : n ≤ cap) (hb : cap * 8 ≤ 536870912) (hc : cells + 1 ≤ R.cells) (hl : slots + cap ≤ R.slots) (ad : String) (had : "[" ++ (newarray.typeOf aty).toString = ad)
    (k : ∀ (b : Addr) (T' : State) (h' : Heap), b = h.size → Stand p l e R s m args below meth c T' locs (cells + 1) (slots + cap) → T'.heap = h' → Ext h h' → own_Arr Z h' b (newarray.typeOf aty) n (fun _ => defaultValue (newarray.typeOf aty)) → Exa Z h' b ad →
      own_Run p e below Fin (T'.setTop { g with pc := g.pc + 2, stack := .ref b :: rest })) : own_Run p e below Fin (T.setTop g) := by
  have hz : z.toNatClampNeg = n := by simp only [Int32.toNatClampNeg]; omega
  have e0 : (0 : Int32).toInt = 0 := rfl
  have hz0 : ¬ z < 0 := by rw [Int32.lt_iff_toInt_lt, e0]; omega
  obtain ⟨T', h', cA, X', e', E, A, Ex, st⟩ := newPE X hx hZ w eT hg hd hs (n := z) hz0 (cap := cap) (by omega) hb hc hl had
  exact own_go st (k h.size T' h' rfl X' e' E ⟨_, A, by rw [sz_new]; exact hz, fun i hi => by simp [newA, hz, hi]⟩ Ex)
theorem own_iastore (X : Stand p l e R s m args below meth c T locs cells slots) (hx : p.tables.exec = Jvm.exec) (hZ : Z.Warmed39 s.vm) (eT : T.heap = h) {a : Addr} {n : Nat} {f : Nat → Value} (A : own_Arr Z h a .int n f) {j x : Int32} (hj : 0 ≤ j.toInt ∧ j.toInt < n) {g : JFrame} (hg : g.method = m) {rest : List Value} (hs : g.stack = .int x :: .int j :: .ref a :: rest) (hd : decode c.code g.pc = .ok (.iastore, 1))
    (k : ∀ (T' : State) (h' : Heap), Stand p l e R s m args below meth c T' (locs ++ [⟨a, j.toNatClampNeg⟩]) cells slots → T'.heap = h' → Wr h h' a j.toNatClampNeg (.int x) → own_Arr Z h' a .int n (fun i => if i = j.toNatClampNeg then .int x else f i) → own_Run p e below Fin (T'.setTop { g with pc := g.pc + 1, stack := rest })) : own_Run p e below Fin (T.setTop g) := by
  obtain ⟨cl, A1, r1, r2⟩ := A
  obtain ⟨T', h', X', e', W, st⟩ := stI X hx hZ eT A1 (own_in r1 hj) hg hs hd
  exact own_go st (k T' h' X' e' W (own_Arr.set ⟨cl, A1, r1, r2⟩ W (own_idx hj)))
theorem own_bastore (X : Stand p l e R s m args below meth c T locs cells slots) (hx : p.tables.exec = Jvm.exec) (hZ : Z.Warmed39 s.vm) (eT : T.heap = h) {a : Addr} {n : Nat} {f : Nat → Value} (A : own_Arr Z h a .byte n f) {j x : Int32} (hj : 0 ≤ j.toInt ∧ j.toInt < n) {g : JFrame} (hg : g.method = m) {rest : List Value} (hs : g.stack = .int x :: .int j :: .ref a :: rest) (hd : decode c.code g.pc = .ok (.bastore, 1))
    (k : ∀ (T' : State) (h' : Heap), Stand p l e R s m args below meth c T' (locs ++ [⟨a, j.toNatClampNeg⟩]) cells slots → T'.heap = h' → Wr h h' a j.toNatClampNeg (.int (nar .byte x)) → own_Arr Z h' a .byte n (fun i => if i = j.toNatClampNeg then .int (nar .byte x) else f i) → own_Run p e below Fin (T'.setTop { g with pc := g.pc + 1, stack := rest })) : own_Run p e below Fin (T.setTop g) := by
  obtain ⟨cl, A1, r1, r2⟩ := A
  obtain ⟨T', h', X', e', W, st⟩ := stB X hx hZ eT A1 (own_in r1 hj) hg hs hd
  exact own_go st (k T' h' X' e' W (own_Arr.set ⟨cl, A1, r1, r2⟩ W (own_idx hj)))
theorem own_iaload (X : Stand p l e R s m args below meth c T locs cells slots) (hx : p.tables.exec = Jvm.exec) (hZ : Z.Warmed39 s.vm) (eT : T.heap = h) {a : Addr} {n : Nat} {f : Nat → Value} (A : own_Arr Z h a .int n f) {j : Int32} (v : Int32) (hj : 0 ≤ j.toInt ∧ j.toInt < n) (hv : f j.toNatClampNeg = .int v) {g : JFrame} (hg : g.method = m) {rest : List Value} (hs : g.stack = .int j :: .ref a :: rest) (hd : decode c.code g.pc = .ok (.iaload, 1))
    (k : own_Run p e below Fin (T.setTop { g with pc := g.pc + 1, stack := .int v :: rest })) : own_Run p e below Fin (T.setTop g) := by
  obtain ⟨cl, A1, r1, r2⟩ := A
  exact own_go (X.iaload hx (by rw [eT]; exact A1.1) (State.isArrayOf_alike hZ.alike A1.2.1) A1.2.2 (own_in r1 hj) ((r2 _ (own_idx hj)).trans (by rw [hv])) hg hs hd) k
theorem own_baload (X : Stand p l e R s m args below meth c T locs cells slots) (hx : p.tables.exec = Jvm.exec) (hZ : Z.Warmed39 s.vm) (eT : T.heap = h) {a : Addr} {n : Nat} {f : Nat → Value} (A : own_Arr Z h a .byte n f) {j : Int32} (v : Int32) (hj : 0 ≤ j.toInt ∧ j.toInt < n) (hv : f j.toNatClampNeg = .int v) {g : JFrame} (hg : g.method = m) {rest : List Value} (hs : g.stack = .int j :: .ref a :: rest) (hd : decode c.code g.pc = .ok (.baload, 1))
    (k : own_Run p e below Fin (T.setTop { g with pc := g.pc + 1, stack := .int v :: rest })) : own_Run p e below Fin (T.setTop g) := by
  obtain ⟨cl, A1, r1, r2⟩ := A
  exact own_go (X.baloadBytes hx (by rw [eT]; exact A1.1) (State.isArrayOf_alike hZ.alike A1.2.1) A1.2.2 (own_in r1 hj) ((r2 _ (own_idx hj)).trans (by rw [hv])) hg hs hd) k
theorem own_alen (X : Stand p l e R s m args below meth c T locs cells slots) (hx : p.tables.exec = Jvm.exec) (hZ : Z.Warmed39 s.vm) (eT : T.heap = h) {a : Addr} {ty : FieldType} {n : Nat} {f : Nat → Value} (A : own_Arr Z h a ty n f) (z : Int32) (hz : z.toInt = n) {g : JFrame} (hg : g.method = m) {rest : List Value} (hs : g.stack = .ref a :: rest) (hd : decode c.code g.pc = .ok (.arraylength, 1))
    (k : own_Run p e below Fin (T.setTop { g with pc := g.pc + 1, stack := .int z :: rest })) : own_Run p e below Fin (T.setTop g) := by
  obtain ⟨cl, A1, r1, r2⟩ := A
  have e0 : (0 : Int32).toInt = 0 := rfl
  have hz0 : ¬ z < 0 := by rw [Int32.lt_iff_toInt_lt, e0]; omega
  have q : cl.slots.size.toInt32 = z := len_of (by rw [r1]; simp only [Int32.toNatClampNeg]; omega) hz0
  exact own_go (X.arraylength hx (by rw [eT]; exact A1.1) (State.isArrayOf_alike hZ.alike A1.2.1) hg hs hd) (by rw [q]; exact k)
theorem own_clone (X : Stand p l e R s m args below meth c T locs cells slots) (hx : p.tables.exec = Jvm.exec) (hZ : Z.Warmed39 s.vm) (eT : T.heap = h) {own ad : String} {index : Nat} (hown : s.vm.findClass own = some m.cls)
    (w1 : (Jvm.Cond.methodLink own index ⟨ad, "clone", "()Ljava/lang/Object;"⟩).before a0 Z = true) (w2 : (Jvm.Cond.sameMethod ad "java/lang/Object" "clone" "()Ljava/lang/Object;").before a0 Z = true) (w3 : (Jvm.Cond.native ⟨"java/lang/Object", "clone", "()Ljava/lang/Object;"⟩).before a0 Z = true)
    (w4 : (Jvm.Cond.instanceMethod ⟨"java/lang/Object", "clone", "()Ljava/lang/Object;"⟩).before a0 Z = true) (w5 : (Jvm.Cond.selects ad ⟨ad, "clone", "()Ljava/lang/Object;"⟩ ⟨"java/lang/Object", "clone", "()Ljava/lang/Object;"⟩).before a0 Z = true) (w6 : (Jvm.Cond.castable ad "java/lang/Cloneable").before a0 Z = true)
    {a : Addr} {ty : FieldType} {n : Nat} {f : Nat → Value} (A : own_Arr Z h a ty n f) (E : Exa Z h a ad) (hfit : ∀ i, i < n → fits ty (f i) = true) {g : JFrame} (hg : g.method = m) (hsize : g.locals.size = c.maxLocals) {rest : List Value} (hs : g.stack = .ref a :: rest) (hd : decode c.code g.pc = .ok (.invokevirtual index, 3))
    (hf : 1 ≤ R.frames) (W cap : Nat) (hW : 2 * g.monitorRoom + (rest.map fun v => v.category).sum ≤ W) (hl : W + 14 ≤ R.locals) (hcap : n ≤ cap) (hc : cells + 1 ≤ R.cells) (hsl : slots + cap ≤ R.slots)
    (k : ∀ (b : Addr) (T' : State) (h' : Heap), b = h.size → Stand p l e R s m args below meth c T' locs (cells + 1) (slots + cap) → T'.heap = h' → Ext h h' → own_Arr Z h' b ty n f → Exa Z h' b ad → own_Run p e below Fin (T'.setTop { g with pc := g.pc + 3, stack := .ref b :: rest })) : own_Run p e below Fin (T.setTop g) := by
  obtain ⟨cl, A1, r1, r2⟩ := A
  have FC : FitC Z cl := fitC_of A1 fun i hi v hv => by
    rw [r2 i (by omega)] at hv; cases hv; exact hfit i (by omega)
  obtain ⟨T', h', X', e', ex, A', E', st⟩ := cloneA X hx hZ hown w1 w2 w3 w4 w5 w6 eT A1 E FC hg hsize hs hd hf hW hl (by omega) hc hsl
  exact own_go st (k h.size T' h' rfl X' e' ex ⟨cloneOf cl, A', r1, r2⟩ E')
theorem own_cast (X : Stand p l e R s m args below meth c T locs cells slots) (hx : p.tables.exec = Jvm.exec) (hZ : Z.Warmed39 s.vm) (eT : T.heap = h) {own K C : String} {index : Nat} (hown : s.vm.findClass own = some m.cls) (w : (Jvm.Cond.classLink own index K).before a0 Z = true) {a : Addr} (E : Exa Z h a C) (w2 : (Jvm.Cond.castable C K).before a0 Z = true)
    {g : JFrame} (hg : g.method = m) {rest : List Value} (hs : g.stack = .ref a :: rest) (hd : decode c.code g.pc = .ok (.checkcast index, 3))
    (k : ∀ T' : State, Stand p l e R s m args below meth c T' locs cells slots → T'.heap = h → own_Run p e below Fin (T'.setTop { g with pc := g.pc + 3 })) : own_Run p e below Fin (T.setTop g) := by
  obtain ⟨T', X', e', st⟩ := castY X hx hZ hown w eT (Ins.of_exa E w2) hg hs hd
  exact own_go st (k T' X' e')
/-! constants -/
theorem own_ldc (X : Stand p l e R s m args below meth c T locs cells slots) (hx : p.tables.exec = Jvm.exec) (hZ : Z.Warmed39 s.vm) {own : String} {index : Nat} {v : Int32} (hown : s.vm.findClass own = some m.cls) (w : (Jvm.Cond.constant own index v).before a0 Z = true) {g : JFrame} (hg : g.method = m) (hd : decode c.code g.pc = .ok (.ldc index, 2))
    (k : own_Run p e below Fin (T.setTop { g with pc := g.pc + 2, stack := .int v :: g.stack })) : own_Run p e below Fin (T.setTop g) := own_go (X.ldcInt hx hown (mvT hZ w) hg hd) k
theorem own_ldc2 (X : Stand p l e R s m args below meth c T locs cells slots) (hx : p.tables.exec = Jvm.exec) (hZ : Z.Warmed39 s.vm) {own : String} {index : Nat} {v : Int64} (hown : s.vm.findClass own = some m.cls) (w : (Jvm.Cond.constantLong own index v).before a0 Z = true) {g : JFrame} (hg : g.method = m) (hd : decode c.code g.pc = .ok (.ldc2_w index, 3))
    (k : own_Run p e below Fin (T.setTop { g with pc := g.pc + 3, stack := .long v :: g.stack })) : own_Run p e below Fin (T.setTop g) := own_go (X.ldc2Long hx hown (mvT hZ w) hg hd) k
theorem own_inj {x y : Int32} (q : x.toInt = y.toInt) : x = y := Int32.toInt_inj.mp q
theorem own_injL {x y : Int64} (q : x.toInt = y.toInt) : x = y := Int64.toInt_inj.mp q
end OwnKit
def own_min (a b : Int64) : Int64 := if b < a then b else a
def own_pick (a : Int64) (k : Int32) : Int64 := if k = (0 : Int32) then (a &&& (9223372036854775807 : Int64)) else if k = (1 : Int32) then (a &&& (15 : Int64)) else if k = (2 : Int32) then (a &&& (4294967295 : Int64)) else (((a &&& (9223372036854775807 : Int64)).toUInt64 >>> ((29 : Int32) &&& 0x3f).toInt64.toUInt64).toInt64)
def own_times (a b : Int64) : Int64 := if a = (0 : Int64) then (0 : Int64) else if b = (0 : Int64) then (0 : Int64) else if ((4611686018427387903 : Int64) / b) < a then (4611686018427387903 : Int64) else (a * b)
def own_hi (a : Int64) : Int64 := ((a.toUInt64 >>> ((31 : Int32) &&& 0x3f).toInt64.toUInt64).toInt64)
def own_mid (a b : Int64) : Int64 := (((a.toUInt64 >>> ((31 : Int32) &&& 0x3f).toInt64.toUInt64).toInt64) * (b &&& (2147483647 : Int64))) + ((a &&& (2147483647 : Int64)) * ((b.toUInt64 >>> ((31 : Int32) &&& 0x3f).toInt64.toUInt64).toInt64))
def own_tl (a b : Int64) : Int64 := if own_mid a b < (2147483648 : Int64) then own_min ((own_mid a b <<< ((31 : Int32) &&& 0x3f).toInt64) + ((a &&& (2147483647 : Int64)) * (b &&& (2147483647 : Int64)))) (4611686018427387903 : Int64) else (4611686018427387903 : Int64)
def own_refx (a b : Int64) : Int64 := if ((a.toUInt64 >>> ((31 : Int32) &&& 0x3f).toInt64.toUInt64).toInt64) = (0 : Int64) then own_tl a b else if ((b.toUInt64 >>> ((31 : Int32) &&& 0x3f).toInt64.toUInt64).toInt64) = (0 : Int64) then own_tl a b else (4611686018427387903 : Int64)
theorem own_pick0 (a : Int64) (k : Int32) : 0 ≤ (own_pick a k).toInt := by
  have m0 := c_maskL a 9223372036854775807 63 (by decide) (by decide)
  have m1 := c_maskL a 15 4 (by decide) (by decide)
  have m2 := c_maskL a 4294967295 32 (by decide) (by decide)
  have s1 := c_lushr (a &&& (9223372036854775807 : Int64)) 29 29 (by decide) (by decide)
  unfold own_pick
  split
  · omega
  · split
    · omega
    · split
      · omega
      · rw [s1]; omega
theorem own_tv (a b : Int64) (ha : 0 ≤ a.toInt) (hb : 0 ≤ b.toInt) : (own_times a b).toInt = if 4611686018427387903 < a.toInt * b.toInt then 4611686018427387903 else a.toInt * b.toInt := by
  have zM : (4611686018427387903 : Int64).toInt = 4611686018427387903 := rfl
  have z0 : (0 : Int64).toInt = 0 := rfl
  unfold own_times
  by_cases p : a = 0
  · subst p; rw [if_pos rfl, z0, Int.zero_mul]; rfl
  · rw [if_neg p]
    by_cases q : b = 0
    · subst q; rw [if_pos rfl, z0, Int.mul_zero]; rfl
    · rw [if_neg q]
      have hB : 0 < b.toInt := by
        have : b.toInt ≠ 0 := fun w => q (own_injL (w.trans z0.symm))
        omega
      have d := (c_ldiv 4611686018427387903 b b.toInt rfl (fun w => by rw [w] at hb; exact absurd hb (by decide))).1 (by decide)
      rw [zM] at d
      have iff1 : ((4611686018427387903 : Int64) / b) < a ↔ 4611686018427387903 < a.toInt * b.toInt := by
        rw [Int64.lt_iff_toInt_lt, d]; exact Int.ediv_lt_iff_lt_mul hB
      by_cases r : ((4611686018427387903 : Int64) / b) < a
      · rw [if_pos r, if_pos (iff1.mp r)]; rfl
      · rw [if_neg r, if_neg (fun w => r (iff1.mpr w))]
        have h1 := mt iff1.mpr r
        have h2 := Int.mul_nonneg ha hb
        have h3 := c_lmul a b
        have h4 := rng64 (a * b)
        omega
theorem own_mv (A B A1 A0 B1 B0 : Int) (hA : A = 2147483648 * A1 + A0) (hB : B = 2147483648 * B1 + B0) : A * B = 4611686018427387904 * (A1 * B1) + 2147483648 * (A1 * B0 + A0 * B1) + A0 * B0 := by
  subst hA hB
  have e1 : (2147483648 * A1 + A0) * (2147483648 * B1 + B0) = 2147483648 * (A1 * (2147483648 * B1 + B0)) + A0 * (2147483648 * B1 + B0) := by rw [Int.add_mul, Int.mul_assoc]
  have e2 : A1 * (2147483648 * B1 + B0) = 2147483648 * (A1 * B1) + A1 * B0 := by rw [Int.mul_add, Int.mul_left_comm]
  have e3 : A0 * (2147483648 * B1 + B0) = 2147483648 * (A0 * B1) + A0 * B0 := by rw [Int.mul_add, Int.mul_left_comm]
  rw [e1, e2, e3]; omega
theorem own_hv (a : Int64) (ha : 0 ≤ a.toInt) : ((a.toUInt64 >>> ((31 : Int32) &&& 0x3f).toInt64.toUInt64).toInt64).toInt = a.toInt / 2147483648 := by
  have s := c_lushr a 31 31 (by decide) (by decide)
  have r := rng64 a
  rw [s]; omega
theorem own_lv (a : Int64) : (a &&& (2147483647 : Int64)).toInt = a.toInt % 2147483648 := c_maskL a 2147483647 31 (by decide) (by decide)
theorem own_le2 {x y u w : Int} (h1 : 0 ≤ x) (h2 : x ≤ u) (h3 : 0 ≤ y) (h4 : y ≤ w) : 0 ≤ x * y ∧ x * y ≤ u * w := ⟨Int.mul_nonneg h1 h3, Int.mul_le_mul h2 h4 h3 (Int.le_trans h1 h2)⟩
theorem own_tlv (a b : Int64) (ha : 0 ≤ a.toInt) (hb : 0 ≤ b.toInt) (hz : a.toInt / 2147483648 = 0 ∨ b.toInt / 2147483648 = 0) : (own_tl a b).toInt = if 4611686018427387903 < a.toInt * b.toInt then 4611686018427387903 else a.toInt * b.toInt := by
  have zM : (4611686018427387903 : Int64).toInt = 4611686018427387903 := rfl
  have z31 : (2147483648 : Int64).toInt = 2147483648 := rfl
  have a1 := own_hv a ha
  have b1 := own_hv b hb
  have a0 := own_lv a
  have b0 := own_lv b
  have ra := rng64 a
  have rb := rng64 b
  have hAB := own_mv a.toInt b.toInt (a.toInt / 2147483648) (a.toInt % 2147483648) (b.toInt / 2147483648) (b.toInt % 2147483648) (by omega) (by omega)
  obtain ⟨A1, hA1⟩ : ∃ z, z = a.toInt / 2147483648 := ⟨_, rfl⟩
  obtain ⟨A0, hA0⟩ : ∃ z, z = a.toInt % 2147483648 := ⟨_, rfl⟩
  obtain ⟨B1, hB1⟩ : ∃ z, z = b.toInt / 2147483648 := ⟨_, rfl⟩
  obtain ⟨B0, hB0⟩ : ∃ z, z = b.toInt % 2147483648 := ⟨_, rfl⟩
  rw [← hA1] at a1
  rw [← hB1] at b1
  rw [← hA0] at a0
  rw [← hB0] at b0
  rw [← hA1, ← hB1] at hz
  rw [← hA1, ← hA0, ← hB1, ← hB0] at hAB
  have k1 : 0 ≤ A1 ∧ A1 ≤ 4294967295 := by omega
  have k2 : 0 ≤ A0 ∧ A0 ≤ 2147483647 := by omega
  have k3 : 0 ≤ B1 ∧ B1 ≤ 4294967295 := by omega
  have k4 : 0 ≤ B0 ∧ B0 ≤ 2147483647 := by omega
  have p11 : A1 * B1 = 0 := by rcases hz with z | z <;> rw [z] <;> simp
  have p10 := own_le2 k1.1 k1.2 k4.1 k4.2
  have p01 := own_le2 k2.1 k2.2 k3.1 k3.2
  have p00 := own_le2 k2.1 k2.2 k4.1 k4.2
  have pz : A1 * B0 = 0 ∨ A0 * B1 = 0 := by rcases hz with z | z <;> rw [z] <;> simp
  have m1 := c_lmul ((a.toUInt64 >>> ((31 : Int32) &&& 0x3f).toInt64.toUInt64).toInt64) (b &&& (2147483647 : Int64))
  have m2 := c_lmul (a &&& (2147483647 : Int64)) ((b.toUInt64 >>> ((31 : Int32) &&& 0x3f).toInt64.toUInt64).toInt64)
  have m3 := c_lmul (a &&& (2147483647 : Int64)) (b &&& (2147483647 : Int64))
  rw [a1, b0] at m1
  rw [a0, b1] at m2
  rw [a0, b0] at m3
  have r1 := rng64 (((a.toUInt64 >>> ((31 : Int32) &&& 0x3f).toInt64.toUInt64).toInt64) * (b &&& (2147483647 : Int64)))
  have r2 := rng64 ((a &&& (2147483647 : Int64)) * ((b.toUInt64 >>> ((31 : Int32) &&& 0x3f).toInt64.toUInt64).toInt64))
  have r3 := rng64 ((a &&& (2147483647 : Int64)) * (b &&& (2147483647 : Int64)))
  have hm := c_ladd (((a.toUInt64 >>> ((31 : Int32) &&& 0x3f).toInt64.toUInt64).toInt64) * (b &&& (2147483647 : Int64))) ((a &&& (2147483647 : Int64)) * ((b.toUInt64 >>> ((31 : Int32) &&& 0x3f).toInt64.toUInt64).toInt64))
  have rm := rng64 (own_mid a b)
  have em : (own_mid a b).toInt = A1 * B0 + A0 * B1 := by
    change ((own_mid a b).toInt - _) % _ = 0 at hm
    omega
  unfold own_tl
  by_cases c : own_mid a b < (2147483648 : Int64)
  · rw [if_pos c]
    rw [Int64.lt_iff_toInt_lt, z31] at c
    have s := c_lshl (own_mid a b) 31 31 (by decide)
    have rs := rng64 (own_mid a b <<< ((31 : Int32) &&& 0x3f).toInt64)
    have t := c_ladd (own_mid a b <<< ((31 : Int32) &&& 0x3f).toInt64) ((a &&& (2147483647 : Int64)) * (b &&& (2147483647 : Int64)))
    have rt := rng64 ((own_mid a b <<< ((31 : Int32) &&& 0x3f).toInt64) + ((a &&& (2147483647 : Int64)) * (b &&& (2147483647 : Int64))))
    have es : ((own_mid a b <<< ((31 : Int32) &&& 0x3f).toInt64) + ((a &&& (2147483647 : Int64)) * (b &&& (2147483647 : Int64)))).toInt = a.toInt * b.toInt := by omega
    unfold own_min
    by_cases d : (4611686018427387903 : Int64) < ((own_mid a b <<< ((31 : Int32) &&& 0x3f).toInt64) + ((a &&& (2147483647 : Int64)) * (b &&& (2147483647 : Int64))))
    · rw [if_pos d]; rw [Int64.lt_iff_toInt_lt, zM, es] at d; rw [if_pos d]; rfl
    · rw [if_neg d]; rw [Int64.lt_iff_toInt_lt, zM, es] at d; rw [if_neg d, es]
  · rw [if_neg c]
    rw [Int64.lt_iff_toInt_lt, z31] at c
    rw [if_pos (by omega)]; rfl
theorem own_rv (a b : Int64) (ha : 0 ≤ a.toInt) (hb : 0 ≤ b.toInt) : (own_refx a b).toInt = if 4611686018427387903 < a.toInt * b.toInt then 4611686018427387903 else a.toInt * b.toInt := by
  have z0 : (0 : Int64).toInt = 0 := rfl
  have a1 := own_hv a ha
  have b1 := own_hv b hb
  unfold own_refx
  by_cases p : ((a.toUInt64 >>> ((31 : Int32) &&& 0x3f).toInt64.toUInt64).toInt64) = (0 : Int64)
  · rw [if_pos p]; rw [p, z0] at a1; exact own_tlv a b ha hb (Or.inl a1.symm)
  · rw [if_neg p]
    by_cases q : ((b.toUInt64 >>> ((31 : Int32) &&& 0x3f).toInt64.toUInt64).toInt64) = (0 : Int64)
    · rw [if_pos q]; rw [q, z0] at b1; exact own_tlv a b ha hb (Or.inr b1.symm)
    · rw [if_neg q]
      have p' : a.toInt / 2147483648 ≠ 0 := fun w => p (own_injL (by rw [a1, w, z0]))
      have q' : b.toInt / 2147483648 ≠ 0 := fun w => q (own_injL (by rw [b1, w, z0]))
      have hAB : 2147483648 * 2147483648 ≤ a.toInt * b.toInt := Int.mul_le_mul (by omega) (by omega) (by decide) ha
      rw [if_pos (by omega)]; rfl
theorem own_eq (a b : Int64) (ha : 0 ≤ a.toInt) (hb : 0 ≤ b.toInt) : own_times a b = own_refx a b := own_injL ((own_tv a b ha hb).trans (own_rv a b ha hb).symm)
theorem d0_0 : decode jdk_29_method_70_code 0 = .ok (.lload_n 0, 1) := by decide +kernel
theorem d0_1 : decode jdk_29_method_70_code 1 = .ok (.lload_n 2, 1) := by decide +kernel
theorem d0_2 : decode jdk_29_method_70_code 2 = .ok (.lcmp, 1) := by decide +kernel
theorem d0_3 : decode jdk_29_method_70_code 3 = .ok (.ifCond .gt 7, 3) := by decide +kernel
theorem d0_6 : decode jdk_29_method_70_code 6 = .ok (.lload_n 0, 1) := by decide +kernel
theorem d0_7 : decode jdk_29_method_70_code 7 = .ok (.goto 4, 3) := by decide +kernel
theorem d0_10 : decode jdk_29_method_70_code 10 = .ok (.lload_n 2, 1) := by decide +kernel
theorem d0_11 : decode jdk_29_method_70_code 11 = .ok (.lreturn, 1) := by decide +kernel
abbrev Q_min (Z : State) (a : Int64) (b : Int64) (h0 : Heap) : Option Value → Heap → List Loc → Prop := fun v h L => v = some (.long (own_min a b)) ∧ h0 = h ∧ L = []
set_option maxRecDepth 65536 in
set_option maxHeartbeats 40000000 in
theorem rm_min (l : Launch) (Z : State) (a0 : Array Value) (hw : ∀ d ∈ tables_1, d.before a0 Z = true) (a : Int64) (b : Int64) (h0 : Heap)  :
    own_Met l Z (⟨"java/lang/Math", "min", "(JJ)J"⟩ : MethodName) jdk_29_method_70_code 4 (some .long) ({ frames := 0, cells := 0, slots := 0, locals := 0 } : Room) #[(.long a), (.long b)] h0 (Q_min Z a b h0) := by
  refine own_enter (g0 := fun m => (mkF m 0 #[.val (.long a), .second, .val (.long b), .second] [])) (Jvm.Free.JP.mathPlain rfl (by decide +kernel)) (fun m => by first | (simp [entryFrame, mkF, argsToLocals, Value.category]; done) | rfl) ?_
  intro p e s m below meth c T hx hby hml hown hnm hZ hret hlk X e0
  replace hown : s.vm.findClass "java/lang/Math" = some m.cls := hown
  show own_Run p e below _ (T.setTop (mkF m 0 #[.val (.long a), .second, .val (.long b), .second] []))
  refine own_go (fun _ kS => XS.lloadN X.here hx rfl (hb hby d0_0) rfl kS) ?_
  show own_Run p e below _ (T.setTop (mkF m 1 #[.val (.long a), .second, .val (.long b), .second] [(.long a)]))
  refine own_go (fun _ kS => XS.lloadN X.here hx rfl (hb hby d0_1) rfl kS) ?_
  show own_Run p e below _ (T.setTop (mkF m 2 #[.val (.long a), .second, .val (.long b), .second] [(.long b), (.long a)]))
  refine own_go (fun _ kS => XS.lcmp X.here hx rfl (hb hby d0_2) rfl kS) ?_
  show own_Run p e below _ (T.setTop (mkF m 3 #[.val (.long a), .second, .val (.long b), .second] [(.int (lcmpW a b))]))
  by_cases hc3 : b < a
  · refine own_go (fun _ kS => XS.ifYes X.here hx rfl (pc0 := 3) (pc' := 10) rfl (hb hby d0_3) rfl ((if0 _ _).trans (tlt ((lw_gt a b).mpr hc3)).2.2.1) (by decide) (by decide) kS) ?_
    show own_Run p e below _ (T.setTop (mkF m 10 #[.val (.long a), .second, .val (.long b), .second] []))
    refine own_go (fun _ kS => XS.lloadN X.here hx rfl (hb hby d0_10) rfl kS) ?_
    show own_Run p e below _ (T.setTop (mkF m 11 #[.val (.long a), .second, .val (.long b), .second] [(.long b)]))
    refine own_retJ X hx hret hlk (hb hby d0_11) (by decide) (by decide) ?_
    exact ⟨by rw [(by unfold own_min; rw [if_pos hc3] : own_min a b = b)], e0.symm, rfl⟩
  · refine own_go (fun _ kS => XS.ifNo X.here hx rfl (hb hby d0_3) rfl ((if0 _ _).trans (flt (mt (lw_gt a b).mp hc3)).2.2.1) kS) ?_
    show own_Run p e below _ (T.setTop (mkF m 6 #[.val (.long a), .second, .val (.long b), .second] []))
    refine own_go (fun _ kS => XS.lloadN X.here hx rfl (hb hby d0_6) rfl kS) ?_
    show own_Run p e below _ (T.setTop (mkF m 7 #[.val (.long a), .second, .val (.long b), .second] [(.long a)]))
    refine own_go (fun _ kS => XS.goto X.here hx rfl (pc0 := 7) (pc' := 11) rfl (hb hby d0_7) (by decide) (by decide) kS) ?_
    show own_Run p e below _ (T.setTop (mkF m 11 #[.val (.long a), .second, .val (.long b), .second] [(.long a)]))
    refine own_retJ X hx hret hlk (hb hby d0_11) (by decide) (by decide) ?_
    exact ⟨by rw [(by unfold own_min; rw [if_neg hc3] : own_min a b = a)], e0.symm, rfl⟩
theorem d1_0 : decode method_3_code 0 = .ok (.iload_n 2, 1) := by decide +kernel
theorem d1_1 : decode method_3_code 1 = .ok (.ifCond .ne 9, 3) := by decide +kernel
theorem d1_4 : decode method_3_code 4 = .ok (.lload_n 0, 1) := by decide +kernel
theorem d1_5 : decode method_3_code 5 = .ok (.ldc2_w 24, 3) := by decide +kernel
theorem d1_8 : decode method_3_code 8 = .ok (.land, 1) := by decide +kernel
theorem d1_9 : decode method_3_code 9 = .ok (.lreturn, 1) := by decide +kernel
theorem d1_10 : decode method_3_code 10 = .ok (.iload_n 2, 1) := by decide +kernel
theorem d1_11 : decode method_3_code 11 = .ok (.iconst 1, 1) := by decide +kernel
theorem d1_12 : decode method_3_code 12 = .ok (.if_icmp .ne 9, 3) := by decide +kernel
theorem d1_15 : decode method_3_code 15 = .ok (.lload_n 0, 1) := by decide +kernel
theorem d1_16 : decode method_3_code 16 = .ok (.ldc2_w 26, 3) := by decide +kernel
theorem d1_19 : decode method_3_code 19 = .ok (.land, 1) := by decide +kernel
theorem d1_20 : decode method_3_code 20 = .ok (.lreturn, 1) := by decide +kernel
theorem d1_21 : decode method_3_code 21 = .ok (.iload_n 2, 1) := by decide +kernel
theorem d1_22 : decode method_3_code 22 = .ok (.iconst 2, 1) := by decide +kernel
theorem d1_23 : decode method_3_code 23 = .ok (.if_icmp .ne 9, 3) := by decide +kernel
theorem d1_26 : decode method_3_code 26 = .ok (.lload_n 0, 1) := by decide +kernel
theorem d1_27 : decode method_3_code 27 = .ok (.ldc2_w 28, 3) := by decide +kernel
theorem d1_30 : decode method_3_code 30 = .ok (.land, 1) := by decide +kernel
theorem d1_31 : decode method_3_code 31 = .ok (.lreturn, 1) := by decide +kernel
theorem d1_32 : decode method_3_code 32 = .ok (.lload_n 0, 1) := by decide +kernel
theorem d1_33 : decode method_3_code 33 = .ok (.ldc2_w 24, 3) := by decide +kernel
theorem d1_36 : decode method_3_code 36 = .ok (.land, 1) := by decide +kernel
theorem d1_37 : decode method_3_code 37 = .ok (.bipush 29, 2) := by decide +kernel
theorem d1_39 : decode method_3_code 39 = .ok (.lushr, 1) := by decide +kernel
theorem d1_40 : decode method_3_code 40 = .ok (.lreturn, 1) := by decide +kernel
abbrev Q_pick (Z : State) (a : Int64) (k : Int32) (h0 : Heap) : Option Value → Heap → List Loc → Prop := fun v h L => v = some (.long (own_pick a k)) ∧ h0 = h ∧ L = []
set_option maxRecDepth 65536 in
set_option maxHeartbeats 40000000 in
theorem rm_pick (l : Launch) (Z : State) (a0 : Array Value) (hw : ∀ d ∈ tables_1, d.before a0 Z = true) (a : Int64) (k : Int32) (h0 : Heap)  :
    own_Met l Z (⟨"com/example/viapost/viapost/core/PatternPartTimesPinLaw", "pick", "(JI)J"⟩ : MethodName) method_3_code 3 (some .long) ({ frames := 0, cells := 0, slots := 0, locals := 0 } : Room) #[(.long a), (.int k)] h0 (Q_pick Z a k h0) := by
  refine own_enter (g0 := fun m => (mkF m 0 #[.val (.long a), .second, .val (.int k)] [])) (plainFor_of_name (by first | (simp [plainName, overriddenIn]; done) | decide +kernel)) (fun m => by first | (simp [entryFrame, mkF, argsToLocals, Value.category]; done) | rfl) ?_
  intro p e s m below meth c T hx hby hml hown hnm hZ hret hlk X e0
  replace hown : s.vm.findClass "com/example/viapost/viapost/core/PatternPartTimesPinLaw" = some m.cls := hown
  show own_Run p e below _ (T.setTop (mkF m 0 #[.val (.long a), .second, .val (.int k)] []))
  refine own_go (fun _ kS => XS.iloadN X.here hx rfl (hb hby d1_0) rfl kS) ?_
  show own_Run p e below _ (T.setTop (mkF m 1 #[.val (.long a), .second, .val (.int k)] [(.int k)]))
  by_cases hc1 : k = (0 : Int32)
  · refine own_go (fun _ kS => XS.ifNo X.here hx rfl (hb hby d1_1) rfl ((if0 _ _).trans (teq hc1).2) kS) ?_
    show own_Run p e below _ (T.setTop (mkF m 4 #[.val (.long a), .second, .val (.int k)] []))
    refine own_go (fun _ kS => XS.lloadN X.here hx rfl (hb hby d1_4) rfl kS) ?_
    show own_Run p e below _ (T.setTop (mkF m 5 #[.val (.long a), .second, .val (.int k)] [(.long a)]))
    refine own_ldc2 X hx hZ hown (hw _ (List.mem_of_getElem? (i := 4) rfl)) rfl (hb hby d1_5) ?_
    show own_Run p e below _ (T.setTop (mkF m 8 #[.val (.long a), .second, .val (.int k)] [(.long (9223372036854775807 : Int64)), (.long a)]))
    refine own_go (fun _ kS => XS.land X.here hx rfl (hb hby d1_8) rfl kS) ?_
    show own_Run p e below _ (T.setTop (mkF m 9 #[.val (.long a), .second, .val (.int k)] [(.long (a &&& (9223372036854775807 : Int64)))]))
    refine own_retJ X hx hret hlk (hb hby d1_9) (by decide) (by decide) ?_
    exact ⟨by rw [(by unfold own_pick; rw [if_pos hc1] : own_pick a k = (a &&& (9223372036854775807 : Int64)))], e0.symm, rfl⟩
  · refine own_go (fun _ kS => XS.ifYes X.here hx rfl (pc0 := 1) (pc' := 10) rfl (hb hby d1_1) rfl ((if0 _ _).trans (feq hc1).2) (by decide) (by decide) kS) ?_
    show own_Run p e below _ (T.setTop (mkF m 10 #[.val (.long a), .second, .val (.int k)] []))
    refine own_go (fun _ kS => XS.iloadN X.here hx rfl (hb hby d1_10) rfl kS) ?_
    show own_Run p e below _ (T.setTop (mkF m 11 #[.val (.long a), .second, .val (.int k)] [(.int k)]))
    refine own_go (fun _ kS => XS.iconst X.here hx rfl (hb hby d1_11) kS) ?_
    show own_Run p e below _ (T.setTop (mkF m 12 #[.val (.long a), .second, .val (.int k)] [(.int (1 : Int32)), (.int k)]))
    by_cases hc12 : k = (1 : Int32)
    · refine own_go (fun _ kS => XS.icmpNo X.here hx rfl (hb hby d1_12) rfl (teq hc12).2 kS) ?_
      show own_Run p e below _ (T.setTop (mkF m 15 #[.val (.long a), .second, .val (.int k)] []))
      refine own_go (fun _ kS => XS.lloadN X.here hx rfl (hb hby d1_15) rfl kS) ?_
      show own_Run p e below _ (T.setTop (mkF m 16 #[.val (.long a), .second, .val (.int k)] [(.long a)]))
      refine own_ldc2 X hx hZ hown (hw _ (List.mem_of_getElem? (i := 20) rfl)) rfl (hb hby d1_16) ?_
      show own_Run p e below _ (T.setTop (mkF m 19 #[.val (.long a), .second, .val (.int k)] [(.long (15 : Int64)), (.long a)]))
      refine own_go (fun _ kS => XS.land X.here hx rfl (hb hby d1_19) rfl kS) ?_
      show own_Run p e below _ (T.setTop (mkF m 20 #[.val (.long a), .second, .val (.int k)] [(.long (a &&& (15 : Int64)))]))
      refine own_retJ X hx hret hlk (hb hby d1_20) (by decide) (by decide) ?_
      exact ⟨by rw [(by unfold own_pick; rw [if_neg hc1, if_pos hc12] : own_pick a k = (a &&& (15 : Int64)))], e0.symm, rfl⟩
    · refine own_go (fun _ kS => XS.icmpYes X.here hx rfl (pc0 := 12) (pc' := 21) rfl (hb hby d1_12) rfl (feq hc12).2 (by decide) (by decide) kS) ?_
      show own_Run p e below _ (T.setTop (mkF m 21 #[.val (.long a), .second, .val (.int k)] []))
      refine own_go (fun _ kS => XS.iloadN X.here hx rfl (hb hby d1_21) rfl kS) ?_
      show own_Run p e below _ (T.setTop (mkF m 22 #[.val (.long a), .second, .val (.int k)] [(.int k)]))
      refine own_go (fun _ kS => XS.iconst X.here hx rfl (hb hby d1_22) kS) ?_
      show own_Run p e below _ (T.setTop (mkF m 23 #[.val (.long a), .second, .val (.int k)] [(.int (2 : Int32)), (.int k)]))
      by_cases hc23 : k = (2 : Int32)
      · refine own_go (fun _ kS => XS.icmpNo X.here hx rfl (hb hby d1_23) rfl (teq hc23).2 kS) ?_
        show own_Run p e below _ (T.setTop (mkF m 26 #[.val (.long a), .second, .val (.int k)] []))
        refine own_go (fun _ kS => XS.lloadN X.here hx rfl (hb hby d1_26) rfl kS) ?_
        show own_Run p e below _ (T.setTop (mkF m 27 #[.val (.long a), .second, .val (.int k)] [(.long a)]))
        refine own_ldc2 X hx hZ hown (hw _ (List.mem_of_getElem? (i := 21) rfl)) rfl (hb hby d1_27) ?_
        show own_Run p e below _ (T.setTop (mkF m 30 #[.val (.long a), .second, .val (.int k)] [(.long (4294967295 : Int64)), (.long a)]))
        refine own_go (fun _ kS => XS.land X.here hx rfl (hb hby d1_30) rfl kS) ?_
        show own_Run p e below _ (T.setTop (mkF m 31 #[.val (.long a), .second, .val (.int k)] [(.long (a &&& (4294967295 : Int64)))]))
        refine own_retJ X hx hret hlk (hb hby d1_31) (by decide) (by decide) ?_
        exact ⟨by rw [(by unfold own_pick; rw [if_neg hc1, if_neg hc12, if_pos hc23] : own_pick a k = (a &&& (4294967295 : Int64)))], e0.symm, rfl⟩
      · refine own_go (fun _ kS => XS.icmpYes X.here hx rfl (pc0 := 23) (pc' := 32) rfl (hb hby d1_23) rfl (feq hc23).2 (by decide) (by decide) kS) ?_
        show own_Run p e below _ (T.setTop (mkF m 32 #[.val (.long a), .second, .val (.int k)] []))
        refine own_go (fun _ kS => XS.lloadN X.here hx rfl (hb hby d1_32) rfl kS) ?_
        show own_Run p e below _ (T.setTop (mkF m 33 #[.val (.long a), .second, .val (.int k)] [(.long a)]))
        refine own_ldc2 X hx hZ hown (hw _ (List.mem_of_getElem? (i := 4) rfl)) rfl (hb hby d1_33) ?_
        show own_Run p e below _ (T.setTop (mkF m 36 #[.val (.long a), .second, .val (.int k)] [(.long (9223372036854775807 : Int64)), (.long a)]))
        refine own_go (fun _ kS => XS.land X.here hx rfl (hb hby d1_36) rfl kS) ?_
        show own_Run p e below _ (T.setTop (mkF m 37 #[.val (.long a), .second, .val (.int k)] [(.long (a &&& (9223372036854775807 : Int64)))]))
        refine own_go (fun _ kS => XS.bipush X.here hx rfl (hb hby d1_37) kS) ?_
        show own_Run p e below _ (T.setTop (mkF m 39 #[.val (.long a), .second, .val (.int k)] [(.int (29 : Int32)), (.long (a &&& (9223372036854775807 : Int64)))]))
        refine own_go (fun _ kS => XS.lushr X.here hx rfl (hb hby d1_39) rfl kS) ?_
        show own_Run p e below _ (T.setTop (mkF m 40 #[.val (.long a), .second, .val (.int k)] [(.long (((a &&& (9223372036854775807 : Int64)).toUInt64 >>> ((29 : Int32) &&& 0x3f).toInt64.toUInt64).toInt64))]))
        refine own_retJ X hx hret hlk (hb hby d1_40) (by decide) (by decide) ?_
        exact ⟨by rw [(by unfold own_pick; rw [if_neg hc1, if_neg hc12, if_neg hc23] : own_pick a k = (((a &&& (9223372036854775807 : Int64)).toUInt64 >>> ((29 : Int32) &&& 0x3f).toInt64.toUInt64).toInt64))], e0.symm, rfl⟩
theorem d2_0 : decode prog_50_method_17_code 0 = .ok (.lload_n 0, 1) := by decide +kernel
theorem d2_1 : decode prog_50_method_17_code 1 = .ok (.lconst 0, 1) := by decide +kernel
theorem d2_2 : decode prog_50_method_17_code 2 = .ok (.lcmp, 1) := by decide +kernel
theorem d2_3 : decode prog_50_method_17_code 3 = .ok (.ifCond .eq 9, 3) := by decide +kernel
theorem d2_6 : decode prog_50_method_17_code 6 = .ok (.lload_n 2, 1) := by decide +kernel
theorem d2_7 : decode prog_50_method_17_code 7 = .ok (.lconst 0, 1) := by decide +kernel
theorem d2_8 : decode prog_50_method_17_code 8 = .ok (.lcmp, 1) := by decide +kernel
theorem d2_9 : decode prog_50_method_17_code 9 = .ok (.ifCond .ne 9, 3) := by decide +kernel
theorem d2_12 : decode prog_50_method_17_code 12 = .ok (.lconst 0, 1) := by decide +kernel
theorem d2_13 : decode prog_50_method_17_code 13 = .ok (.lstore 4, 2) := by decide +kernel
theorem d2_15 : decode prog_50_method_17_code 15 = .ok (.goto 26, 3) := by decide +kernel
theorem d2_18 : decode prog_50_method_17_code 18 = .ok (.lload_n 0, 1) := by decide +kernel
theorem d2_19 : decode prog_50_method_17_code 19 = .ok (.ldc2_w 116, 3) := by decide +kernel
theorem d2_22 : decode prog_50_method_17_code 22 = .ok (.lload_n 2, 1) := by decide +kernel
theorem d2_23 : decode prog_50_method_17_code 23 = .ok (.ldiv, 1) := by decide +kernel
theorem d2_24 : decode prog_50_method_17_code 24 = .ok (.lcmp, 1) := by decide +kernel
theorem d2_25 : decode prog_50_method_17_code 25 = .ok (.ifCond .le 11, 3) := by decide +kernel
theorem d2_28 : decode prog_50_method_17_code 28 = .ok (.ldc2_w 116, 3) := by decide +kernel
theorem d2_31 : decode prog_50_method_17_code 31 = .ok (.lstore 4, 2) := by decide +kernel
theorem d2_33 : decode prog_50_method_17_code 33 = .ok (.goto 8, 3) := by decide +kernel
theorem d2_36 : decode prog_50_method_17_code 36 = .ok (.lload_n 0, 1) := by decide +kernel
theorem d2_37 : decode prog_50_method_17_code 37 = .ok (.lload_n 2, 1) := by decide +kernel
theorem d2_38 : decode prog_50_method_17_code 38 = .ok (.lmul, 1) := by decide +kernel
theorem d2_39 : decode prog_50_method_17_code 39 = .ok (.lstore 4, 2) := by decide +kernel
theorem d2_41 : decode prog_50_method_17_code 41 = .ok (.lload 4, 2) := by decide +kernel
theorem d2_43 : decode prog_50_method_17_code 43 = .ok (.lreturn, 1) := by decide +kernel
abbrev Q_times (Z : State) (a : Int64) (b : Int64) (h0 : Heap) : Option Value → Heap → List Loc → Prop := fun v h L => v = some (.long (own_times a b)) ∧ h0 = h ∧ L = []
set_option maxRecDepth 65536 in
set_option maxHeartbeats 40000000 in
theorem rm_times (l : Launch) (Z : State) (a0 : Array Value) (hw : ∀ d ∈ tables_1, d.before a0 Z = true) (a : Int64) (b : Int64) (h0 : Heap)  :
    own_Met l Z (⟨"com/example/viapost/viapost/core/PatternPart", "times", "(JJ)J"⟩ : MethodName) prog_50_method_17_code 6 (some .long) ({ frames := 0, cells := 0, slots := 0, locals := 0 } : Room) #[(.long a), (.long b)] h0 (Q_times Z a b h0) := by
  refine own_enter (g0 := fun m => (mkF m 0 #[.val (.long a), .second, .val (.long b), .second, .unset, .unset] [])) (plainFor_of_name (by first | (simp [plainName, overriddenIn]; done) | decide +kernel)) (fun m => by first | (simp [entryFrame, mkF, argsToLocals, Value.category]; done) | rfl) ?_
  intro p e s m below meth c T hx hby hml hown hnm hZ hret hlk X e0
  replace hown : s.vm.findClass "com/example/viapost/viapost/core/PatternPart" = some m.cls := hown
  show own_Run p e below _ (T.setTop (mkF m 0 #[.val (.long a), .second, .val (.long b), .second, .unset, .unset] []))
  refine own_go (fun _ kS => XS.lloadN X.here hx rfl (hb hby d2_0) rfl kS) ?_
  show own_Run p e below _ (T.setTop (mkF m 1 #[.val (.long a), .second, .val (.long b), .second, .unset, .unset] [(.long a)]))
  refine own_go (fun _ kS => XS.lconst X.here hx rfl (hb hby d2_1) kS) ?_
  show own_Run p e below _ (T.setTop (mkF m 2 #[.val (.long a), .second, .val (.long b), .second, .unset, .unset] [(.long (0 : Int64)), (.long a)]))
  refine own_go (fun _ kS => XS.lcmp X.here hx rfl (hb hby d2_2) rfl kS) ?_
  show own_Run p e below _ (T.setTop (mkF m 3 #[.val (.long a), .second, .val (.long b), .second, .unset, .unset] [(.int (lcmpW a (0 : Int64)))]))
  by_cases hc3 : a = (0 : Int64)
  · refine own_go (fun _ kS => XS.ifYes X.here hx rfl (pc0 := 3) (pc' := 12) rfl (hb hby d2_3) rfl ((if0 _ _).trans (teq ((lw_eq a (0 : Int64)).mpr hc3)).1) (by decide) (by decide) kS) ?_
    show own_Run p e below _ (T.setTop (mkF m 12 #[.val (.long a), .second, .val (.long b), .second, .unset, .unset] []))
    refine own_go (fun _ kS => XS.lconst X.here hx rfl (hb hby d2_12) kS) ?_
    show own_Run p e below _ (T.setTop (mkF m 13 #[.val (.long a), .second, .val (.long b), .second, .unset, .unset] [(.long (0 : Int64))]))
    refine own_go (fun _ kS => XS.lstore X.here hx rfl (hb hby d2_13) rfl (l' := #[.val (.long a), .second, .val (.long b), .second, .val (.long (0 : Int64)), .second]) rfl kS) ?_
    show own_Run p e below _ (T.setTop (mkF m 15 #[.val (.long a), .second, .val (.long b), .second, .val (.long (0 : Int64)), .second] []))
    refine own_go (fun _ kS => XS.goto X.here hx rfl (pc0 := 15) (pc' := 41) rfl (hb hby d2_15) (by decide) (by decide) kS) ?_
    show own_Run p e below _ (T.setTop (mkF m 41 #[.val (.long a), .second, .val (.long b), .second, .val (.long (0 : Int64)), .second] []))
    refine own_go (fun _ kS => XS.lload X.here hx rfl (hb hby d2_41) rfl kS) ?_
    show own_Run p e below _ (T.setTop (mkF m 43 #[.val (.long a), .second, .val (.long b), .second, .val (.long (0 : Int64)), .second] [(.long (0 : Int64))]))
    refine own_retJ X hx hret hlk (hb hby d2_43) (by decide) (by decide) ?_
    exact ⟨by rw [(by unfold own_times; rw [if_pos hc3] : own_times a b = (0 : Int64))], e0.symm, rfl⟩
  · refine own_go (fun _ kS => XS.ifNo X.here hx rfl (hb hby d2_3) rfl ((if0 _ _).trans (feq (mt (lw_eq a (0 : Int64)).mp hc3)).1) kS) ?_
    show own_Run p e below _ (T.setTop (mkF m 6 #[.val (.long a), .second, .val (.long b), .second, .unset, .unset] []))
    refine own_go (fun _ kS => XS.lloadN X.here hx rfl (hb hby d2_6) rfl kS) ?_
    show own_Run p e below _ (T.setTop (mkF m 7 #[.val (.long a), .second, .val (.long b), .second, .unset, .unset] [(.long b)]))
    refine own_go (fun _ kS => XS.lconst X.here hx rfl (hb hby d2_7) kS) ?_
    show own_Run p e below _ (T.setTop (mkF m 8 #[.val (.long a), .second, .val (.long b), .second, .unset, .unset] [(.long (0 : Int64)), (.long b)]))
    refine own_go (fun _ kS => XS.lcmp X.here hx rfl (hb hby d2_8) rfl kS) ?_
    show own_Run p e below _ (T.setTop (mkF m 9 #[.val (.long a), .second, .val (.long b), .second, .unset, .unset] [(.int (lcmpW b (0 : Int64)))]))
    by_cases hc9 : b = (0 : Int64)
    · refine own_go (fun _ kS => XS.ifNo X.here hx rfl (hb hby d2_9) rfl ((if0 _ _).trans (teq ((lw_eq b (0 : Int64)).mpr hc9)).2) kS) ?_
      show own_Run p e below _ (T.setTop (mkF m 12 #[.val (.long a), .second, .val (.long b), .second, .unset, .unset] []))
      refine own_go (fun _ kS => XS.lconst X.here hx rfl (hb hby d2_12) kS) ?_
      show own_Run p e below _ (T.setTop (mkF m 13 #[.val (.long a), .second, .val (.long b), .second, .unset, .unset] [(.long (0 : Int64))]))
      refine own_go (fun _ kS => XS.lstore X.here hx rfl (hb hby d2_13) rfl (l' := #[.val (.long a), .second, .val (.long b), .second, .val (.long (0 : Int64)), .second]) rfl kS) ?_
      show own_Run p e below _ (T.setTop (mkF m 15 #[.val (.long a), .second, .val (.long b), .second, .val (.long (0 : Int64)), .second] []))
      refine own_go (fun _ kS => XS.goto X.here hx rfl (pc0 := 15) (pc' := 41) rfl (hb hby d2_15) (by decide) (by decide) kS) ?_
      show own_Run p e below _ (T.setTop (mkF m 41 #[.val (.long a), .second, .val (.long b), .second, .val (.long (0 : Int64)), .second] []))
      refine own_go (fun _ kS => XS.lload X.here hx rfl (hb hby d2_41) rfl kS) ?_
      show own_Run p e below _ (T.setTop (mkF m 43 #[.val (.long a), .second, .val (.long b), .second, .val (.long (0 : Int64)), .second] [(.long (0 : Int64))]))
      refine own_retJ X hx hret hlk (hb hby d2_43) (by decide) (by decide) ?_
      exact ⟨by rw [(by unfold own_times; rw [if_neg hc3, if_pos hc9] : own_times a b = (0 : Int64))], e0.symm, rfl⟩
    · refine own_go (fun _ kS => XS.ifYes X.here hx rfl (pc0 := 9) (pc' := 18) rfl (hb hby d2_9) rfl ((if0 _ _).trans (feq (mt (lw_eq b (0 : Int64)).mp hc9)).2) (by decide) (by decide) kS) ?_
      show own_Run p e below _ (T.setTop (mkF m 18 #[.val (.long a), .second, .val (.long b), .second, .unset, .unset] []))
      refine own_go (fun _ kS => XS.lloadN X.here hx rfl (hb hby d2_18) rfl kS) ?_
      show own_Run p e below _ (T.setTop (mkF m 19 #[.val (.long a), .second, .val (.long b), .second, .unset, .unset] [(.long a)]))
      refine own_ldc2 X hx hZ hown (hw _ (List.mem_of_getElem? (i := 9) rfl)) rfl (hb hby d2_19) ?_
      show own_Run p e below _ (T.setTop (mkF m 22 #[.val (.long a), .second, .val (.long b), .second, .unset, .unset] [(.long (4611686018427387903 : Int64)), (.long a)]))
      refine own_go (fun _ kS => XS.lloadN X.here hx rfl (hb hby d2_22) rfl kS) ?_
      show own_Run p e below _ (T.setTop (mkF m 23 #[.val (.long a), .second, .val (.long b), .second, .unset, .unset] [(.long b), (.long (4611686018427387903 : Int64)), (.long a)]))
      refine own_go (fun _ kS => XS.ldiv X.here hx rfl (hb hby d2_23) rfl hc9 kS) ?_
      show own_Run p e below _ (T.setTop (mkF m 24 #[.val (.long a), .second, .val (.long b), .second, .unset, .unset] [(.long ((4611686018427387903 : Int64) / b)), (.long a)]))
      refine own_go (fun _ kS => XS.lcmp X.here hx rfl (hb hby d2_24) rfl kS) ?_
      show own_Run p e below _ (T.setTop (mkF m 25 #[.val (.long a), .second, .val (.long b), .second, .unset, .unset] [(.int (lcmpW a ((4611686018427387903 : Int64) / b)))]))
      by_cases hc25 : ((4611686018427387903 : Int64) / b) < a
      · refine own_go (fun _ kS => XS.ifNo X.here hx rfl (hb hby d2_25) rfl ((if0 _ _).trans (tlt ((lw_gt a ((4611686018427387903 : Int64) / b)).mpr hc25)).2.2.2) kS) ?_
        show own_Run p e below _ (T.setTop (mkF m 28 #[.val (.long a), .second, .val (.long b), .second, .unset, .unset] []))
        refine own_ldc2 X hx hZ hown (hw _ (List.mem_of_getElem? (i := 9) rfl)) rfl (hb hby d2_28) ?_
        show own_Run p e below _ (T.setTop (mkF m 31 #[.val (.long a), .second, .val (.long b), .second, .unset, .unset] [(.long (4611686018427387903 : Int64))]))
        refine own_go (fun _ kS => XS.lstore X.here hx rfl (hb hby d2_31) rfl (l' := #[.val (.long a), .second, .val (.long b), .second, .val (.long (4611686018427387903 : Int64)), .second]) rfl kS) ?_
        show own_Run p e below _ (T.setTop (mkF m 33 #[.val (.long a), .second, .val (.long b), .second, .val (.long (4611686018427387903 : Int64)), .second] []))
        refine own_go (fun _ kS => XS.goto X.here hx rfl (pc0 := 33) (pc' := 41) rfl (hb hby d2_33) (by decide) (by decide) kS) ?_
        show own_Run p e below _ (T.setTop (mkF m 41 #[.val (.long a), .second, .val (.long b), .second, .val (.long (4611686018427387903 : Int64)), .second] []))
        refine own_go (fun _ kS => XS.lload X.here hx rfl (hb hby d2_41) rfl kS) ?_
        show own_Run p e below _ (T.setTop (mkF m 43 #[.val (.long a), .second, .val (.long b), .second, .val (.long (4611686018427387903 : Int64)), .second] [(.long (4611686018427387903 : Int64))]))
        refine own_retJ X hx hret hlk (hb hby d2_43) (by decide) (by decide) ?_
        exact ⟨by rw [(by unfold own_times; rw [if_neg hc3, if_neg hc9, if_pos hc25] : own_times a b = (4611686018427387903 : Int64))], e0.symm, rfl⟩
      · refine own_go (fun _ kS => XS.ifYes X.here hx rfl (pc0 := 25) (pc' := 36) rfl (hb hby d2_25) rfl ((if0 _ _).trans (flt (mt (lw_gt a ((4611686018427387903 : Int64) / b)).mp hc25)).2.2.2) (by decide) (by decide) kS) ?_
        show own_Run p e below _ (T.setTop (mkF m 36 #[.val (.long a), .second, .val (.long b), .second, .unset, .unset] []))
        refine own_go (fun _ kS => XS.lloadN X.here hx rfl (hb hby d2_36) rfl kS) ?_
        show own_Run p e below _ (T.setTop (mkF m 37 #[.val (.long a), .second, .val (.long b), .second, .unset, .unset] [(.long a)]))
        refine own_go (fun _ kS => XS.lloadN X.here hx rfl (hb hby d2_37) rfl kS) ?_
        show own_Run p e below _ (T.setTop (mkF m 38 #[.val (.long a), .second, .val (.long b), .second, .unset, .unset] [(.long b), (.long a)]))
        refine own_go (fun _ kS => XS.lmul X.here hx rfl (hb hby d2_38) rfl kS) ?_
        show own_Run p e below _ (T.setTop (mkF m 39 #[.val (.long a), .second, .val (.long b), .second, .unset, .unset] [(.long (a * b))]))
        refine own_go (fun _ kS => XS.lstore X.here hx rfl (hb hby d2_39) rfl (l' := #[.val (.long a), .second, .val (.long b), .second, .val (.long (a * b)), .second]) rfl kS) ?_
        show own_Run p e below _ (T.setTop (mkF m 41 #[.val (.long a), .second, .val (.long b), .second, .val (.long (a * b)), .second] []))
        refine own_go (fun _ kS => XS.lload X.here hx rfl (hb hby d2_41) rfl kS) ?_
        show own_Run p e below _ (T.setTop (mkF m 43 #[.val (.long a), .second, .val (.long b), .second, .val (.long (a * b)), .second] [(.long (a * b))]))
        refine own_retJ X hx hret hlk (hb hby d2_43) (by decide) (by decide) ?_
        exact ⟨by rw [(by unfold own_times; rw [if_neg hc3, if_neg hc9, if_neg hc25] : own_times a b = (a * b))], e0.symm, rfl⟩
theorem own_pd0 : parseMethodDescriptor "(JJ)J" = some ⟨[.long, .long], some .long⟩ := by decide +kernel
theorem d3_0 : decode method_4_code 0 = .ok (.ldc2_w 30, 3) := by decide +kernel
theorem d3_3 : decode method_4_code 3 = .ok (.lstore 4, 2) := by decide +kernel
theorem d3_5 : decode method_4_code 5 = .ok (.lload_n 0, 1) := by decide +kernel
theorem d3_6 : decode method_4_code 6 = .ok (.bipush 31, 2) := by decide +kernel
theorem d3_8 : decode method_4_code 8 = .ok (.lushr, 1) := by decide +kernel
theorem d3_9 : decode method_4_code 9 = .ok (.lstore 6, 2) := by decide +kernel
theorem d3_11 : decode method_4_code 11 = .ok (.lload_n 0, 1) := by decide +kernel
theorem d3_12 : decode method_4_code 12 = .ok (.ldc2_w 32, 3) := by decide +kernel
theorem d3_15 : decode method_4_code 15 = .ok (.land, 1) := by decide +kernel
theorem d3_16 : decode method_4_code 16 = .ok (.lstore 8, 2) := by decide +kernel
theorem d3_18 : decode method_4_code 18 = .ok (.lload_n 2, 1) := by decide +kernel
theorem d3_19 : decode method_4_code 19 = .ok (.bipush 31, 2) := by decide +kernel
theorem d3_21 : decode method_4_code 21 = .ok (.lushr, 1) := by decide +kernel
theorem d3_22 : decode method_4_code 22 = .ok (.lstore 10, 2) := by decide +kernel
theorem d3_24 : decode method_4_code 24 = .ok (.lload_n 2, 1) := by decide +kernel
theorem d3_25 : decode method_4_code 25 = .ok (.ldc2_w 32, 3) := by decide +kernel
theorem d3_28 : decode method_4_code 28 = .ok (.land, 1) := by decide +kernel
theorem d3_29 : decode method_4_code 29 = .ok (.lstore 12, 2) := by decide +kernel
theorem d3_31 : decode method_4_code 31 = .ok (.lload 6, 2) := by decide +kernel
theorem d3_33 : decode method_4_code 33 = .ok (.lconst 0, 1) := by decide +kernel
theorem d3_34 : decode method_4_code 34 = .ok (.lcmp, 1) := by decide +kernel
theorem d3_35 : decode method_4_code 35 = .ok (.ifCond .eq 13, 3) := by decide +kernel
theorem d3_38 : decode method_4_code 38 = .ok (.lload 10, 2) := by decide +kernel
theorem d3_40 : decode method_4_code 40 = .ok (.lconst 0, 1) := by decide +kernel
theorem d3_41 : decode method_4_code 41 = .ok (.lcmp, 1) := by decide +kernel
theorem d3_42 : decode method_4_code 42 = .ok (.ifCond .eq 6, 3) := by decide +kernel
theorem d3_45 : decode method_4_code 45 = .ok (.lload 4, 2) := by decide +kernel
theorem d3_47 : decode method_4_code 47 = .ok (.lreturn, 1) := by decide +kernel
theorem d3_48 : decode method_4_code 48 = .ok (.lload 6, 2) := by decide +kernel
theorem d3_50 : decode method_4_code 50 = .ok (.lload 12, 2) := by decide +kernel
theorem d3_52 : decode method_4_code 52 = .ok (.lmul, 1) := by decide +kernel
theorem d3_53 : decode method_4_code 53 = .ok (.lload 8, 2) := by decide +kernel
theorem d3_55 : decode method_4_code 55 = .ok (.lload 10, 2) := by decide +kernel
theorem d3_57 : decode method_4_code 57 = .ok (.lmul, 1) := by decide +kernel
theorem d3_58 : decode method_4_code 58 = .ok (.ladd, 1) := by decide +kernel
theorem d3_59 : decode method_4_code 59 = .ok (.lstore 14, 2) := by decide +kernel
theorem d3_61 : decode method_4_code 61 = .ok (.lload 14, 2) := by decide +kernel
theorem d3_63 : decode method_4_code 63 = .ok (.ldc2_w 34, 3) := by decide +kernel
theorem d3_66 : decode method_4_code 66 = .ok (.lcmp, 1) := by decide +kernel
theorem d3_67 : decode method_4_code 67 = .ok (.ifCond .lt 6, 3) := by decide +kernel
theorem d3_70 : decode method_4_code 70 = .ok (.lload 4, 2) := by decide +kernel
theorem d3_72 : decode method_4_code 72 = .ok (.lreturn, 1) := by decide +kernel
theorem d3_73 : decode method_4_code 73 = .ok (.lload 14, 2) := by decide +kernel
theorem d3_75 : decode method_4_code 75 = .ok (.bipush 31, 2) := by decide +kernel
theorem d3_77 : decode method_4_code 77 = .ok (.lshl, 1) := by decide +kernel
theorem d3_78 : decode method_4_code 78 = .ok (.lload 8, 2) := by decide +kernel
theorem d3_80 : decode method_4_code 80 = .ok (.lload 12, 2) := by decide +kernel
theorem d3_82 : decode method_4_code 82 = .ok (.lmul, 1) := by decide +kernel
theorem d3_83 : decode method_4_code 83 = .ok (.ladd, 1) := by decide +kernel
theorem d3_84 : decode method_4_code 84 = .ok (.lstore 16, 2) := by decide +kernel
theorem d3_86 : decode method_4_code 86 = .ok (.lload 16, 2) := by decide +kernel
theorem d3_88 : decode method_4_code 88 = .ok (.lload 4, 2) := by decide +kernel
theorem d3_90 : decode method_4_code 90 = .ok (.invokestatic 36, 3) := by decide +kernel
theorem d3_93 : decode method_4_code 93 = .ok (.lreturn, 1) := by decide +kernel
abbrev Q_refx (Z : State) (a : Int64) (b : Int64) (h0 : Heap) : Option Value → Heap → List Loc → Prop := fun v h L => v = some (.long (own_refx a b)) ∧ h0 = h ∧ L = []
set_option maxRecDepth 65536 in
set_option maxHeartbeats 40000000 in
theorem rm_refx (l : Launch) (Z : State) (a0 : Array Value) (hw : ∀ d ∈ tables_1, d.before a0 Z = true) (a : Int64) (b : Int64) (h0 : Heap)  :
    own_Met l Z (⟨"com/example/viapost/viapost/core/PatternPartTimesPinLaw", "reference", "(JJ)J"⟩ : MethodName) method_4_code 18 (some .long) ({ frames := 1, cells := 0, slots := 0, locals := 15 } : Room) #[(.long a), (.long b)] h0 (Q_refx Z a b h0) := by
  refine own_enter (g0 := fun m => (mkF m 0 #[.val (.long a), .second, .val (.long b), .second, .unset, .unset, .unset, .unset, .unset, .unset, .unset, .unset, .unset, .unset, .unset, .unset, .unset, .unset] [])) (plainFor_of_name (by first | (simp [plainName, overriddenIn]; done) | decide +kernel)) (fun m => by first | (simp [entryFrame, mkF, argsToLocals, Value.category]; done) | rfl) ?_
  intro p e s m below meth c T hx hby hml hown hnm hZ hret hlk X e0
  replace hown : s.vm.findClass "com/example/viapost/viapost/core/PatternPartTimesPinLaw" = some m.cls := hown
  show own_Run p e below _ (T.setTop (mkF m 0 #[.val (.long a), .second, .val (.long b), .second, .unset, .unset, .unset, .unset, .unset, .unset, .unset, .unset, .unset, .unset, .unset, .unset, .unset, .unset] []))
  refine own_ldc2 X hx hZ hown (hw _ (List.mem_of_getElem? (i := 13) rfl)) rfl (hb hby d3_0) ?_
  show own_Run p e below _ (T.setTop (mkF m 3 #[.val (.long a), .second, .val (.long b), .second, .unset, .unset, .unset, .unset, .unset, .unset, .unset, .unset, .unset, .unset, .unset, .unset, .unset, .unset] [(.long (4611686018427387903 : Int64))]))
  refine own_go (fun _ kS => XS.lstore X.here hx rfl (hb hby d3_3) rfl (l' := #[.val (.long a), .second, .val (.long b), .second, .val (.long (4611686018427387903 : Int64)), .second, .unset, .unset, .unset, .unset, .unset, .unset, .unset, .unset, .unset, .unset, .unset, .unset]) rfl kS) ?_
  show own_Run p e below _ (T.setTop (mkF m 5 #[.val (.long a), .second, .val (.long b), .second, .val (.long (4611686018427387903 : Int64)), .second, .unset, .unset, .unset, .unset, .unset, .unset, .unset, .unset, .unset, .unset, .unset, .unset] []))
  refine own_go (fun _ kS => XS.lloadN X.here hx rfl (hb hby d3_5) rfl kS) ?_
  show own_Run p e below _ (T.setTop (mkF m 6 #[.val (.long a), .second, .val (.long b), .second, .val (.long (4611686018427387903 : Int64)), .second, .unset, .unset, .unset, .unset, .unset, .unset, .unset, .unset, .unset, .unset, .unset, .unset] [(.long a)]))
  refine own_go (fun _ kS => XS.bipush X.here hx rfl (hb hby d3_6) kS) ?_
  show own_Run p e below _ (T.setTop (mkF m 8 #[.val (.long a), .second, .val (.long b), .second, .val (.long (4611686018427387903 : Int64)), .second, .unset, .unset, .unset, .unset, .unset, .unset, .unset, .unset, .unset, .unset, .unset, .unset] [(.int (31 : Int32)), (.long a)]))
  refine own_go (fun _ kS => XS.lushr X.here hx rfl (hb hby d3_8) rfl kS) ?_
  show own_Run p e below _ (T.setTop (mkF m 9 #[.val (.long a), .second, .val (.long b), .second, .val (.long (4611686018427387903 : Int64)), .second, .unset, .unset, .unset, .unset, .unset, .unset, .unset, .unset, .unset, .unset, .unset, .unset] [(.long ((a.toUInt64 >>> ((31 : Int32) &&& 0x3f).toInt64.toUInt64).toInt64))]))
  refine own_go (fun _ kS => XS.lstore X.here hx rfl (hb hby d3_9) rfl (l' := #[.val (.long a), .second, .val (.long b), .second, .val (.long (4611686018427387903 : Int64)), .second, .val (.long ((a.toUInt64 >>> ((31 : Int32) &&& 0x3f).toInt64.toUInt64).toInt64)), .second, .unset, .unset, .unset, .unset, .unset, .unset, .unset, .unset, .unset, .unset]) rfl kS) ?_
  show own_Run p e below _ (T.setTop (mkF m 11 #[.val (.long a), .second, .val (.long b), .second, .val (.long (4611686018427387903 : Int64)), .second, .val (.long ((a.toUInt64 >>> ((31 : Int32) &&& 0x3f).toInt64.toUInt64).toInt64)), .second, .unset, .unset, .unset, .unset, .unset, .unset, .unset, .unset, .unset, .unset] []))
  refine own_go (fun _ kS => XS.lloadN X.here hx rfl (hb hby d3_11) rfl kS) ?_
  show own_Run p e below _ (T.setTop (mkF m 12 #[.val (.long a), .second, .val (.long b), .second, .val (.long (4611686018427387903 : Int64)), .second, .val (.long ((a.toUInt64 >>> ((31 : Int32) &&& 0x3f).toInt64.toUInt64).toInt64)), .second, .unset, .unset, .unset, .unset, .unset, .unset, .unset, .unset, .unset, .unset] [(.long a)]))
  refine own_ldc2 X hx hZ hown (hw _ (List.mem_of_getElem? (i := 14) rfl)) rfl (hb hby d3_12) ?_
  show own_Run p e below _ (T.setTop (mkF m 15 #[.val (.long a), .second, .val (.long b), .second, .val (.long (4611686018427387903 : Int64)), .second, .val (.long ((a.toUInt64 >>> ((31 : Int32) &&& 0x3f).toInt64.toUInt64).toInt64)), .second, .unset, .unset, .unset, .unset, .unset, .unset, .unset, .unset, .unset, .unset] [(.long (2147483647 : Int64)), (.long a)]))
  refine own_go (fun _ kS => XS.land X.here hx rfl (hb hby d3_15) rfl kS) ?_
  show own_Run p e below _ (T.setTop (mkF m 16 #[.val (.long a), .second, .val (.long b), .second, .val (.long (4611686018427387903 : Int64)), .second, .val (.long ((a.toUInt64 >>> ((31 : Int32) &&& 0x3f).toInt64.toUInt64).toInt64)), .second, .unset, .unset, .unset, .unset, .unset, .unset, .unset, .unset, .unset, .unset] [(.long (a &&& (2147483647 : Int64)))]))
  refine own_go (fun _ kS => XS.lstore X.here hx rfl (hb hby d3_16) rfl (l' := #[.val (.long a), .second, .val (.long b), .second, .val (.long (4611686018427387903 : Int64)), .second, .val (.long ((a.toUInt64 >>> ((31 : Int32) &&& 0x3f).toInt64.toUInt64).toInt64)), .second, .val (.long (a &&& (2147483647 : Int64))), .second, .unset, .unset, .unset, .unset, .unset, .unset, .unset, .unset]) rfl kS) ?_
  show own_Run p e below _ (T.setTop (mkF m 18 #[.val (.long a), .second, .val (.long b), .second, .val (.long (4611686018427387903 : Int64)), .second, .val (.long ((a.toUInt64 >>> ((31 : Int32) &&& 0x3f).toInt64.toUInt64).toInt64)), .second, .val (.long (a &&& (2147483647 : Int64))), .second, .unset, .unset, .unset, .unset, .unset, .unset, .unset, .unset] []))
  refine own_go (fun _ kS => XS.lloadN X.here hx rfl (hb hby d3_18) rfl kS) ?_
  show own_Run p e below _ (T.setTop (mkF m 19 #[.val (.long a), .second, .val (.long b), .second, .val (.long (4611686018427387903 : Int64)), .second, .val (.long ((a.toUInt64 >>> ((31 : Int32) &&& 0x3f).toInt64.toUInt64).toInt64)), .second, .val (.long (a &&& (2147483647 : Int64))), .second, .unset, .unset, .unset, .unset, .unset, .unset, .unset, .unset] [(.long b)]))
  refine own_go (fun _ kS => XS.bipush X.here hx rfl (hb hby d3_19) kS) ?_
  show own_Run p e below _ (T.setTop (mkF m 21 #[.val (.long a), .second, .val (.long b), .second, .val (.long (4611686018427387903 : Int64)), .second, .val (.long ((a.toUInt64 >>> ((31 : Int32) &&& 0x3f).toInt64.toUInt64).toInt64)), .second, .val (.long (a &&& (2147483647 : Int64))), .second, .unset, .unset, .unset, .unset, .unset, .unset, .unset, .unset] [(.int (31 : Int32)), (.long b)]))
  refine own_go (fun _ kS => XS.lushr X.here hx rfl (hb hby d3_21) rfl kS) ?_
  show own_Run p e below _ (T.setTop (mkF m 22 #[.val (.long a), .second, .val (.long b), .second, .val (.long (4611686018427387903 : Int64)), .second, .val (.long ((a.toUInt64 >>> ((31 : Int32) &&& 0x3f).toInt64.toUInt64).toInt64)), .second, .val (.long (a &&& (2147483647 : Int64))), .second, .unset, .unset, .unset, .unset, .unset, .unset, .unset, .unset] [(.long ((b.toUInt64 >>> ((31 : Int32) &&& 0x3f).toInt64.toUInt64).toInt64))]))
  refine own_go (fun _ kS => XS.lstore X.here hx rfl (hb hby d3_22) rfl (l' := #[.val (.long a), .second, .val (.long b), .second, .val (.long (4611686018427387903 : Int64)), .second, .val (.long ((a.toUInt64 >>> ((31 : Int32) &&& 0x3f).toInt64.toUInt64).toInt64)), .second, .val (.long (a &&& (2147483647 : Int64))), .second, .val (.long ((b.toUInt64 >>> ((31 : Int32) &&& 0x3f).toInt64.toUInt64).toInt64)), .second, .unset, .unset, .unset, .unset, .unset, .unset]) rfl kS) ?_
  show own_Run p e below _ (T.setTop (mkF m 24 #[.val (.long a), .second, .val (.long b), .second, .val (.long (4611686018427387903 : Int64)), .second, .val (.long ((a.toUInt64 >>> ((31 : Int32) &&& 0x3f).toInt64.toUInt64).toInt64)), .second, .val (.long (a &&& (2147483647 : Int64))), .second, .val (.long ((b.toUInt64 >>> ((31 : Int32) &&& 0x3f).toInt64.toUInt64).toInt64)), .second, .unset, .unset, .unset, .unset, .unset, .unset] []))
  refine own_go (fun _ kS => XS.lloadN X.here hx rfl (hb hby d3_24) rfl kS) ?_
  show own_Run p e below _ (T.setTop (mkF m 25 #[.val (.long a), .second, .val (.long b), .second, .val (.long (4611686018427387903 : Int64)), .second, .val (.long ((a.toUInt64 >>> ((31 : Int32) &&& 0x3f).toInt64.toUInt64).toInt64)), .second, .val (.long (a &&& (2147483647 : Int64))), .second, .val (.long ((b.toUInt64 >>> ((31 : Int32) &&& 0x3f).toInt64.toUInt64).toInt64)), .second, .unset, .unset, .unset, .unset, .unset, .unset] [(.long b)]))
  refine own_ldc2 X hx hZ hown (hw _ (List.mem_of_getElem? (i := 14) rfl)) rfl (hb hby d3_25) ?_
  show own_Run p e below _ (T.setTop (mkF m 28 #[.val (.long a), .second, .val (.long b), .second, .val (.long (4611686018427387903 : Int64)), .second, .val (.long ((a.toUInt64 >>> ((31 : Int32) &&& 0x3f).toInt64.toUInt64).toInt64)), .second, .val (.long (a &&& (2147483647 : Int64))), .second, .val (.long ((b.toUInt64 >>> ((31 : Int32) &&& 0x3f).toInt64.toUInt64).toInt64)), .second, .unset, .unset, .unset, .unset, .unset, .unset] [(.long (2147483647 : Int64)), (.long b)]))
  refine own_go (fun _ kS => XS.land X.here hx rfl (hb hby d3_28) rfl kS) ?_
  show own_Run p e below _ (T.setTop (mkF m 29 #[.val (.long a), .second, .val (.long b), .second, .val (.long (4611686018427387903 : Int64)), .second, .val (.long ((a.toUInt64 >>> ((31 : Int32) &&& 0x3f).toInt64.toUInt64).toInt64)), .second, .val (.long (a &&& (2147483647 : Int64))), .second, .val (.long ((b.toUInt64 >>> ((31 : Int32) &&& 0x3f).toInt64.toUInt64).toInt64)), .second, .unset, .unset, .unset, .unset, .unset, .unset] [(.long (b &&& (2147483647 : Int64)))]))
  refine own_go (fun _ kS => XS.lstore X.here hx rfl (hb hby d3_29) rfl (l' := #[.val (.long a), .second, .val (.long b), .second, .val (.long (4611686018427387903 : Int64)), .second, .val (.long ((a.toUInt64 >>> ((31 : Int32) &&& 0x3f).toInt64.toUInt64).toInt64)), .second, .val (.long (a &&& (2147483647 : Int64))), .second, .val (.long ((b.toUInt64 >>> ((31 : Int32) &&& 0x3f).toInt64.toUInt64).toInt64)), .second, .val (.long (b &&& (2147483647 : Int64))), .second, .unset, .unset, .unset, .unset]) rfl kS) ?_
  show own_Run p e below _ (T.setTop (mkF m 31 #[.val (.long a), .second, .val (.long b), .second, .val (.long (4611686018427387903 : Int64)), .second, .val (.long ((a.toUInt64 >>> ((31 : Int32) &&& 0x3f).toInt64.toUInt64).toInt64)), .second, .val (.long (a &&& (2147483647 : Int64))), .second, .val (.long ((b.toUInt64 >>> ((31 : Int32) &&& 0x3f).toInt64.toUInt64).toInt64)), .second, .val (.long (b &&& (2147483647 : Int64))), .second, .unset, .unset, .unset, .unset] []))
  refine own_go (fun _ kS => XS.lload X.here hx rfl (hb hby d3_31) rfl kS) ?_
  show own_Run p e below _ (T.setTop (mkF m 33 #[.val (.long a), .second, .val (.long b), .second, .val (.long (4611686018427387903 : Int64)), .second, .val (.long ((a.toUInt64 >>> ((31 : Int32) &&& 0x3f).toInt64.toUInt64).toInt64)), .second, .val (.long (a &&& (2147483647 : Int64))), .second, .val (.long ((b.toUInt64 >>> ((31 : Int32) &&& 0x3f).toInt64.toUInt64).toInt64)), .second, .val (.long (b &&& (2147483647 : Int64))), .second, .unset, .unset, .unset, .unset] [(.long ((a.toUInt64 >>> ((31 : Int32) &&& 0x3f).toInt64.toUInt64).toInt64))]))
  refine own_go (fun _ kS => XS.lconst X.here hx rfl (hb hby d3_33) kS) ?_
  show own_Run p e below _ (T.setTop (mkF m 34 #[.val (.long a), .second, .val (.long b), .second, .val (.long (4611686018427387903 : Int64)), .second, .val (.long ((a.toUInt64 >>> ((31 : Int32) &&& 0x3f).toInt64.toUInt64).toInt64)), .second, .val (.long (a &&& (2147483647 : Int64))), .second, .val (.long ((b.toUInt64 >>> ((31 : Int32) &&& 0x3f).toInt64.toUInt64).toInt64)), .second, .val (.long (b &&& (2147483647 : Int64))), .second, .unset, .unset, .unset, .unset] [(.long (0 : Int64)), (.long ((a.toUInt64 >>> ((31 : Int32) &&& 0x3f).toInt64.toUInt64).toInt64))]))
  refine own_go (fun _ kS => XS.lcmp X.here hx rfl (hb hby d3_34) rfl kS) ?_
  show own_Run p e below _ (T.setTop (mkF m 35 #[.val (.long a), .second, .val (.long b), .second, .val (.long (4611686018427387903 : Int64)), .second, .val (.long ((a.toUInt64 >>> ((31 : Int32) &&& 0x3f).toInt64.toUInt64).toInt64)), .second, .val (.long (a &&& (2147483647 : Int64))), .second, .val (.long ((b.toUInt64 >>> ((31 : Int32) &&& 0x3f).toInt64.toUInt64).toInt64)), .second, .val (.long (b &&& (2147483647 : Int64))), .second, .unset, .unset, .unset, .unset] [(.int (lcmpW ((a.toUInt64 >>> ((31 : Int32) &&& 0x3f).toInt64.toUInt64).toInt64) (0 : Int64)))]))
  by_cases hc35 : ((a.toUInt64 >>> ((31 : Int32) &&& 0x3f).toInt64.toUInt64).toInt64) = (0 : Int64)
  · refine own_go (fun _ kS => XS.ifYes X.here hx rfl (pc0 := 35) (pc' := 48) rfl (hb hby d3_35) rfl ((if0 _ _).trans (teq ((lw_eq ((a.toUInt64 >>> ((31 : Int32) &&& 0x3f).toInt64.toUInt64).toInt64) (0 : Int64)).mpr hc35)).1) (by decide) (by decide) kS) ?_
    show own_Run p e below _ (T.setTop (mkF m 48 #[.val (.long a), .second, .val (.long b), .second, .val (.long (4611686018427387903 : Int64)), .second, .val (.long ((a.toUInt64 >>> ((31 : Int32) &&& 0x3f).toInt64.toUInt64).toInt64)), .second, .val (.long (a &&& (2147483647 : Int64))), .second, .val (.long ((b.toUInt64 >>> ((31 : Int32) &&& 0x3f).toInt64.toUInt64).toInt64)), .second, .val (.long (b &&& (2147483647 : Int64))), .second, .unset, .unset, .unset, .unset] []))
    refine own_go (fun _ kS => XS.lload X.here hx rfl (hb hby d3_48) rfl kS) ?_
    show own_Run p e below _ (T.setTop (mkF m 50 #[.val (.long a), .second, .val (.long b), .second, .val (.long (4611686018427387903 : Int64)), .second, .val (.long ((a.toUInt64 >>> ((31 : Int32) &&& 0x3f).toInt64.toUInt64).toInt64)), .second, .val (.long (a &&& (2147483647 : Int64))), .second, .val (.long ((b.toUInt64 >>> ((31 : Int32) &&& 0x3f).toInt64.toUInt64).toInt64)), .second, .val (.long (b &&& (2147483647 : Int64))), .second, .unset, .unset, .unset, .unset] [(.long ((a.toUInt64 >>> ((31 : Int32) &&& 0x3f).toInt64.toUInt64).toInt64))]))
    refine own_go (fun _ kS => XS.lload X.here hx rfl (hb hby d3_50) rfl kS) ?_
    show own_Run p e below _ (T.setTop (mkF m 52 #[.val (.long a), .second, .val (.long b), .second, .val (.long (4611686018427387903 : Int64)), .second, .val (.long ((a.toUInt64 >>> ((31 : Int32) &&& 0x3f).toInt64.toUInt64).toInt64)), .second, .val (.long (a &&& (2147483647 : Int64))), .second, .val (.long ((b.toUInt64 >>> ((31 : Int32) &&& 0x3f).toInt64.toUInt64).toInt64)), .second, .val (.long (b &&& (2147483647 : Int64))), .second, .unset, .unset, .unset, .unset] [(.long (b &&& (2147483647 : Int64))), (.long ((a.toUInt64 >>> ((31 : Int32) &&& 0x3f).toInt64.toUInt64).toInt64))]))
    refine own_go (fun _ kS => XS.lmul X.here hx rfl (hb hby d3_52) rfl kS) ?_
    show own_Run p e below _ (T.setTop (mkF m 53 #[.val (.long a), .second, .val (.long b), .second, .val (.long (4611686018427387903 : Int64)), .second, .val (.long ((a.toUInt64 >>> ((31 : Int32) &&& 0x3f).toInt64.toUInt64).toInt64)), .second, .val (.long (a &&& (2147483647 : Int64))), .second, .val (.long ((b.toUInt64 >>> ((31 : Int32) &&& 0x3f).toInt64.toUInt64).toInt64)), .second, .val (.long (b &&& (2147483647 : Int64))), .second, .unset, .unset, .unset, .unset] [(.long (((a.toUInt64 >>> ((31 : Int32) &&& 0x3f).toInt64.toUInt64).toInt64) * (b &&& (2147483647 : Int64))))]))
    refine own_go (fun _ kS => XS.lload X.here hx rfl (hb hby d3_53) rfl kS) ?_
    show own_Run p e below _ (T.setTop (mkF m 55 #[.val (.long a), .second, .val (.long b), .second, .val (.long (4611686018427387903 : Int64)), .second, .val (.long ((a.toUInt64 >>> ((31 : Int32) &&& 0x3f).toInt64.toUInt64).toInt64)), .second, .val (.long (a &&& (2147483647 : Int64))), .second, .val (.long ((b.toUInt64 >>> ((31 : Int32) &&& 0x3f).toInt64.toUInt64).toInt64)), .second, .val (.long (b &&& (2147483647 : Int64))), .second, .unset, .unset, .unset, .unset] [(.long (a &&& (2147483647 : Int64))), (.long (((a.toUInt64 >>> ((31 : Int32) &&& 0x3f).toInt64.toUInt64).toInt64) * (b &&& (2147483647 : Int64))))]))
    refine own_go (fun _ kS => XS.lload X.here hx rfl (hb hby d3_55) rfl kS) ?_
    show own_Run p e below _ (T.setTop (mkF m 57 #[.val (.long a), .second, .val (.long b), .second, .val (.long (4611686018427387903 : Int64)), .second, .val (.long ((a.toUInt64 >>> ((31 : Int32) &&& 0x3f).toInt64.toUInt64).toInt64)), .second, .val (.long (a &&& (2147483647 : Int64))), .second, .val (.long ((b.toUInt64 >>> ((31 : Int32) &&& 0x3f).toInt64.toUInt64).toInt64)), .second, .val (.long (b &&& (2147483647 : Int64))), .second, .unset, .unset, .unset, .unset] [(.long ((b.toUInt64 >>> ((31 : Int32) &&& 0x3f).toInt64.toUInt64).toInt64)), (.long (a &&& (2147483647 : Int64))), (.long (((a.toUInt64 >>> ((31 : Int32) &&& 0x3f).toInt64.toUInt64).toInt64) * (b &&& (2147483647 : Int64))))]))
    refine own_go (fun _ kS => XS.lmul X.here hx rfl (hb hby d3_57) rfl kS) ?_
    show own_Run p e below _ (T.setTop (mkF m 58 #[.val (.long a), .second, .val (.long b), .second, .val (.long (4611686018427387903 : Int64)), .second, .val (.long ((a.toUInt64 >>> ((31 : Int32) &&& 0x3f).toInt64.toUInt64).toInt64)), .second, .val (.long (a &&& (2147483647 : Int64))), .second, .val (.long ((b.toUInt64 >>> ((31 : Int32) &&& 0x3f).toInt64.toUInt64).toInt64)), .second, .val (.long (b &&& (2147483647 : Int64))), .second, .unset, .unset, .unset, .unset] [(.long ((a &&& (2147483647 : Int64)) * ((b.toUInt64 >>> ((31 : Int32) &&& 0x3f).toInt64.toUInt64).toInt64))), (.long (((a.toUInt64 >>> ((31 : Int32) &&& 0x3f).toInt64.toUInt64).toInt64) * (b &&& (2147483647 : Int64))))]))
    refine own_go (fun _ kS => XS.ladd X.here hx rfl (hb hby d3_58) rfl kS) ?_
    show own_Run p e below _ (T.setTop (mkF m 59 #[.val (.long a), .second, .val (.long b), .second, .val (.long (4611686018427387903 : Int64)), .second, .val (.long ((a.toUInt64 >>> ((31 : Int32) &&& 0x3f).toInt64.toUInt64).toInt64)), .second, .val (.long (a &&& (2147483647 : Int64))), .second, .val (.long ((b.toUInt64 >>> ((31 : Int32) &&& 0x3f).toInt64.toUInt64).toInt64)), .second, .val (.long (b &&& (2147483647 : Int64))), .second, .unset, .unset, .unset, .unset] [(.long ((((a.toUInt64 >>> ((31 : Int32) &&& 0x3f).toInt64.toUInt64).toInt64) * (b &&& (2147483647 : Int64))) + ((a &&& (2147483647 : Int64)) * ((b.toUInt64 >>> ((31 : Int32) &&& 0x3f).toInt64.toUInt64).toInt64))))]))
    refine own_go (fun _ kS => XS.lstore X.here hx rfl (hb hby d3_59) rfl (l' := #[.val (.long a), .second, .val (.long b), .second, .val (.long (4611686018427387903 : Int64)), .second, .val (.long ((a.toUInt64 >>> ((31 : Int32) &&& 0x3f).toInt64.toUInt64).toInt64)), .second, .val (.long (a &&& (2147483647 : Int64))), .second, .val (.long ((b.toUInt64 >>> ((31 : Int32) &&& 0x3f).toInt64.toUInt64).toInt64)), .second, .val (.long (b &&& (2147483647 : Int64))), .second, .val (.long ((((a.toUInt64 >>> ((31 : Int32) &&& 0x3f).toInt64.toUInt64).toInt64) * (b &&& (2147483647 : Int64))) + ((a &&& (2147483647 : Int64)) * ((b.toUInt64 >>> ((31 : Int32) &&& 0x3f).toInt64.toUInt64).toInt64)))), .second, .unset, .unset]) rfl kS) ?_
    show own_Run p e below _ (T.setTop (mkF m 61 #[.val (.long a), .second, .val (.long b), .second, .val (.long (4611686018427387903 : Int64)), .second, .val (.long ((a.toUInt64 >>> ((31 : Int32) &&& 0x3f).toInt64.toUInt64).toInt64)), .second, .val (.long (a &&& (2147483647 : Int64))), .second, .val (.long ((b.toUInt64 >>> ((31 : Int32) &&& 0x3f).toInt64.toUInt64).toInt64)), .second, .val (.long (b &&& (2147483647 : Int64))), .second, .val (.long ((((a.toUInt64 >>> ((31 : Int32) &&& 0x3f).toInt64.toUInt64).toInt64) * (b &&& (2147483647 : Int64))) + ((a &&& (2147483647 : Int64)) * ((b.toUInt64 >>> ((31 : Int32) &&& 0x3f).toInt64.toUInt64).toInt64)))), .second, .unset, .unset] []))
    refine own_go (fun _ kS => XS.lload X.here hx rfl (hb hby d3_61) rfl kS) ?_
    show own_Run p e below _ (T.setTop (mkF m 63 #[.val (.long a), .second, .val (.long b), .second, .val (.long (4611686018427387903 : Int64)), .second, .val (.long ((a.toUInt64 >>> ((31 : Int32) &&& 0x3f).toInt64.toUInt64).toInt64)), .second, .val (.long (a &&& (2147483647 : Int64))), .second, .val (.long ((b.toUInt64 >>> ((31 : Int32) &&& 0x3f).toInt64.toUInt64).toInt64)), .second, .val (.long (b &&& (2147483647 : Int64))), .second, .val (.long ((((a.toUInt64 >>> ((31 : Int32) &&& 0x3f).toInt64.toUInt64).toInt64) * (b &&& (2147483647 : Int64))) + ((a &&& (2147483647 : Int64)) * ((b.toUInt64 >>> ((31 : Int32) &&& 0x3f).toInt64.toUInt64).toInt64)))), .second, .unset, .unset] [(.long ((((a.toUInt64 >>> ((31 : Int32) &&& 0x3f).toInt64.toUInt64).toInt64) * (b &&& (2147483647 : Int64))) + ((a &&& (2147483647 : Int64)) * ((b.toUInt64 >>> ((31 : Int32) &&& 0x3f).toInt64.toUInt64).toInt64))))]))
    refine own_ldc2 X hx hZ hown (hw _ (List.mem_of_getElem? (i := 15) rfl)) rfl (hb hby d3_63) ?_
    show own_Run p e below _ (T.setTop (mkF m 66 #[.val (.long a), .second, .val (.long b), .second, .val (.long (4611686018427387903 : Int64)), .second, .val (.long ((a.toUInt64 >>> ((31 : Int32) &&& 0x3f).toInt64.toUInt64).toInt64)), .second, .val (.long (a &&& (2147483647 : Int64))), .second, .val (.long ((b.toUInt64 >>> ((31 : Int32) &&& 0x3f).toInt64.toUInt64).toInt64)), .second, .val (.long (b &&& (2147483647 : Int64))), .second, .val (.long ((((a.toUInt64 >>> ((31 : Int32) &&& 0x3f).toInt64.toUInt64).toInt64) * (b &&& (2147483647 : Int64))) + ((a &&& (2147483647 : Int64)) * ((b.toUInt64 >>> ((31 : Int32) &&& 0x3f).toInt64.toUInt64).toInt64)))), .second, .unset, .unset] [(.long (2147483648 : Int64)), (.long ((((a.toUInt64 >>> ((31 : Int32) &&& 0x3f).toInt64.toUInt64).toInt64) * (b &&& (2147483647 : Int64))) + ((a &&& (2147483647 : Int64)) * ((b.toUInt64 >>> ((31 : Int32) &&& 0x3f).toInt64.toUInt64).toInt64))))]))
    refine own_go (fun _ kS => XS.lcmp X.here hx rfl (hb hby d3_66) rfl kS) ?_
    show own_Run p e below _ (T.setTop (mkF m 67 #[.val (.long a), .second, .val (.long b), .second, .val (.long (4611686018427387903 : Int64)), .second, .val (.long ((a.toUInt64 >>> ((31 : Int32) &&& 0x3f).toInt64.toUInt64).toInt64)), .second, .val (.long (a &&& (2147483647 : Int64))), .second, .val (.long ((b.toUInt64 >>> ((31 : Int32) &&& 0x3f).toInt64.toUInt64).toInt64)), .second, .val (.long (b &&& (2147483647 : Int64))), .second, .val (.long ((((a.toUInt64 >>> ((31 : Int32) &&& 0x3f).toInt64.toUInt64).toInt64) * (b &&& (2147483647 : Int64))) + ((a &&& (2147483647 : Int64)) * ((b.toUInt64 >>> ((31 : Int32) &&& 0x3f).toInt64.toUInt64).toInt64)))), .second, .unset, .unset] [(.int (lcmpW ((((a.toUInt64 >>> ((31 : Int32) &&& 0x3f).toInt64.toUInt64).toInt64) * (b &&& (2147483647 : Int64))) + ((a &&& (2147483647 : Int64)) * ((b.toUInt64 >>> ((31 : Int32) &&& 0x3f).toInt64.toUInt64).toInt64))) (2147483648 : Int64)))]))
    by_cases hc67 : ((((a.toUInt64 >>> ((31 : Int32) &&& 0x3f).toInt64.toUInt64).toInt64) * (b &&& (2147483647 : Int64))) + ((a &&& (2147483647 : Int64)) * ((b.toUInt64 >>> ((31 : Int32) &&& 0x3f).toInt64.toUInt64).toInt64))) < (2147483648 : Int64)
    · refine own_go (fun _ kS => XS.ifYes X.here hx rfl (pc0 := 67) (pc' := 73) rfl (hb hby d3_67) rfl ((if0 _ _).trans (tlt ((lw_lt ((((a.toUInt64 >>> ((31 : Int32) &&& 0x3f).toInt64.toUInt64).toInt64) * (b &&& (2147483647 : Int64))) + ((a &&& (2147483647 : Int64)) * ((b.toUInt64 >>> ((31 : Int32) &&& 0x3f).toInt64.toUInt64).toInt64))) (2147483648 : Int64)).mpr hc67)).1) (by decide) (by decide) kS) ?_
      show own_Run p e below _ (T.setTop (mkF m 73 #[.val (.long a), .second, .val (.long b), .second, .val (.long (4611686018427387903 : Int64)), .second, .val (.long ((a.toUInt64 >>> ((31 : Int32) &&& 0x3f).toInt64.toUInt64).toInt64)), .second, .val (.long (a &&& (2147483647 : Int64))), .second, .val (.long ((b.toUInt64 >>> ((31 : Int32) &&& 0x3f).toInt64.toUInt64).toInt64)), .second, .val (.long (b &&& (2147483647 : Int64))), .second, .val (.long ((((a.toUInt64 >>> ((31 : Int32) &&& 0x3f).toInt64.toUInt64).toInt64) * (b &&& (2147483647 : Int64))) + ((a &&& (2147483647 : Int64)) * ((b.toUInt64 >>> ((31 : Int32) &&& 0x3f).toInt64.toUInt64).toInt64)))), .second, .unset, .unset] []))
      refine own_go (fun _ kS => XS.lload X.here hx rfl (hb hby d3_73) rfl kS) ?_
      show own_Run p e below _ (T.setTop (mkF m 75 #[.val (.long a), .second, .val (.long b), .second, .val (.long (4611686018427387903 : Int64)), .second, .val (.long ((a.toUInt64 >>> ((31 : Int32) &&& 0x3f).toInt64.toUInt64).toInt64)), .second, .val (.long (a &&& (2147483647 : Int64))), .second, .val (.long ((b.toUInt64 >>> ((31 : Int32) &&& 0x3f).toInt64.toUInt64).toInt64)), .second, .val (.long (b &&& (2147483647 : Int64))), .second, .val (.long ((((a.toUInt64 >>> ((31 : Int32) &&& 0x3f).toInt64.toUInt64).toInt64) * (b &&& (2147483647 : Int64))) + ((a &&& (2147483647 : Int64)) * ((b.toUInt64 >>> ((31 : Int32) &&& 0x3f).toInt64.toUInt64).toInt64)))), .second, .unset, .unset] [(.long ((((a.toUInt64 >>> ((31 : Int32) &&& 0x3f).toInt64.toUInt64).toInt64) * (b &&& (2147483647 : Int64))) + ((a &&& (2147483647 : Int64)) * ((b.toUInt64 >>> ((31 : Int32) &&& 0x3f).toInt64.toUInt64).toInt64))))]))
      refine own_go (fun _ kS => XS.bipush X.here hx rfl (hb hby d3_75) kS) ?_
      show own_Run p e below _ (T.setTop (mkF m 77 #[.val (.long a), .second, .val (.long b), .second, .val (.long (4611686018427387903 : Int64)), .second, .val (.long ((a.toUInt64 >>> ((31 : Int32) &&& 0x3f).toInt64.toUInt64).toInt64)), .second, .val (.long (a &&& (2147483647 : Int64))), .second, .val (.long ((b.toUInt64 >>> ((31 : Int32) &&& 0x3f).toInt64.toUInt64).toInt64)), .second, .val (.long (b &&& (2147483647 : Int64))), .second, .val (.long ((((a.toUInt64 >>> ((31 : Int32) &&& 0x3f).toInt64.toUInt64).toInt64) * (b &&& (2147483647 : Int64))) + ((a &&& (2147483647 : Int64)) * ((b.toUInt64 >>> ((31 : Int32) &&& 0x3f).toInt64.toUInt64).toInt64)))), .second, .unset, .unset] [(.int (31 : Int32)), (.long ((((a.toUInt64 >>> ((31 : Int32) &&& 0x3f).toInt64.toUInt64).toInt64) * (b &&& (2147483647 : Int64))) + ((a &&& (2147483647 : Int64)) * ((b.toUInt64 >>> ((31 : Int32) &&& 0x3f).toInt64.toUInt64).toInt64))))]))
      refine own_go (fun _ kS => XS.lshl X.here hx rfl (hb hby d3_77) rfl kS) ?_
      show own_Run p e below _ (T.setTop (mkF m 78 #[.val (.long a), .second, .val (.long b), .second, .val (.long (4611686018427387903 : Int64)), .second, .val (.long ((a.toUInt64 >>> ((31 : Int32) &&& 0x3f).toInt64.toUInt64).toInt64)), .second, .val (.long (a &&& (2147483647 : Int64))), .second, .val (.long ((b.toUInt64 >>> ((31 : Int32) &&& 0x3f).toInt64.toUInt64).toInt64)), .second, .val (.long (b &&& (2147483647 : Int64))), .second, .val (.long ((((a.toUInt64 >>> ((31 : Int32) &&& 0x3f).toInt64.toUInt64).toInt64) * (b &&& (2147483647 : Int64))) + ((a &&& (2147483647 : Int64)) * ((b.toUInt64 >>> ((31 : Int32) &&& 0x3f).toInt64.toUInt64).toInt64)))), .second, .unset, .unset] [(.long (((((a.toUInt64 >>> ((31 : Int32) &&& 0x3f).toInt64.toUInt64).toInt64) * (b &&& (2147483647 : Int64))) + ((a &&& (2147483647 : Int64)) * ((b.toUInt64 >>> ((31 : Int32) &&& 0x3f).toInt64.toUInt64).toInt64))) <<< ((31 : Int32) &&& 0x3f).toInt64))]))
      refine own_go (fun _ kS => XS.lload X.here hx rfl (hb hby d3_78) rfl kS) ?_
      show own_Run p e below _ (T.setTop (mkF m 80 #[.val (.long a), .second, .val (.long b), .second, .val (.long (4611686018427387903 : Int64)), .second, .val (.long ((a.toUInt64 >>> ((31 : Int32) &&& 0x3f).toInt64.toUInt64).toInt64)), .second, .val (.long (a &&& (2147483647 : Int64))), .second, .val (.long ((b.toUInt64 >>> ((31 : Int32) &&& 0x3f).toInt64.toUInt64).toInt64)), .second, .val (.long (b &&& (2147483647 : Int64))), .second, .val (.long ((((a.toUInt64 >>> ((31 : Int32) &&& 0x3f).toInt64.toUInt64).toInt64) * (b &&& (2147483647 : Int64))) + ((a &&& (2147483647 : Int64)) * ((b.toUInt64 >>> ((31 : Int32) &&& 0x3f).toInt64.toUInt64).toInt64)))), .second, .unset, .unset] [(.long (a &&& (2147483647 : Int64))), (.long (((((a.toUInt64 >>> ((31 : Int32) &&& 0x3f).toInt64.toUInt64).toInt64) * (b &&& (2147483647 : Int64))) + ((a &&& (2147483647 : Int64)) * ((b.toUInt64 >>> ((31 : Int32) &&& 0x3f).toInt64.toUInt64).toInt64))) <<< ((31 : Int32) &&& 0x3f).toInt64))]))
      refine own_go (fun _ kS => XS.lload X.here hx rfl (hb hby d3_80) rfl kS) ?_
      show own_Run p e below _ (T.setTop (mkF m 82 #[.val (.long a), .second, .val (.long b), .second, .val (.long (4611686018427387903 : Int64)), .second, .val (.long ((a.toUInt64 >>> ((31 : Int32) &&& 0x3f).toInt64.toUInt64).toInt64)), .second, .val (.long (a &&& (2147483647 : Int64))), .second, .val (.long ((b.toUInt64 >>> ((31 : Int32) &&& 0x3f).toInt64.toUInt64).toInt64)), .second, .val (.long (b &&& (2147483647 : Int64))), .second, .val (.long ((((a.toUInt64 >>> ((31 : Int32) &&& 0x3f).toInt64.toUInt64).toInt64) * (b &&& (2147483647 : Int64))) + ((a &&& (2147483647 : Int64)) * ((b.toUInt64 >>> ((31 : Int32) &&& 0x3f).toInt64.toUInt64).toInt64)))), .second, .unset, .unset] [(.long (b &&& (2147483647 : Int64))), (.long (a &&& (2147483647 : Int64))), (.long (((((a.toUInt64 >>> ((31 : Int32) &&& 0x3f).toInt64.toUInt64).toInt64) * (b &&& (2147483647 : Int64))) + ((a &&& (2147483647 : Int64)) * ((b.toUInt64 >>> ((31 : Int32) &&& 0x3f).toInt64.toUInt64).toInt64))) <<< ((31 : Int32) &&& 0x3f).toInt64))]))
      refine own_go (fun _ kS => XS.lmul X.here hx rfl (hb hby d3_82) rfl kS) ?_
      show own_Run p e below _ (T.setTop (mkF m 83 #[.val (.long a), .second, .val (.long b), .second, .val (.long (4611686018427387903 : Int64)), .second, .val (.long ((a.toUInt64 >>> ((31 : Int32) &&& 0x3f).toInt64.toUInt64).toInt64)), .second, .val (.long (a &&& (2147483647 : Int64))), .second, .val (.long ((b.toUInt64 >>> ((31 : Int32) &&& 0x3f).toInt64.toUInt64).toInt64)), .second, .val (.long (b &&& (2147483647 : Int64))), .second, .val (.long ((((a.toUInt64 >>> ((31 : Int32) &&& 0x3f).toInt64.toUInt64).toInt64) * (b &&& (2147483647 : Int64))) + ((a &&& (2147483647 : Int64)) * ((b.toUInt64 >>> ((31 : Int32) &&& 0x3f).toInt64.toUInt64).toInt64)))), .second, .unset, .unset] [(.long ((a &&& (2147483647 : Int64)) * (b &&& (2147483647 : Int64)))), (.long (((((a.toUInt64 >>> ((31 : Int32) &&& 0x3f).toInt64.toUInt64).toInt64) * (b &&& (2147483647 : Int64))) + ((a &&& (2147483647 : Int64)) * ((b.toUInt64 >>> ((31 : Int32) &&& 0x3f).toInt64.toUInt64).toInt64))) <<< ((31 : Int32) &&& 0x3f).toInt64))]))
      refine own_go (fun _ kS => XS.ladd X.here hx rfl (hb hby d3_83) rfl kS) ?_
      show own_Run p e below _ (T.setTop (mkF m 84 #[.val (.long a), .second, .val (.long b), .second, .val (.long (4611686018427387903 : Int64)), .second, .val (.long ((a.toUInt64 >>> ((31 : Int32) &&& 0x3f).toInt64.toUInt64).toInt64)), .second, .val (.long (a &&& (2147483647 : Int64))), .second, .val (.long ((b.toUInt64 >>> ((31 : Int32) &&& 0x3f).toInt64.toUInt64).toInt64)), .second, .val (.long (b &&& (2147483647 : Int64))), .second, .val (.long ((((a.toUInt64 >>> ((31 : Int32) &&& 0x3f).toInt64.toUInt64).toInt64) * (b &&& (2147483647 : Int64))) + ((a &&& (2147483647 : Int64)) * ((b.toUInt64 >>> ((31 : Int32) &&& 0x3f).toInt64.toUInt64).toInt64)))), .second, .unset, .unset] [(.long ((((((a.toUInt64 >>> ((31 : Int32) &&& 0x3f).toInt64.toUInt64).toInt64) * (b &&& (2147483647 : Int64))) + ((a &&& (2147483647 : Int64)) * ((b.toUInt64 >>> ((31 : Int32) &&& 0x3f).toInt64.toUInt64).toInt64))) <<< ((31 : Int32) &&& 0x3f).toInt64) + ((a &&& (2147483647 : Int64)) * (b &&& (2147483647 : Int64)))))]))
      refine own_go (fun _ kS => XS.lstore X.here hx rfl (hb hby d3_84) rfl (l' := #[.val (.long a), .second, .val (.long b), .second, .val (.long (4611686018427387903 : Int64)), .second, .val (.long ((a.toUInt64 >>> ((31 : Int32) &&& 0x3f).toInt64.toUInt64).toInt64)), .second, .val (.long (a &&& (2147483647 : Int64))), .second, .val (.long ((b.toUInt64 >>> ((31 : Int32) &&& 0x3f).toInt64.toUInt64).toInt64)), .second, .val (.long (b &&& (2147483647 : Int64))), .second, .val (.long ((((a.toUInt64 >>> ((31 : Int32) &&& 0x3f).toInt64.toUInt64).toInt64) * (b &&& (2147483647 : Int64))) + ((a &&& (2147483647 : Int64)) * ((b.toUInt64 >>> ((31 : Int32) &&& 0x3f).toInt64.toUInt64).toInt64)))), .second, .val (.long ((((((a.toUInt64 >>> ((31 : Int32) &&& 0x3f).toInt64.toUInt64).toInt64) * (b &&& (2147483647 : Int64))) + ((a &&& (2147483647 : Int64)) * ((b.toUInt64 >>> ((31 : Int32) &&& 0x3f).toInt64.toUInt64).toInt64))) <<< ((31 : Int32) &&& 0x3f).toInt64) + ((a &&& (2147483647 : Int64)) * (b &&& (2147483647 : Int64))))), .second]) rfl kS) ?_
      show own_Run p e below _ (T.setTop (mkF m 86 #[.val (.long a), .second, .val (.long b), .second, .val (.long (4611686018427387903 : Int64)), .second, .val (.long ((a.toUInt64 >>> ((31 : Int32) &&& 0x3f).toInt64.toUInt64).toInt64)), .second, .val (.long (a &&& (2147483647 : Int64))), .second, .val (.long ((b.toUInt64 >>> ((31 : Int32) &&& 0x3f).toInt64.toUInt64).toInt64)), .second, .val (.long (b &&& (2147483647 : Int64))), .second, .val (.long ((((a.toUInt64 >>> ((31 : Int32) &&& 0x3f).toInt64.toUInt64).toInt64) * (b &&& (2147483647 : Int64))) + ((a &&& (2147483647 : Int64)) * ((b.toUInt64 >>> ((31 : Int32) &&& 0x3f).toInt64.toUInt64).toInt64)))), .second, .val (.long ((((((a.toUInt64 >>> ((31 : Int32) &&& 0x3f).toInt64.toUInt64).toInt64) * (b &&& (2147483647 : Int64))) + ((a &&& (2147483647 : Int64)) * ((b.toUInt64 >>> ((31 : Int32) &&& 0x3f).toInt64.toUInt64).toInt64))) <<< ((31 : Int32) &&& 0x3f).toInt64) + ((a &&& (2147483647 : Int64)) * (b &&& (2147483647 : Int64))))), .second] []))
      refine own_go (fun _ kS => XS.lload X.here hx rfl (hb hby d3_86) rfl kS) ?_
      show own_Run p e below _ (T.setTop (mkF m 88 #[.val (.long a), .second, .val (.long b), .second, .val (.long (4611686018427387903 : Int64)), .second, .val (.long ((a.toUInt64 >>> ((31 : Int32) &&& 0x3f).toInt64.toUInt64).toInt64)), .second, .val (.long (a &&& (2147483647 : Int64))), .second, .val (.long ((b.toUInt64 >>> ((31 : Int32) &&& 0x3f).toInt64.toUInt64).toInt64)), .second, .val (.long (b &&& (2147483647 : Int64))), .second, .val (.long ((((a.toUInt64 >>> ((31 : Int32) &&& 0x3f).toInt64.toUInt64).toInt64) * (b &&& (2147483647 : Int64))) + ((a &&& (2147483647 : Int64)) * ((b.toUInt64 >>> ((31 : Int32) &&& 0x3f).toInt64.toUInt64).toInt64)))), .second, .val (.long ((((((a.toUInt64 >>> ((31 : Int32) &&& 0x3f).toInt64.toUInt64).toInt64) * (b &&& (2147483647 : Int64))) + ((a &&& (2147483647 : Int64)) * ((b.toUInt64 >>> ((31 : Int32) &&& 0x3f).toInt64.toUInt64).toInt64))) <<< ((31 : Int32) &&& 0x3f).toInt64) + ((a &&& (2147483647 : Int64)) * (b &&& (2147483647 : Int64))))), .second] [(.long ((((((a.toUInt64 >>> ((31 : Int32) &&& 0x3f).toInt64.toUInt64).toInt64) * (b &&& (2147483647 : Int64))) + ((a &&& (2147483647 : Int64)) * ((b.toUInt64 >>> ((31 : Int32) &&& 0x3f).toInt64.toUInt64).toInt64))) <<< ((31 : Int32) &&& 0x3f).toInt64) + ((a &&& (2147483647 : Int64)) * (b &&& (2147483647 : Int64)))))]))
      refine own_go (fun _ kS => XS.lload X.here hx rfl (hb hby d3_88) rfl kS) ?_
      show own_Run p e below _ (T.setTop (mkF m 90 #[.val (.long a), .second, .val (.long b), .second, .val (.long (4611686018427387903 : Int64)), .second, .val (.long ((a.toUInt64 >>> ((31 : Int32) &&& 0x3f).toInt64.toUInt64).toInt64)), .second, .val (.long (a &&& (2147483647 : Int64))), .second, .val (.long ((b.toUInt64 >>> ((31 : Int32) &&& 0x3f).toInt64.toUInt64).toInt64)), .second, .val (.long (b &&& (2147483647 : Int64))), .second, .val (.long ((((a.toUInt64 >>> ((31 : Int32) &&& 0x3f).toInt64.toUInt64).toInt64) * (b &&& (2147483647 : Int64))) + ((a &&& (2147483647 : Int64)) * ((b.toUInt64 >>> ((31 : Int32) &&& 0x3f).toInt64.toUInt64).toInt64)))), .second, .val (.long ((((((a.toUInt64 >>> ((31 : Int32) &&& 0x3f).toInt64.toUInt64).toInt64) * (b &&& (2147483647 : Int64))) + ((a &&& (2147483647 : Int64)) * ((b.toUInt64 >>> ((31 : Int32) &&& 0x3f).toInt64.toUInt64).toInt64))) <<< ((31 : Int32) &&& 0x3f).toInt64) + ((a &&& (2147483647 : Int64)) * (b &&& (2147483647 : Int64))))), .second] [(.long (4611686018427387903 : Int64)), (.long ((((((a.toUInt64 >>> ((31 : Int32) &&& 0x3f).toInt64.toUInt64).toInt64) * (b &&& (2147483647 : Int64))) + ((a &&& (2147483647 : Int64)) * ((b.toUInt64 >>> ((31 : Int32) &&& 0x3f).toInt64.toUInt64).toInt64))) <<< ((31 : Int32) &&& 0x3f).toInt64) + ((a &&& (2147483647 : Int64)) * (b &&& (2147483647 : Int64)))))]))
      refine own_callS X hx hZ e0 hown (⟨"java/lang/Math", "min", "(JJ)J"⟩ : MethodName) (hw _ (List.mem_of_getElem? (i := 16) rfl)) (hw _ (List.mem_of_getElem? (i := 17) rfl)) (hw _ (List.mem_of_getElem? (i := 18) rfl)) (hw _ (List.mem_of_getElem? (i := 19) rfl)) (by decide) [(.long ((((((a.toUInt64 >>> ((31 : Int32) &&& 0x3f).toInt64.toUInt64).toInt64) * (b &&& (2147483647 : Int64))) + ((a &&& (2147483647 : Int64)) * ((b.toUInt64 >>> ((31 : Int32) &&& 0x3f).toInt64.toUInt64).toInt64))) <<< ((31 : Int32) &&& 0x3f).toInt64) + ((a &&& (2147483647 : Int64)) * (b &&& (2147483647 : Int64))))), (.long (4611686018427387903 : Int64))] [] (rm_min l Z a0 hw ((((((a.toUInt64 >>> ((31 : Int32) &&& 0x3f).toInt64.toUInt64).toInt64) * (b &&& (2147483647 : Int64))) + ((a &&& (2147483647 : Int64)) * ((b.toUInt64 >>> ((31 : Int32) &&& 0x3f).toInt64.toUInt64).toInt64))) <<< ((31 : Int32) &&& 0x3f).toInt64) + ((a &&& (2147483647 : Int64)) * (b &&& (2147483647 : Int64)))) (4611686018427387903 : Int64) h0) (by decide) 0 (by decide) (by decide) (by decide) rfl (by rw [hml]; rfl) (lenOf own_pd0 rfl) rfl (by show 2 * 0 + _ ≤ _; exact Nat.le_of_eq rfl) (hb hby d3_90) (fun v1 h1 L1 T1 Q1 X1 e1 => ?_)
      obtain ⟨rfl, rfl, rfl⟩ := Q1
      show own_Run p e below _ (T1.setTop (mkF m 93 #[.val (.long a), .second, .val (.long b), .second, .val (.long (4611686018427387903 : Int64)), .second, .val (.long ((a.toUInt64 >>> ((31 : Int32) &&& 0x3f).toInt64.toUInt64).toInt64)), .second, .val (.long (a &&& (2147483647 : Int64))), .second, .val (.long ((b.toUInt64 >>> ((31 : Int32) &&& 0x3f).toInt64.toUInt64).toInt64)), .second, .val (.long (b &&& (2147483647 : Int64))), .second, .val (.long ((((a.toUInt64 >>> ((31 : Int32) &&& 0x3f).toInt64.toUInt64).toInt64) * (b &&& (2147483647 : Int64))) + ((a &&& (2147483647 : Int64)) * ((b.toUInt64 >>> ((31 : Int32) &&& 0x3f).toInt64.toUInt64).toInt64)))), .second, .val (.long ((((((a.toUInt64 >>> ((31 : Int32) &&& 0x3f).toInt64.toUInt64).toInt64) * (b &&& (2147483647 : Int64))) + ((a &&& (2147483647 : Int64)) * ((b.toUInt64 >>> ((31 : Int32) &&& 0x3f).toInt64.toUInt64).toInt64))) <<< ((31 : Int32) &&& 0x3f).toInt64) + ((a &&& (2147483647 : Int64)) * (b &&& (2147483647 : Int64))))), .second] [(.long (own_min ((((((a.toUInt64 >>> ((31 : Int32) &&& 0x3f).toInt64.toUInt64).toInt64) * (b &&& (2147483647 : Int64))) + ((a &&& (2147483647 : Int64)) * ((b.toUInt64 >>> ((31 : Int32) &&& 0x3f).toInt64.toUInt64).toInt64))) <<< ((31 : Int32) &&& 0x3f).toInt64) + ((a &&& (2147483647 : Int64)) * (b &&& (2147483647 : Int64)))) (4611686018427387903 : Int64)))]))
      refine own_retJ X1 hx hret hlk (hb hby d3_93) (by decide) (by decide) ?_
      exact ⟨by rw [(by unfold own_refx own_tl own_mid; rw [if_pos hc35, if_pos hc67] : own_refx a b = (own_min ((((((a.toUInt64 >>> ((31 : Int32) &&& 0x3f).toInt64.toUInt64).toInt64) * (b &&& (2147483647 : Int64))) + ((a &&& (2147483647 : Int64)) * ((b.toUInt64 >>> ((31 : Int32) &&& 0x3f).toInt64.toUInt64).toInt64))) <<< ((31 : Int32) &&& 0x3f).toInt64) + ((a &&& (2147483647 : Int64)) * (b &&& (2147483647 : Int64)))) (4611686018427387903 : Int64)))], e1.symm, rfl⟩
    · refine own_go (fun _ kS => XS.ifNo X.here hx rfl (hb hby d3_67) rfl ((if0 _ _).trans (flt (mt (lw_lt ((((a.toUInt64 >>> ((31 : Int32) &&& 0x3f).toInt64.toUInt64).toInt64) * (b &&& (2147483647 : Int64))) + ((a &&& (2147483647 : Int64)) * ((b.toUInt64 >>> ((31 : Int32) &&& 0x3f).toInt64.toUInt64).toInt64))) (2147483648 : Int64)).mp hc67)).1) kS) ?_
      show own_Run p e below _ (T.setTop (mkF m 70 #[.val (.long a), .second, .val (.long b), .second, .val (.long (4611686018427387903 : Int64)), .second, .val (.long ((a.toUInt64 >>> ((31 : Int32) &&& 0x3f).toInt64.toUInt64).toInt64)), .second, .val (.long (a &&& (2147483647 : Int64))), .second, .val (.long ((b.toUInt64 >>> ((31 : Int32) &&& 0x3f).toInt64.toUInt64).toInt64)), .second, .val (.long (b &&& (2147483647 : Int64))), .second, .val (.long ((((a.toUInt64 >>> ((31 : Int32) &&& 0x3f).toInt64.toUInt64).toInt64) * (b &&& (2147483647 : Int64))) + ((a &&& (2147483647 : Int64)) * ((b.toUInt64 >>> ((31 : Int32) &&& 0x3f).toInt64.toUInt64).toInt64)))), .second, .unset, .unset] []))
      refine own_go (fun _ kS => XS.lload X.here hx rfl (hb hby d3_70) rfl kS) ?_
      show own_Run p e below _ (T.setTop (mkF m 72 #[.val (.long a), .second, .val (.long b), .second, .val (.long (4611686018427387903 : Int64)), .second, .val (.long ((a.toUInt64 >>> ((31 : Int32) &&& 0x3f).toInt64.toUInt64).toInt64)), .second, .val (.long (a &&& (2147483647 : Int64))), .second, .val (.long ((b.toUInt64 >>> ((31 : Int32) &&& 0x3f).toInt64.toUInt64).toInt64)), .second, .val (.long (b &&& (2147483647 : Int64))), .second, .val (.long ((((a.toUInt64 >>> ((31 : Int32) &&& 0x3f).toInt64.toUInt64).toInt64) * (b &&& (2147483647 : Int64))) + ((a &&& (2147483647 : Int64)) * ((b.toUInt64 >>> ((31 : Int32) &&& 0x3f).toInt64.toUInt64).toInt64)))), .second, .unset, .unset] [(.long (4611686018427387903 : Int64))]))
      refine own_retJ X hx hret hlk (hb hby d3_72) (by decide) (by decide) ?_
      exact ⟨by rw [(by unfold own_refx own_tl own_mid; rw [if_pos hc35, if_neg hc67] : own_refx a b = (4611686018427387903 : Int64))], e0.symm, rfl⟩
  · refine own_go (fun _ kS => XS.ifNo X.here hx rfl (hb hby d3_35) rfl ((if0 _ _).trans (feq (mt (lw_eq ((a.toUInt64 >>> ((31 : Int32) &&& 0x3f).toInt64.toUInt64).toInt64) (0 : Int64)).mp hc35)).1) kS) ?_
    show own_Run p e below _ (T.setTop (mkF m 38 #[.val (.long a), .second, .val (.long b), .second, .val (.long (4611686018427387903 : Int64)), .second, .val (.long ((a.toUInt64 >>> ((31 : Int32) &&& 0x3f).toInt64.toUInt64).toInt64)), .second, .val (.long (a &&& (2147483647 : Int64))), .second, .val (.long ((b.toUInt64 >>> ((31 : Int32) &&& 0x3f).toInt64.toUInt64).toInt64)), .second, .val (.long (b &&& (2147483647 : Int64))), .second, .unset, .unset, .unset, .unset] []))
    refine own_go (fun _ kS => XS.lload X.here hx rfl (hb hby d3_38) rfl kS) ?_
    show own_Run p e below _ (T.setTop (mkF m 40 #[.val (.long a), .second, .val (.long b), .second, .val (.long (4611686018427387903 : Int64)), .second, .val (.long ((a.toUInt64 >>> ((31 : Int32) &&& 0x3f).toInt64.toUInt64).toInt64)), .second, .val (.long (a &&& (2147483647 : Int64))), .second, .val (.long ((b.toUInt64 >>> ((31 : Int32) &&& 0x3f).toInt64.toUInt64).toInt64)), .second, .val (.long (b &&& (2147483647 : Int64))), .second, .unset, .unset, .unset, .unset] [(.long ((b.toUInt64 >>> ((31 : Int32) &&& 0x3f).toInt64.toUInt64).toInt64))]))
    refine own_go (fun _ kS => XS.lconst X.here hx rfl (hb hby d3_40) kS) ?_
    show own_Run p e below _ (T.setTop (mkF m 41 #[.val (.long a), .second, .val (.long b), .second, .val (.long (4611686018427387903 : Int64)), .second, .val (.long ((a.toUInt64 >>> ((31 : Int32) &&& 0x3f).toInt64.toUInt64).toInt64)), .second, .val (.long (a &&& (2147483647 : Int64))), .second, .val (.long ((b.toUInt64 >>> ((31 : Int32) &&& 0x3f).toInt64.toUInt64).toInt64)), .second, .val (.long (b &&& (2147483647 : Int64))), .second, .unset, .unset, .unset, .unset] [(.long (0 : Int64)), (.long ((b.toUInt64 >>> ((31 : Int32) &&& 0x3f).toInt64.toUInt64).toInt64))]))
    refine own_go (fun _ kS => XS.lcmp X.here hx rfl (hb hby d3_41) rfl kS) ?_
    show own_Run p e below _ (T.setTop (mkF m 42 #[.val (.long a), .second, .val (.long b), .second, .val (.long (4611686018427387903 : Int64)), .second, .val (.long ((a.toUInt64 >>> ((31 : Int32) &&& 0x3f).toInt64.toUInt64).toInt64)), .second, .val (.long (a &&& (2147483647 : Int64))), .second, .val (.long ((b.toUInt64 >>> ((31 : Int32) &&& 0x3f).toInt64.toUInt64).toInt64)), .second, .val (.long (b &&& (2147483647 : Int64))), .second, .unset, .unset, .unset, .unset] [(.int (lcmpW ((b.toUInt64 >>> ((31 : Int32) &&& 0x3f).toInt64.toUInt64).toInt64) (0 : Int64)))]))
    by_cases hc42 : ((b.toUInt64 >>> ((31 : Int32) &&& 0x3f).toInt64.toUInt64).toInt64) = (0 : Int64)
    · refine own_go (fun _ kS => XS.ifYes X.here hx rfl (pc0 := 42) (pc' := 48) rfl (hb hby d3_42) rfl ((if0 _ _).trans (teq ((lw_eq ((b.toUInt64 >>> ((31 : Int32) &&& 0x3f).toInt64.toUInt64).toInt64) (0 : Int64)).mpr hc42)).1) (by decide) (by decide) kS) ?_
      show own_Run p e below _ (T.setTop (mkF m 48 #[.val (.long a), .second, .val (.long b), .second, .val (.long (4611686018427387903 : Int64)), .second, .val (.long ((a.toUInt64 >>> ((31 : Int32) &&& 0x3f).toInt64.toUInt64).toInt64)), .second, .val (.long (a &&& (2147483647 : Int64))), .second, .val (.long ((b.toUInt64 >>> ((31 : Int32) &&& 0x3f).toInt64.toUInt64).toInt64)), .second, .val (.long (b &&& (2147483647 : Int64))), .second, .unset, .unset, .unset, .unset] []))
      refine own_go (fun _ kS => XS.lload X.here hx rfl (hb hby d3_48) rfl kS) ?_
      show own_Run p e below _ (T.setTop (mkF m 50 #[.val (.long a), .second, .val (.long b), .second, .val (.long (4611686018427387903 : Int64)), .second, .val (.long ((a.toUInt64 >>> ((31 : Int32) &&& 0x3f).toInt64.toUInt64).toInt64)), .second, .val (.long (a &&& (2147483647 : Int64))), .second, .val (.long ((b.toUInt64 >>> ((31 : Int32) &&& 0x3f).toInt64.toUInt64).toInt64)), .second, .val (.long (b &&& (2147483647 : Int64))), .second, .unset, .unset, .unset, .unset] [(.long ((a.toUInt64 >>> ((31 : Int32) &&& 0x3f).toInt64.toUInt64).toInt64))]))
      refine own_go (fun _ kS => XS.lload X.here hx rfl (hb hby d3_50) rfl kS) ?_
      show own_Run p e below _ (T.setTop (mkF m 52 #[.val (.long a), .second, .val (.long b), .second, .val (.long (4611686018427387903 : Int64)), .second, .val (.long ((a.toUInt64 >>> ((31 : Int32) &&& 0x3f).toInt64.toUInt64).toInt64)), .second, .val (.long (a &&& (2147483647 : Int64))), .second, .val (.long ((b.toUInt64 >>> ((31 : Int32) &&& 0x3f).toInt64.toUInt64).toInt64)), .second, .val (.long (b &&& (2147483647 : Int64))), .second, .unset, .unset, .unset, .unset] [(.long (b &&& (2147483647 : Int64))), (.long ((a.toUInt64 >>> ((31 : Int32) &&& 0x3f).toInt64.toUInt64).toInt64))]))
      refine own_go (fun _ kS => XS.lmul X.here hx rfl (hb hby d3_52) rfl kS) ?_
      show own_Run p e below _ (T.setTop (mkF m 53 #[.val (.long a), .second, .val (.long b), .second, .val (.long (4611686018427387903 : Int64)), .second, .val (.long ((a.toUInt64 >>> ((31 : Int32) &&& 0x3f).toInt64.toUInt64).toInt64)), .second, .val (.long (a &&& (2147483647 : Int64))), .second, .val (.long ((b.toUInt64 >>> ((31 : Int32) &&& 0x3f).toInt64.toUInt64).toInt64)), .second, .val (.long (b &&& (2147483647 : Int64))), .second, .unset, .unset, .unset, .unset] [(.long (((a.toUInt64 >>> ((31 : Int32) &&& 0x3f).toInt64.toUInt64).toInt64) * (b &&& (2147483647 : Int64))))]))
      refine own_go (fun _ kS => XS.lload X.here hx rfl (hb hby d3_53) rfl kS) ?_
      show own_Run p e below _ (T.setTop (mkF m 55 #[.val (.long a), .second, .val (.long b), .second, .val (.long (4611686018427387903 : Int64)), .second, .val (.long ((a.toUInt64 >>> ((31 : Int32) &&& 0x3f).toInt64.toUInt64).toInt64)), .second, .val (.long (a &&& (2147483647 : Int64))), .second, .val (.long ((b.toUInt64 >>> ((31 : Int32) &&& 0x3f).toInt64.toUInt64).toInt64)), .second, .val (.long (b &&& (2147483647 : Int64))), .second, .unset, .unset, .unset, .unset] [(.long (a &&& (2147483647 : Int64))), (.long (((a.toUInt64 >>> ((31 : Int32) &&& 0x3f).toInt64.toUInt64).toInt64) * (b &&& (2147483647 : Int64))))]))
      refine own_go (fun _ kS => XS.lload X.here hx rfl (hb hby d3_55) rfl kS) ?_
      show own_Run p e below _ (T.setTop (mkF m 57 #[.val (.long a), .second, .val (.long b), .second, .val (.long (4611686018427387903 : Int64)), .second, .val (.long ((a.toUInt64 >>> ((31 : Int32) &&& 0x3f).toInt64.toUInt64).toInt64)), .second, .val (.long (a &&& (2147483647 : Int64))), .second, .val (.long ((b.toUInt64 >>> ((31 : Int32) &&& 0x3f).toInt64.toUInt64).toInt64)), .second, .val (.long (b &&& (2147483647 : Int64))), .second, .unset, .unset, .unset, .unset] [(.long ((b.toUInt64 >>> ((31 : Int32) &&& 0x3f).toInt64.toUInt64).toInt64)), (.long (a &&& (2147483647 : Int64))), (.long (((a.toUInt64 >>> ((31 : Int32) &&& 0x3f).toInt64.toUInt64).toInt64) * (b &&& (2147483647 : Int64))))]))
      refine own_go (fun _ kS => XS.lmul X.here hx rfl (hb hby d3_57) rfl kS) ?_
      show own_Run p e below _ (T.setTop (mkF m 58 #[.val (.long a), .second, .val (.long b), .second, .val (.long (4611686018427387903 : Int64)), .second, .val (.long ((a.toUInt64 >>> ((31 : Int32) &&& 0x3f).toInt64.toUInt64).toInt64)), .second, .val (.long (a &&& (2147483647 : Int64))), .second, .val (.long ((b.toUInt64 >>> ((31 : Int32) &&& 0x3f).toInt64.toUInt64).toInt64)), .second, .val (.long (b &&& (2147483647 : Int64))), .second, .unset, .unset, .unset, .unset] [(.long ((a &&& (2147483647 : Int64)) * ((b.toUInt64 >>> ((31 : Int32) &&& 0x3f).toInt64.toUInt64).toInt64))), (.long (((a.toUInt64 >>> ((31 : Int32) &&& 0x3f).toInt64.toUInt64).toInt64) * (b &&& (2147483647 : Int64))))]))
      refine own_go (fun _ kS => XS.ladd X.here hx rfl (hb hby d3_58) rfl kS) ?_
      show own_Run p e below _ (T.setTop (mkF m 59 #[.val (.long a), .second, .val (.long b), .second, .val (.long (4611686018427387903 : Int64)), .second, .val (.long ((a.toUInt64 >>> ((31 : Int32) &&& 0x3f).toInt64.toUInt64).toInt64)), .second, .val (.long (a &&& (2147483647 : Int64))), .second, .val (.long ((b.toUInt64 >>> ((31 : Int32) &&& 0x3f).toInt64.toUInt64).toInt64)), .second, .val (.long (b &&& (2147483647 : Int64))), .second, .unset, .unset, .unset, .unset] [(.long ((((a.toUInt64 >>> ((31 : Int32) &&& 0x3f).toInt64.toUInt64).toInt64) * (b &&& (2147483647 : Int64))) + ((a &&& (2147483647 : Int64)) * ((b.toUInt64 >>> ((31 : Int32) &&& 0x3f).toInt64.toUInt64).toInt64))))]))
      refine own_go (fun _ kS => XS.lstore X.here hx rfl (hb hby d3_59) rfl (l' := #[.val (.long a), .second, .val (.long b), .second, .val (.long (4611686018427387903 : Int64)), .second, .val (.long ((a.toUInt64 >>> ((31 : Int32) &&& 0x3f).toInt64.toUInt64).toInt64)), .second, .val (.long (a &&& (2147483647 : Int64))), .second, .val (.long ((b.toUInt64 >>> ((31 : Int32) &&& 0x3f).toInt64.toUInt64).toInt64)), .second, .val (.long (b &&& (2147483647 : Int64))), .second, .val (.long ((((a.toUInt64 >>> ((31 : Int32) &&& 0x3f).toInt64.toUInt64).toInt64) * (b &&& (2147483647 : Int64))) + ((a &&& (2147483647 : Int64)) * ((b.toUInt64 >>> ((31 : Int32) &&& 0x3f).toInt64.toUInt64).toInt64)))), .second, .unset, .unset]) rfl kS) ?_
      show own_Run p e below _ (T.setTop (mkF m 61 #[.val (.long a), .second, .val (.long b), .second, .val (.long (4611686018427387903 : Int64)), .second, .val (.long ((a.toUInt64 >>> ((31 : Int32) &&& 0x3f).toInt64.toUInt64).toInt64)), .second, .val (.long (a &&& (2147483647 : Int64))), .second, .val (.long ((b.toUInt64 >>> ((31 : Int32) &&& 0x3f).toInt64.toUInt64).toInt64)), .second, .val (.long (b &&& (2147483647 : Int64))), .second, .val (.long ((((a.toUInt64 >>> ((31 : Int32) &&& 0x3f).toInt64.toUInt64).toInt64) * (b &&& (2147483647 : Int64))) + ((a &&& (2147483647 : Int64)) * ((b.toUInt64 >>> ((31 : Int32) &&& 0x3f).toInt64.toUInt64).toInt64)))), .second, .unset, .unset] []))
      refine own_go (fun _ kS => XS.lload X.here hx rfl (hb hby d3_61) rfl kS) ?_
      show own_Run p e below _ (T.setTop (mkF m 63 #[.val (.long a), .second, .val (.long b), .second, .val (.long (4611686018427387903 : Int64)), .second, .val (.long ((a.toUInt64 >>> ((31 : Int32) &&& 0x3f).toInt64.toUInt64).toInt64)), .second, .val (.long (a &&& (2147483647 : Int64))), .second, .val (.long ((b.toUInt64 >>> ((31 : Int32) &&& 0x3f).toInt64.toUInt64).toInt64)), .second, .val (.long (b &&& (2147483647 : Int64))), .second, .val (.long ((((a.toUInt64 >>> ((31 : Int32) &&& 0x3f).toInt64.toUInt64).toInt64) * (b &&& (2147483647 : Int64))) + ((a &&& (2147483647 : Int64)) * ((b.toUInt64 >>> ((31 : Int32) &&& 0x3f).toInt64.toUInt64).toInt64)))), .second, .unset, .unset] [(.long ((((a.toUInt64 >>> ((31 : Int32) &&& 0x3f).toInt64.toUInt64).toInt64) * (b &&& (2147483647 : Int64))) + ((a &&& (2147483647 : Int64)) * ((b.toUInt64 >>> ((31 : Int32) &&& 0x3f).toInt64.toUInt64).toInt64))))]))
      refine own_ldc2 X hx hZ hown (hw _ (List.mem_of_getElem? (i := 15) rfl)) rfl (hb hby d3_63) ?_
      show own_Run p e below _ (T.setTop (mkF m 66 #[.val (.long a), .second, .val (.long b), .second, .val (.long (4611686018427387903 : Int64)), .second, .val (.long ((a.toUInt64 >>> ((31 : Int32) &&& 0x3f).toInt64.toUInt64).toInt64)), .second, .val (.long (a &&& (2147483647 : Int64))), .second, .val (.long ((b.toUInt64 >>> ((31 : Int32) &&& 0x3f).toInt64.toUInt64).toInt64)), .second, .val (.long (b &&& (2147483647 : Int64))), .second, .val (.long ((((a.toUInt64 >>> ((31 : Int32) &&& 0x3f).toInt64.toUInt64).toInt64) * (b &&& (2147483647 : Int64))) + ((a &&& (2147483647 : Int64)) * ((b.toUInt64 >>> ((31 : Int32) &&& 0x3f).toInt64.toUInt64).toInt64)))), .second, .unset, .unset] [(.long (2147483648 : Int64)), (.long ((((a.toUInt64 >>> ((31 : Int32) &&& 0x3f).toInt64.toUInt64).toInt64) * (b &&& (2147483647 : Int64))) + ((a &&& (2147483647 : Int64)) * ((b.toUInt64 >>> ((31 : Int32) &&& 0x3f).toInt64.toUInt64).toInt64))))]))
      refine own_go (fun _ kS => XS.lcmp X.here hx rfl (hb hby d3_66) rfl kS) ?_
      show own_Run p e below _ (T.setTop (mkF m 67 #[.val (.long a), .second, .val (.long b), .second, .val (.long (4611686018427387903 : Int64)), .second, .val (.long ((a.toUInt64 >>> ((31 : Int32) &&& 0x3f).toInt64.toUInt64).toInt64)), .second, .val (.long (a &&& (2147483647 : Int64))), .second, .val (.long ((b.toUInt64 >>> ((31 : Int32) &&& 0x3f).toInt64.toUInt64).toInt64)), .second, .val (.long (b &&& (2147483647 : Int64))), .second, .val (.long ((((a.toUInt64 >>> ((31 : Int32) &&& 0x3f).toInt64.toUInt64).toInt64) * (b &&& (2147483647 : Int64))) + ((a &&& (2147483647 : Int64)) * ((b.toUInt64 >>> ((31 : Int32) &&& 0x3f).toInt64.toUInt64).toInt64)))), .second, .unset, .unset] [(.int (lcmpW ((((a.toUInt64 >>> ((31 : Int32) &&& 0x3f).toInt64.toUInt64).toInt64) * (b &&& (2147483647 : Int64))) + ((a &&& (2147483647 : Int64)) * ((b.toUInt64 >>> ((31 : Int32) &&& 0x3f).toInt64.toUInt64).toInt64))) (2147483648 : Int64)))]))
      by_cases hc67 : ((((a.toUInt64 >>> ((31 : Int32) &&& 0x3f).toInt64.toUInt64).toInt64) * (b &&& (2147483647 : Int64))) + ((a &&& (2147483647 : Int64)) * ((b.toUInt64 >>> ((31 : Int32) &&& 0x3f).toInt64.toUInt64).toInt64))) < (2147483648 : Int64)
      · refine own_go (fun _ kS => XS.ifYes X.here hx rfl (pc0 := 67) (pc' := 73) rfl (hb hby d3_67) rfl ((if0 _ _).trans (tlt ((lw_lt ((((a.toUInt64 >>> ((31 : Int32) &&& 0x3f).toInt64.toUInt64).toInt64) * (b &&& (2147483647 : Int64))) + ((a &&& (2147483647 : Int64)) * ((b.toUInt64 >>> ((31 : Int32) &&& 0x3f).toInt64.toUInt64).toInt64))) (2147483648 : Int64)).mpr hc67)).1) (by decide) (by decide) kS) ?_
        show own_Run p e below _ (T.setTop (mkF m 73 #[.val (.long a), .second, .val (.long b), .second, .val (.long (4611686018427387903 : Int64)), .second, .val (.long ((a.toUInt64 >>> ((31 : Int32) &&& 0x3f).toInt64.toUInt64).toInt64)), .second, .val (.long (a &&& (2147483647 : Int64))), .second, .val (.long ((b.toUInt64 >>> ((31 : Int32) &&& 0x3f).toInt64.toUInt64).toInt64)), .second, .val (.long (b &&& (2147483647 : Int64))), .second, .val (.long ((((a.toUInt64 >>> ((31 : Int32) &&& 0x3f).toInt64.toUInt64).toInt64) * (b &&& (2147483647 : Int64))) + ((a &&& (2147483647 : Int64)) * ((b.toUInt64 >>> ((31 : Int32) &&& 0x3f).toInt64.toUInt64).toInt64)))), .second, .unset, .unset] []))
        refine own_go (fun _ kS => XS.lload X.here hx rfl (hb hby d3_73) rfl kS) ?_
        show own_Run p e below _ (T.setTop (mkF m 75 #[.val (.long a), .second, .val (.long b), .second, .val (.long (4611686018427387903 : Int64)), .second, .val (.long ((a.toUInt64 >>> ((31 : Int32) &&& 0x3f).toInt64.toUInt64).toInt64)), .second, .val (.long (a &&& (2147483647 : Int64))), .second, .val (.long ((b.toUInt64 >>> ((31 : Int32) &&& 0x3f).toInt64.toUInt64).toInt64)), .second, .val (.long (b &&& (2147483647 : Int64))), .second, .val (.long ((((a.toUInt64 >>> ((31 : Int32) &&& 0x3f).toInt64.toUInt64).toInt64) * (b &&& (2147483647 : Int64))) + ((a &&& (2147483647 : Int64)) * ((b.toUInt64 >>> ((31 : Int32) &&& 0x3f).toInt64.toUInt64).toInt64)))), .second, .unset, .unset] [(.long ((((a.toUInt64 >>> ((31 : Int32) &&& 0x3f).toInt64.toUInt64).toInt64) * (b &&& (2147483647 : Int64))) + ((a &&& (2147483647 : Int64)) * ((b.toUInt64 >>> ((31 : Int32) &&& 0x3f).toInt64.toUInt64).toInt64))))]))
        refine own_go (fun _ kS => XS.bipush X.here hx rfl (hb hby d3_75) kS) ?_
        show own_Run p e below _ (T.setTop (mkF m 77 #[.val (.long a), .second, .val (.long b), .second, .val (.long (4611686018427387903 : Int64)), .second, .val (.long ((a.toUInt64 >>> ((31 : Int32) &&& 0x3f).toInt64.toUInt64).toInt64)), .second, .val (.long (a &&& (2147483647 : Int64))), .second, .val (.long ((b.toUInt64 >>> ((31 : Int32) &&& 0x3f).toInt64.toUInt64).toInt64)), .second, .val (.long (b &&& (2147483647 : Int64))), .second, .val (.long ((((a.toUInt64 >>> ((31 : Int32) &&& 0x3f).toInt64.toUInt64).toInt64) * (b &&& (2147483647 : Int64))) + ((a &&& (2147483647 : Int64)) * ((b.toUInt64 >>> ((31 : Int32) &&& 0x3f).toInt64.toUInt64).toInt64)))), .second, .unset, .unset] [(.int (31 : Int32)), (.long ((((a.toUInt64 >>> ((31 : Int32) &&& 0x3f).toInt64.toUInt64).toInt64) * (b &&& (2147483647 : Int64))) + ((a &&& (2147483647 : Int64)) * ((b.toUInt64 >>> ((31 : Int32) &&& 0x3f).toInt64.toUInt64).toInt64))))]))
        refine own_go (fun _ kS => XS.lshl X.here hx rfl (hb hby d3_77) rfl kS) ?_
        show own_Run p e below _ (T.setTop (mkF m 78 #[.val (.long a), .second, .val (.long b), .second, .val (.long (4611686018427387903 : Int64)), .second, .val (.long ((a.toUInt64 >>> ((31 : Int32) &&& 0x3f).toInt64.toUInt64).toInt64)), .second, .val (.long (a &&& (2147483647 : Int64))), .second, .val (.long ((b.toUInt64 >>> ((31 : Int32) &&& 0x3f).toInt64.toUInt64).toInt64)), .second, .val (.long (b &&& (2147483647 : Int64))), .second, .val (.long ((((a.toUInt64 >>> ((31 : Int32) &&& 0x3f).toInt64.toUInt64).toInt64) * (b &&& (2147483647 : Int64))) + ((a &&& (2147483647 : Int64)) * ((b.toUInt64 >>> ((31 : Int32) &&& 0x3f).toInt64.toUInt64).toInt64)))), .second, .unset, .unset] [(.long (((((a.toUInt64 >>> ((31 : Int32) &&& 0x3f).toInt64.toUInt64).toInt64) * (b &&& (2147483647 : Int64))) + ((a &&& (2147483647 : Int64)) * ((b.toUInt64 >>> ((31 : Int32) &&& 0x3f).toInt64.toUInt64).toInt64))) <<< ((31 : Int32) &&& 0x3f).toInt64))]))
        refine own_go (fun _ kS => XS.lload X.here hx rfl (hb hby d3_78) rfl kS) ?_
        show own_Run p e below _ (T.setTop (mkF m 80 #[.val (.long a), .second, .val (.long b), .second, .val (.long (4611686018427387903 : Int64)), .second, .val (.long ((a.toUInt64 >>> ((31 : Int32) &&& 0x3f).toInt64.toUInt64).toInt64)), .second, .val (.long (a &&& (2147483647 : Int64))), .second, .val (.long ((b.toUInt64 >>> ((31 : Int32) &&& 0x3f).toInt64.toUInt64).toInt64)), .second, .val (.long (b &&& (2147483647 : Int64))), .second, .val (.long ((((a.toUInt64 >>> ((31 : Int32) &&& 0x3f).toInt64.toUInt64).toInt64) * (b &&& (2147483647 : Int64))) + ((a &&& (2147483647 : Int64)) * ((b.toUInt64 >>> ((31 : Int32) &&& 0x3f).toInt64.toUInt64).toInt64)))), .second, .unset, .unset] [(.long (a &&& (2147483647 : Int64))), (.long (((((a.toUInt64 >>> ((31 : Int32) &&& 0x3f).toInt64.toUInt64).toInt64) * (b &&& (2147483647 : Int64))) + ((a &&& (2147483647 : Int64)) * ((b.toUInt64 >>> ((31 : Int32) &&& 0x3f).toInt64.toUInt64).toInt64))) <<< ((31 : Int32) &&& 0x3f).toInt64))]))
        refine own_go (fun _ kS => XS.lload X.here hx rfl (hb hby d3_80) rfl kS) ?_
        show own_Run p e below _ (T.setTop (mkF m 82 #[.val (.long a), .second, .val (.long b), .second, .val (.long (4611686018427387903 : Int64)), .second, .val (.long ((a.toUInt64 >>> ((31 : Int32) &&& 0x3f).toInt64.toUInt64).toInt64)), .second, .val (.long (a &&& (2147483647 : Int64))), .second, .val (.long ((b.toUInt64 >>> ((31 : Int32) &&& 0x3f).toInt64.toUInt64).toInt64)), .second, .val (.long (b &&& (2147483647 : Int64))), .second, .val (.long ((((a.toUInt64 >>> ((31 : Int32) &&& 0x3f).toInt64.toUInt64).toInt64) * (b &&& (2147483647 : Int64))) + ((a &&& (2147483647 : Int64)) * ((b.toUInt64 >>> ((31 : Int32) &&& 0x3f).toInt64.toUInt64).toInt64)))), .second, .unset, .unset] [(.long (b &&& (2147483647 : Int64))), (.long (a &&& (2147483647 : Int64))), (.long (((((a.toUInt64 >>> ((31 : Int32) &&& 0x3f).toInt64.toUInt64).toInt64) * (b &&& (2147483647 : Int64))) + ((a &&& (2147483647 : Int64)) * ((b.toUInt64 >>> ((31 : Int32) &&& 0x3f).toInt64.toUInt64).toInt64))) <<< ((31 : Int32) &&& 0x3f).toInt64))]))
        refine own_go (fun _ kS => XS.lmul X.here hx rfl (hb hby d3_82) rfl kS) ?_
        show own_Run p e below _ (T.setTop (mkF m 83 #[.val (.long a), .second, .val (.long b), .second, .val (.long (4611686018427387903 : Int64)), .second, .val (.long ((a.toUInt64 >>> ((31 : Int32) &&& 0x3f).toInt64.toUInt64).toInt64)), .second, .val (.long (a &&& (2147483647 : Int64))), .second, .val (.long ((b.toUInt64 >>> ((31 : Int32) &&& 0x3f).toInt64.toUInt64).toInt64)), .second, .val (.long (b &&& (2147483647 : Int64))), .second, .val (.long ((((a.toUInt64 >>> ((31 : Int32) &&& 0x3f).toInt64.toUInt64).toInt64) * (b &&& (2147483647 : Int64))) + ((a &&& (2147483647 : Int64)) * ((b.toUInt64 >>> ((31 : Int32) &&& 0x3f).toInt64.toUInt64).toInt64)))), .second, .unset, .unset] [(.long ((a &&& (2147483647 : Int64)) * (b &&& (2147483647 : Int64)))), (.long (((((a.toUInt64 >>> ((31 : Int32) &&& 0x3f).toInt64.toUInt64).toInt64) * (b &&& (2147483647 : Int64))) + ((a &&& (2147483647 : Int64)) * ((b.toUInt64 >>> ((31 : Int32) &&& 0x3f).toInt64.toUInt64).toInt64))) <<< ((31 : Int32) &&& 0x3f).toInt64))]))
        refine own_go (fun _ kS => XS.ladd X.here hx rfl (hb hby d3_83) rfl kS) ?_
        show own_Run p e below _ (T.setTop (mkF m 84 #[.val (.long a), .second, .val (.long b), .second, .val (.long (4611686018427387903 : Int64)), .second, .val (.long ((a.toUInt64 >>> ((31 : Int32) &&& 0x3f).toInt64.toUInt64).toInt64)), .second, .val (.long (a &&& (2147483647 : Int64))), .second, .val (.long ((b.toUInt64 >>> ((31 : Int32) &&& 0x3f).toInt64.toUInt64).toInt64)), .second, .val (.long (b &&& (2147483647 : Int64))), .second, .val (.long ((((a.toUInt64 >>> ((31 : Int32) &&& 0x3f).toInt64.toUInt64).toInt64) * (b &&& (2147483647 : Int64))) + ((a &&& (2147483647 : Int64)) * ((b.toUInt64 >>> ((31 : Int32) &&& 0x3f).toInt64.toUInt64).toInt64)))), .second, .unset, .unset] [(.long ((((((a.toUInt64 >>> ((31 : Int32) &&& 0x3f).toInt64.toUInt64).toInt64) * (b &&& (2147483647 : Int64))) + ((a &&& (2147483647 : Int64)) * ((b.toUInt64 >>> ((31 : Int32) &&& 0x3f).toInt64.toUInt64).toInt64))) <<< ((31 : Int32) &&& 0x3f).toInt64) + ((a &&& (2147483647 : Int64)) * (b &&& (2147483647 : Int64)))))]))
        refine own_go (fun _ kS => XS.lstore X.here hx rfl (hb hby d3_84) rfl (l' := #[.val (.long a), .second, .val (.long b), .second, .val (.long (4611686018427387903 : Int64)), .second, .val (.long ((a.toUInt64 >>> ((31 : Int32) &&& 0x3f).toInt64.toUInt64).toInt64)), .second, .val (.long (a &&& (2147483647 : Int64))), .second, .val (.long ((b.toUInt64 >>> ((31 : Int32) &&& 0x3f).toInt64.toUInt64).toInt64)), .second, .val (.long (b &&& (2147483647 : Int64))), .second, .val (.long ((((a.toUInt64 >>> ((31 : Int32) &&& 0x3f).toInt64.toUInt64).toInt64) * (b &&& (2147483647 : Int64))) + ((a &&& (2147483647 : Int64)) * ((b.toUInt64 >>> ((31 : Int32) &&& 0x3f).toInt64.toUInt64).toInt64)))), .second, .val (.long ((((((a.toUInt64 >>> ((31 : Int32) &&& 0x3f).toInt64.toUInt64).toInt64) * (b &&& (2147483647 : Int64))) + ((a &&& (2147483647 : Int64)) * ((b.toUInt64 >>> ((31 : Int32) &&& 0x3f).toInt64.toUInt64).toInt64))) <<< ((31 : Int32) &&& 0x3f).toInt64) + ((a &&& (2147483647 : Int64)) * (b &&& (2147483647 : Int64))))), .second]) rfl kS) ?_
        show own_Run p e below _ (T.setTop (mkF m 86 #[.val (.long a), .second, .val (.long b), .second, .val (.long (4611686018427387903 : Int64)), .second, .val (.long ((a.toUInt64 >>> ((31 : Int32) &&& 0x3f).toInt64.toUInt64).toInt64)), .second, .val (.long (a &&& (2147483647 : Int64))), .second, .val (.long ((b.toUInt64 >>> ((31 : Int32) &&& 0x3f).toInt64.toUInt64).toInt64)), .second, .val (.long (b &&& (2147483647 : Int64))), .second, .val (.long ((((a.toUInt64 >>> ((31 : Int32) &&& 0x3f).toInt64.toUInt64).toInt64) * (b &&& (2147483647 : Int64))) + ((a &&& (2147483647 : Int64)) * ((b.toUInt64 >>> ((31 : Int32) &&& 0x3f).toInt64.toUInt64).toInt64)))), .second, .val (.long ((((((a.toUInt64 >>> ((31 : Int32) &&& 0x3f).toInt64.toUInt64).toInt64) * (b &&& (2147483647 : Int64))) + ((a &&& (2147483647 : Int64)) * ((b.toUInt64 >>> ((31 : Int32) &&& 0x3f).toInt64.toUInt64).toInt64))) <<< ((31 : Int32) &&& 0x3f).toInt64) + ((a &&& (2147483647 : Int64)) * (b &&& (2147483647 : Int64))))), .second] []))
        refine own_go (fun _ kS => XS.lload X.here hx rfl (hb hby d3_86) rfl kS) ?_
        show own_Run p e below _ (T.setTop (mkF m 88 #[.val (.long a), .second, .val (.long b), .second, .val (.long (4611686018427387903 : Int64)), .second, .val (.long ((a.toUInt64 >>> ((31 : Int32) &&& 0x3f).toInt64.toUInt64).toInt64)), .second, .val (.long (a &&& (2147483647 : Int64))), .second, .val (.long ((b.toUInt64 >>> ((31 : Int32) &&& 0x3f).toInt64.toUInt64).toInt64)), .second, .val (.long (b &&& (2147483647 : Int64))), .second, .val (.long ((((a.toUInt64 >>> ((31 : Int32) &&& 0x3f).toInt64.toUInt64).toInt64) * (b &&& (2147483647 : Int64))) + ((a &&& (2147483647 : Int64)) * ((b.toUInt64 >>> ((31 : Int32) &&& 0x3f).toInt64.toUInt64).toInt64)))), .second, .val (.long ((((((a.toUInt64 >>> ((31 : Int32) &&& 0x3f).toInt64.toUInt64).toInt64) * (b &&& (2147483647 : Int64))) + ((a &&& (2147483647 : Int64)) * ((b.toUInt64 >>> ((31 : Int32) &&& 0x3f).toInt64.toUInt64).toInt64))) <<< ((31 : Int32) &&& 0x3f).toInt64) + ((a &&& (2147483647 : Int64)) * (b &&& (2147483647 : Int64))))), .second] [(.long ((((((a.toUInt64 >>> ((31 : Int32) &&& 0x3f).toInt64.toUInt64).toInt64) * (b &&& (2147483647 : Int64))) + ((a &&& (2147483647 : Int64)) * ((b.toUInt64 >>> ((31 : Int32) &&& 0x3f).toInt64.toUInt64).toInt64))) <<< ((31 : Int32) &&& 0x3f).toInt64) + ((a &&& (2147483647 : Int64)) * (b &&& (2147483647 : Int64)))))]))
        refine own_go (fun _ kS => XS.lload X.here hx rfl (hb hby d3_88) rfl kS) ?_
        show own_Run p e below _ (T.setTop (mkF m 90 #[.val (.long a), .second, .val (.long b), .second, .val (.long (4611686018427387903 : Int64)), .second, .val (.long ((a.toUInt64 >>> ((31 : Int32) &&& 0x3f).toInt64.toUInt64).toInt64)), .second, .val (.long (a &&& (2147483647 : Int64))), .second, .val (.long ((b.toUInt64 >>> ((31 : Int32) &&& 0x3f).toInt64.toUInt64).toInt64)), .second, .val (.long (b &&& (2147483647 : Int64))), .second, .val (.long ((((a.toUInt64 >>> ((31 : Int32) &&& 0x3f).toInt64.toUInt64).toInt64) * (b &&& (2147483647 : Int64))) + ((a &&& (2147483647 : Int64)) * ((b.toUInt64 >>> ((31 : Int32) &&& 0x3f).toInt64.toUInt64).toInt64)))), .second, .val (.long ((((((a.toUInt64 >>> ((31 : Int32) &&& 0x3f).toInt64.toUInt64).toInt64) * (b &&& (2147483647 : Int64))) + ((a &&& (2147483647 : Int64)) * ((b.toUInt64 >>> ((31 : Int32) &&& 0x3f).toInt64.toUInt64).toInt64))) <<< ((31 : Int32) &&& 0x3f).toInt64) + ((a &&& (2147483647 : Int64)) * (b &&& (2147483647 : Int64))))), .second] [(.long (4611686018427387903 : Int64)), (.long ((((((a.toUInt64 >>> ((31 : Int32) &&& 0x3f).toInt64.toUInt64).toInt64) * (b &&& (2147483647 : Int64))) + ((a &&& (2147483647 : Int64)) * ((b.toUInt64 >>> ((31 : Int32) &&& 0x3f).toInt64.toUInt64).toInt64))) <<< ((31 : Int32) &&& 0x3f).toInt64) + ((a &&& (2147483647 : Int64)) * (b &&& (2147483647 : Int64)))))]))
        refine own_callS X hx hZ e0 hown (⟨"java/lang/Math", "min", "(JJ)J"⟩ : MethodName) (hw _ (List.mem_of_getElem? (i := 16) rfl)) (hw _ (List.mem_of_getElem? (i := 17) rfl)) (hw _ (List.mem_of_getElem? (i := 18) rfl)) (hw _ (List.mem_of_getElem? (i := 19) rfl)) (by decide) [(.long ((((((a.toUInt64 >>> ((31 : Int32) &&& 0x3f).toInt64.toUInt64).toInt64) * (b &&& (2147483647 : Int64))) + ((a &&& (2147483647 : Int64)) * ((b.toUInt64 >>> ((31 : Int32) &&& 0x3f).toInt64.toUInt64).toInt64))) <<< ((31 : Int32) &&& 0x3f).toInt64) + ((a &&& (2147483647 : Int64)) * (b &&& (2147483647 : Int64))))), (.long (4611686018427387903 : Int64))] [] (rm_min l Z a0 hw ((((((a.toUInt64 >>> ((31 : Int32) &&& 0x3f).toInt64.toUInt64).toInt64) * (b &&& (2147483647 : Int64))) + ((a &&& (2147483647 : Int64)) * ((b.toUInt64 >>> ((31 : Int32) &&& 0x3f).toInt64.toUInt64).toInt64))) <<< ((31 : Int32) &&& 0x3f).toInt64) + ((a &&& (2147483647 : Int64)) * (b &&& (2147483647 : Int64)))) (4611686018427387903 : Int64) h0) (by decide) 0 (by decide) (by decide) (by decide) rfl (by rw [hml]; rfl) (lenOf own_pd0 rfl) rfl (by show 2 * 0 + _ ≤ _; exact Nat.le_of_eq rfl) (hb hby d3_90) (fun v2 h2 L2 T2 Q2 X2 e2 => ?_)
        obtain ⟨rfl, rfl, rfl⟩ := Q2
        show own_Run p e below _ (T2.setTop (mkF m 93 #[.val (.long a), .second, .val (.long b), .second, .val (.long (4611686018427387903 : Int64)), .second, .val (.long ((a.toUInt64 >>> ((31 : Int32) &&& 0x3f).toInt64.toUInt64).toInt64)), .second, .val (.long (a &&& (2147483647 : Int64))), .second, .val (.long ((b.toUInt64 >>> ((31 : Int32) &&& 0x3f).toInt64.toUInt64).toInt64)), .second, .val (.long (b &&& (2147483647 : Int64))), .second, .val (.long ((((a.toUInt64 >>> ((31 : Int32) &&& 0x3f).toInt64.toUInt64).toInt64) * (b &&& (2147483647 : Int64))) + ((a &&& (2147483647 : Int64)) * ((b.toUInt64 >>> ((31 : Int32) &&& 0x3f).toInt64.toUInt64).toInt64)))), .second, .val (.long ((((((a.toUInt64 >>> ((31 : Int32) &&& 0x3f).toInt64.toUInt64).toInt64) * (b &&& (2147483647 : Int64))) + ((a &&& (2147483647 : Int64)) * ((b.toUInt64 >>> ((31 : Int32) &&& 0x3f).toInt64.toUInt64).toInt64))) <<< ((31 : Int32) &&& 0x3f).toInt64) + ((a &&& (2147483647 : Int64)) * (b &&& (2147483647 : Int64))))), .second] [(.long (own_min ((((((a.toUInt64 >>> ((31 : Int32) &&& 0x3f).toInt64.toUInt64).toInt64) * (b &&& (2147483647 : Int64))) + ((a &&& (2147483647 : Int64)) * ((b.toUInt64 >>> ((31 : Int32) &&& 0x3f).toInt64.toUInt64).toInt64))) <<< ((31 : Int32) &&& 0x3f).toInt64) + ((a &&& (2147483647 : Int64)) * (b &&& (2147483647 : Int64)))) (4611686018427387903 : Int64)))]))
        refine own_retJ X2 hx hret hlk (hb hby d3_93) (by decide) (by decide) ?_
        exact ⟨by rw [(by unfold own_refx own_tl own_mid; rw [if_neg hc35, if_pos hc42, if_pos hc67] : own_refx a b = (own_min ((((((a.toUInt64 >>> ((31 : Int32) &&& 0x3f).toInt64.toUInt64).toInt64) * (b &&& (2147483647 : Int64))) + ((a &&& (2147483647 : Int64)) * ((b.toUInt64 >>> ((31 : Int32) &&& 0x3f).toInt64.toUInt64).toInt64))) <<< ((31 : Int32) &&& 0x3f).toInt64) + ((a &&& (2147483647 : Int64)) * (b &&& (2147483647 : Int64)))) (4611686018427387903 : Int64)))], e2.symm, rfl⟩
      · refine own_go (fun _ kS => XS.ifNo X.here hx rfl (hb hby d3_67) rfl ((if0 _ _).trans (flt (mt (lw_lt ((((a.toUInt64 >>> ((31 : Int32) &&& 0x3f).toInt64.toUInt64).toInt64) * (b &&& (2147483647 : Int64))) + ((a &&& (2147483647 : Int64)) * ((b.toUInt64 >>> ((31 : Int32) &&& 0x3f).toInt64.toUInt64).toInt64))) (2147483648 : Int64)).mp hc67)).1) kS) ?_
        show own_Run p e below _ (T.setTop (mkF m 70 #[.val (.long a), .second, .val (.long b), .second, .val (.long (4611686018427387903 : Int64)), .second, .val (.long ((a.toUInt64 >>> ((31 : Int32) &&& 0x3f).toInt64.toUInt64).toInt64)), .second, .val (.long (a &&& (2147483647 : Int64))), .second, .val (.long ((b.toUInt64 >>> ((31 : Int32) &&& 0x3f).toInt64.toUInt64).toInt64)), .second, .val (.long (b &&& (2147483647 : Int64))), .second, .val (.long ((((a.toUInt64 >>> ((31 : Int32) &&& 0x3f).toInt64.toUInt64).toInt64) * (b &&& (2147483647 : Int64))) + ((a &&& (2147483647 : Int64)) * ((b.toUInt64 >>> ((31 : Int32) &&& 0x3f).toInt64.toUInt64).toInt64)))), .second, .unset, .unset] []))
        refine own_go (fun _ kS => XS.lload X.here hx rfl (hb hby d3_70) rfl kS) ?_
        show own_Run p e below _ (T.setTop (mkF m 72 #[.val (.long a), .second, .val (.long b), .second, .val (.long (4611686018427387903 : Int64)), .second, .val (.long ((a.toUInt64 >>> ((31 : Int32) &&& 0x3f).toInt64.toUInt64).toInt64)), .second, .val (.long (a &&& (2147483647 : Int64))), .second, .val (.long ((b.toUInt64 >>> ((31 : Int32) &&& 0x3f).toInt64.toUInt64).toInt64)), .second, .val (.long (b &&& (2147483647 : Int64))), .second, .val (.long ((((a.toUInt64 >>> ((31 : Int32) &&& 0x3f).toInt64.toUInt64).toInt64) * (b &&& (2147483647 : Int64))) + ((a &&& (2147483647 : Int64)) * ((b.toUInt64 >>> ((31 : Int32) &&& 0x3f).toInt64.toUInt64).toInt64)))), .second, .unset, .unset] [(.long (4611686018427387903 : Int64))]))
        refine own_retJ X hx hret hlk (hb hby d3_72) (by decide) (by decide) ?_
        exact ⟨by rw [(by unfold own_refx own_tl own_mid; rw [if_neg hc35, if_pos hc42, if_neg hc67] : own_refx a b = (4611686018427387903 : Int64))], e0.symm, rfl⟩
    · refine own_go (fun _ kS => XS.ifNo X.here hx rfl (hb hby d3_42) rfl ((if0 _ _).trans (feq (mt (lw_eq ((b.toUInt64 >>> ((31 : Int32) &&& 0x3f).toInt64.toUInt64).toInt64) (0 : Int64)).mp hc42)).1) kS) ?_
      show own_Run p e below _ (T.setTop (mkF m 45 #[.val (.long a), .second, .val (.long b), .second, .val (.long (4611686018427387903 : Int64)), .second, .val (.long ((a.toUInt64 >>> ((31 : Int32) &&& 0x3f).toInt64.toUInt64).toInt64)), .second, .val (.long (a &&& (2147483647 : Int64))), .second, .val (.long ((b.toUInt64 >>> ((31 : Int32) &&& 0x3f).toInt64.toUInt64).toInt64)), .second, .val (.long (b &&& (2147483647 : Int64))), .second, .unset, .unset, .unset, .unset] []))
      refine own_go (fun _ kS => XS.lload X.here hx rfl (hb hby d3_45) rfl kS) ?_
      show own_Run p e below _ (T.setTop (mkF m 47 #[.val (.long a), .second, .val (.long b), .second, .val (.long (4611686018427387903 : Int64)), .second, .val (.long ((a.toUInt64 >>> ((31 : Int32) &&& 0x3f).toInt64.toUInt64).toInt64)), .second, .val (.long (a &&& (2147483647 : Int64))), .second, .val (.long ((b.toUInt64 >>> ((31 : Int32) &&& 0x3f).toInt64.toUInt64).toInt64)), .second, .val (.long (b &&& (2147483647 : Int64))), .second, .unset, .unset, .unset, .unset] [(.long (4611686018427387903 : Int64))]))
      refine own_retJ X hx hret hlk (hb hby d3_47) (by decide) (by decide) ?_
      exact ⟨by rw [(by unfold own_refx own_tl own_mid; rw [if_neg hc35, if_neg hc42] : own_refx a b = (4611686018427387903 : Int64))], e0.symm, rfl⟩
theorem own_pd1 : parseMethodDescriptor "(JI)J" = some ⟨[.long, .int], some .long⟩ := by decide +kernel
abbrev Q_law (Z : State) (q1 : Int64) (q2 : Int64) (p3 : Int32) (n0 : Nat) (h0 : Heap) : Option Value → Heap → List Loc → Prop := fun v h L => v = some (.int 1) ∧ Fr n0 L
set_option maxRecDepth 65536 in
set_option maxHeartbeats 40000000 in
theorem rm_law (l : Launch) (Z : State) (a0 : Array Value) (hw : ∀ d ∈ tables_1, d.before a0 Z = true) (q1 : Int64) (q2 : Int64) (p3 : Int32) (n0 : Nat) (h0 : Heap) (Z0 : n0 ≤ h0.size)  :
    own_Met l Z x code maxLocals ret room_1 #[(.long q1), (.long q2), (.int p3)] h0 (Q_law Z q1 q2 p3 n0 h0) := by
  refine own_enter (g0 := fun m => (mkF m 0 #[.val (.long q1), .second, .val (.long q2), .second, .val (.int p3), .unset, .unset, .unset, .unset] [])) (plainFor_of_name (by first | (simp [plainName, overriddenIn]; done) | decide +kernel)) (fun m => by first | (simp [entryFrame, mkF, argsToLocals, Value.category, maxLocals]; done) | rfl) ?_
  intro p e s m below meth c T hx hby hml hown hnm hZ hret hlk X e0
  have hml : c.maxLocals = 9 := hml
  replace hown : s.vm.findClass "com/example/viapost/viapost/core/PatternPartTimesPinLaw" = some m.cls := hown
  have N := Fr.nil n0
  have hz := Z0
  show own_Run p e below _ (T.setTop (mkF m 0 #[.val (.long q1), .second, .val (.long q2), .second, .val (.int p3), .unset, .unset, .unset, .unset] []))
  refine own_go (fun _ kS => XS.lloadN X.here hx rfl (hb hby at_0) rfl kS) ?_
  show own_Run p e below _ (T.setTop (mkF m 1 #[.val (.long q1), .second, .val (.long q2), .second, .val (.int p3), .unset, .unset, .unset, .unset] [(.long q1)]))
  refine own_go (fun _ kS => XS.iload X.here hx rfl (hb hby at_1) rfl kS) ?_
  show own_Run p e below _ (T.setTop (mkF m 3 #[.val (.long q1), .second, .val (.long q2), .second, .val (.int p3), .unset, .unset, .unset, .unset] [(.int p3), (.long q1)]))
  refine own_go (fun _ kS => XS.iconst X.here hx rfl (hb hby at_3) kS) ?_
  show own_Run p e below _ (T.setTop (mkF m 4 #[.val (.long q1), .second, .val (.long q2), .second, .val (.int p3), .unset, .unset, .unset, .unset] [(.int (3 : Int32)), (.int p3), (.long q1)]))
  refine own_go (fun _ kS => XS.iand X.here hx rfl (hb hby at_4) rfl kS) ?_
  show own_Run p e below _ (T.setTop (mkF m 5 #[.val (.long q1), .second, .val (.long q2), .second, .val (.int p3), .unset, .unset, .unset, .unset] [(.int (p3 &&& (3 : Int32))), (.long q1)]))
  refine own_callS X hx hZ e0 hown (⟨"com/example/viapost/viapost/core/PatternPartTimesPinLaw", "pick", "(JI)J"⟩ : MethodName) (hw _ (List.mem_of_getElem? (i := 0) rfl)) (hw _ (List.mem_of_getElem? (i := 1) rfl)) (hw _ (List.mem_of_getElem? (i := 2) rfl)) (hw _ (List.mem_of_getElem? (i := 3) rfl)) (by decide) [(.long q1), (.int (p3 &&& (3 : Int32)))] [] (rm_pick l Z a0 hw q1 (p3 &&& (3 : Int32)) h0) (by decide) 0 (by decide) (by decide) (by decide) rfl (by rw [hml]; rfl) (lenOf own_pd1 rfl) rfl (by show 2 * 0 + _ ≤ _; exact Nat.le_of_eq rfl) (hb hby at_5) (fun v1 h1 L1 T1 Q1 X1 e1 => ?_)
  obtain ⟨rfl, rfl, rfl⟩ := Q1
  replace N := N.app (Fr.nil n0)
  show own_Run p e below _ (T1.setTop (mkF m 8 #[.val (.long q1), .second, .val (.long q2), .second, .val (.int p3), .unset, .unset, .unset, .unset] [(.long (own_pick q1 (p3 &&& (3 : Int32))))]))
  refine own_go (fun _ kS => XS.lstore X1.here hx rfl (hb hby at_8) rfl (l' := #[.val (.long q1), .second, .val (.long q2), .second, .val (.int p3), .val (.long (own_pick q1 (p3 &&& (3 : Int32)))), .second, .unset, .unset]) rfl kS) ?_
  show own_Run p e below _ (T1.setTop (mkF m 10 #[.val (.long q1), .second, .val (.long q2), .second, .val (.int p3), .val (.long (own_pick q1 (p3 &&& (3 : Int32)))), .second, .unset, .unset] []))
  generalize e_ta : (own_pick q1 (p3 &&& (3 : Int32))) = ta
  refine own_go (fun _ kS => XS.lloadN X1.here hx rfl (hb hby at_10) rfl kS) ?_
  show own_Run p e below _ (T1.setTop (mkF m 11 #[.val (.long q1), .second, .val (.long q2), .second, .val (.int p3), .val (.long ta), .second, .unset, .unset] [(.long q2)]))
  refine own_go (fun _ kS => XS.iload X1.here hx rfl (hb hby at_11) rfl kS) ?_
  show own_Run p e below _ (T1.setTop (mkF m 13 #[.val (.long q1), .second, .val (.long q2), .second, .val (.int p3), .val (.long ta), .second, .unset, .unset] [(.int p3), (.long q2)]))
  refine own_go (fun _ kS => XS.iconst X1.here hx rfl (hb hby at_13) kS) ?_
  show own_Run p e below _ (T1.setTop (mkF m 14 #[.val (.long q1), .second, .val (.long q2), .second, .val (.int p3), .val (.long ta), .second, .unset, .unset] [(.int (2 : Int32)), (.int p3), (.long q2)]))
  refine own_go (fun _ kS => XS.iushr X1.here hx rfl (hb hby at_14) rfl kS) ?_
  show own_Run p e below _ (T1.setTop (mkF m 15 #[.val (.long q1), .second, .val (.long q2), .second, .val (.int p3), .val (.long ta), .second, .unset, .unset] [(.int ((p3.toUInt32 >>> ((2 : Int32) &&& 31).toUInt32).toInt32)), (.long q2)]))
  refine own_go (fun _ kS => XS.iconst X1.here hx rfl (hb hby at_15) kS) ?_
  show own_Run p e below _ (T1.setTop (mkF m 16 #[.val (.long q1), .second, .val (.long q2), .second, .val (.int p3), .val (.long ta), .second, .unset, .unset] [(.int (3 : Int32)), (.int ((p3.toUInt32 >>> ((2 : Int32) &&& 31).toUInt32).toInt32)), (.long q2)]))
  refine own_go (fun _ kS => XS.iand X1.here hx rfl (hb hby at_16) rfl kS) ?_
  show own_Run p e below _ (T1.setTop (mkF m 17 #[.val (.long q1), .second, .val (.long q2), .second, .val (.int p3), .val (.long ta), .second, .unset, .unset] [(.int (((p3.toUInt32 >>> ((2 : Int32) &&& 31).toUInt32).toInt32) &&& (3 : Int32))), (.long q2)]))
  refine own_callS X1 hx hZ e1 hown (⟨"com/example/viapost/viapost/core/PatternPartTimesPinLaw", "pick", "(JI)J"⟩ : MethodName) (hw _ (List.mem_of_getElem? (i := 0) rfl)) (hw _ (List.mem_of_getElem? (i := 1) rfl)) (hw _ (List.mem_of_getElem? (i := 2) rfl)) (hw _ (List.mem_of_getElem? (i := 3) rfl)) (by decide) [(.long q2), (.int (((p3.toUInt32 >>> ((2 : Int32) &&& 31).toUInt32).toInt32) &&& (3 : Int32)))] [] (rm_pick l Z a0 hw q2 (((p3.toUInt32 >>> ((2 : Int32) &&& 31).toUInt32).toInt32) &&& (3 : Int32)) h0) (by decide) 0 (by decide) (by decide) (by decide) rfl (by rw [hml]; rfl) (lenOf own_pd1 rfl) rfl (by show 2 * 0 + _ ≤ _; exact Nat.le_of_eq rfl) (hb hby at_17) (fun v2 h2 L2 T2 Q2 X2 e2 => ?_)
  obtain ⟨rfl, rfl, rfl⟩ := Q2
  replace N := N.app (Fr.nil n0)
  show own_Run p e below _ (T2.setTop (mkF m 20 #[.val (.long q1), .second, .val (.long q2), .second, .val (.int p3), .val (.long ta), .second, .unset, .unset] [(.long (own_pick q2 (((p3.toUInt32 >>> ((2 : Int32) &&& 31).toUInt32).toInt32) &&& (3 : Int32))))]))
  refine own_go (fun _ kS => XS.lstore X2.here hx rfl (hb hby at_20) rfl (l' := #[.val (.long q1), .second, .val (.long q2), .second, .val (.int p3), .val (.long ta), .second, .val (.long (own_pick q2 (((p3.toUInt32 >>> ((2 : Int32) &&& 31).toUInt32).toInt32) &&& (3 : Int32)))), .second]) rfl kS) ?_
  show own_Run p e below _ (T2.setTop (mkF m 22 #[.val (.long q1), .second, .val (.long q2), .second, .val (.int p3), .val (.long ta), .second, .val (.long (own_pick q2 (((p3.toUInt32 >>> ((2 : Int32) &&& 31).toUInt32).toInt32) &&& (3 : Int32)))), .second] []))
  generalize e_tb : (own_pick q2 (((p3.toUInt32 >>> ((2 : Int32) &&& 31).toUInt32).toInt32) &&& (3 : Int32))) = tb
  refine own_go (fun _ kS => XS.lload X2.here hx rfl (hb hby at_22) rfl kS) ?_
  show own_Run p e below _ (T2.setTop (mkF m 24 #[.val (.long q1), .second, .val (.long q2), .second, .val (.int p3), .val (.long ta), .second, .val (.long tb), .second] [(.long ta)]))
  refine own_go (fun _ kS => XS.lload X2.here hx rfl (hb hby at_24) rfl kS) ?_
  show own_Run p e below _ (T2.setTop (mkF m 26 #[.val (.long q1), .second, .val (.long q2), .second, .val (.int p3), .val (.long ta), .second, .val (.long tb), .second] [(.long tb), (.long ta)]))
  refine own_callS X2 hx hZ e2 hown (⟨"com/example/viapost/viapost/core/PatternPart", "times", "(JJ)J"⟩ : MethodName) (hw _ (List.mem_of_getElem? (i := 5) rfl)) (hw _ (List.mem_of_getElem? (i := 6) rfl)) (hw _ (List.mem_of_getElem? (i := 7) rfl)) (hw _ (List.mem_of_getElem? (i := 8) rfl)) (by decide) [(.long ta), (.long tb)] [] (rm_times l Z a0 hw ta tb h0) (by decide) 0 (by decide) (by decide) (by decide) rfl (by rw [hml]; rfl) (lenOf own_pd0 rfl) rfl (by show 2 * 0 + _ ≤ _; exact Nat.le_of_eq rfl) (hb hby at_26) (fun v3 h3 L3 T3 Q3 X3 e3 => ?_)
  obtain ⟨rfl, rfl, rfl⟩ := Q3
  replace N := N.app (Fr.nil n0)
  show own_Run p e below _ (T3.setTop (mkF m 29 #[.val (.long q1), .second, .val (.long q2), .second, .val (.int p3), .val (.long ta), .second, .val (.long tb), .second] [(.long (own_times ta tb))]))
  refine own_go (fun _ kS => XS.lload X3.here hx rfl (hb hby at_29) rfl kS) ?_
  show own_Run p e below _ (T3.setTop (mkF m 31 #[.val (.long q1), .second, .val (.long q2), .second, .val (.int p3), .val (.long ta), .second, .val (.long tb), .second] [(.long ta), (.long (own_times ta tb))]))
  refine own_go (fun _ kS => XS.lload X3.here hx rfl (hb hby at_31) rfl kS) ?_
  show own_Run p e below _ (T3.setTop (mkF m 33 #[.val (.long q1), .second, .val (.long q2), .second, .val (.int p3), .val (.long ta), .second, .val (.long tb), .second] [(.long tb), (.long ta), (.long (own_times ta tb))]))
  refine own_callS X3 hx hZ e3 hown (⟨"com/example/viapost/viapost/core/PatternPartTimesPinLaw", "reference", "(JJ)J"⟩ : MethodName) (hw _ (List.mem_of_getElem? (i := 10) rfl)) (hw _ (List.mem_of_getElem? (i := 11) rfl)) (hw _ (List.mem_of_getElem? (i := 2) rfl)) (hw _ (List.mem_of_getElem? (i := 12) rfl)) (by decide) [(.long ta), (.long tb)] [(.long (own_times ta tb))] (rm_refx l Z a0 hw ta tb h0) (by decide) 2 (by decide) (by decide) (by decide) rfl (by rw [hml]; rfl) (lenOf own_pd0 rfl) rfl (by show 2 * 0 + _ ≤ _; exact Nat.le_of_eq rfl) (hb hby at_33) (fun v4 h4 L4 T4 Q4 X4 e4 => ?_)
  obtain ⟨rfl, rfl, rfl⟩ := Q4
  replace N := N.app (Fr.nil n0)
  show own_Run p e below _ (T4.setTop (mkF m 36 #[.val (.long q1), .second, .val (.long q2), .second, .val (.int p3), .val (.long ta), .second, .val (.long tb), .second] [(.long (own_refx ta tb)), (.long (own_times ta tb))]))
  refine own_go (fun _ kS => XS.lcmp X4.here hx rfl (hb hby at_36) rfl kS) ?_
  show own_Run p e below _ (T4.setTop (mkF m 37 #[.val (.long q1), .second, .val (.long q2), .second, .val (.int p3), .val (.long ta), .second, .val (.long tb), .second] [(.int (lcmpW (own_times ta tb) (own_refx ta tb)))]))
  refine own_go (fun _ kS => XS.ifNo X4.here hx rfl (hb hby at_37) rfl ((if0 _ _).trans (teq ((lw_eq (own_times ta tb) (own_refx ta tb)).mpr (show (own_times ta tb) = (own_refx ta tb) from (own_eq ta tb (e_ta ▸ own_pick0 _ _) (e_tb ▸ own_pick0 _ _))))).2) kS) ?_
  show own_Run p e below _ (T4.setTop (mkF m 40 #[.val (.long q1), .second, .val (.long q2), .second, .val (.int p3), .val (.long ta), .second, .val (.long tb), .second] []))
  refine own_go (fun _ kS => XS.iconst X4.here hx rfl (hb hby at_40) kS) ?_
  show own_Run p e below _ (T4.setTop (mkF m 41 #[.val (.long q1), .second, .val (.long q2), .second, .val (.int p3), .val (.long ta), .second, .val (.long tb), .second] [(.int (1 : Int32))]))
  refine own_go (fun _ kS => XS.goto X4.here hx rfl (pc0 := 41) (pc' := 45) rfl (hb hby at_41) (by decide) (by decide) kS) ?_
  show own_Run p e below _ (T4.setTop (mkF m 45 #[.val (.long q1), .second, .val (.long q2), .second, .val (.int p3), .val (.long ta), .second, .val (.long tb), .second] [(.int (1 : Int32))]))
  refine own_retN X4 hx (t := .boolean) hret hlk (by simp) (hb hby at_45) (by decide) (by decide) ?_
  exact ⟨rfl, N⟩
set_option maxRecDepth 65536 in
set_option maxHeartbeats 40000000 in
theorem own_comes_1 {Post : Tables → Env → Array Value → State → Outcome → State → Prop} (hpost : ∀ tb e args s v u, (limb_1_1.after args s (.returned v) u = true ∧ limb_1_2.after args s (.returned v) u = true) → FrameEnd s (.returned v) u (Jvm.fieldLocs frame_1_writes args s ++ Jvm.arrayLocs frame_1_arrays args s ++ Jvm.staticLocs frame_1_statics s) 0 0 → Post tb e args s (.returned v) u) :
    ArmFor flags0 classFile x code maxLocals ret World_1 tables_1 room_1 Calls_1 rest_1 Pre_1 Post := by
  intro l hfl _ _ p e ha hc hk s m args below hf hA hF happ hP
  obtain ⟨hcalls, hrest, hpre⟩ := hP
  obtain ⟨-, -, -, hnamed, -, -, -, hat⟩ := (Spec.applies_iff hf).mp happ
  obtain ⟨hg, hn⟩ := and_e (Cond.before_iff.mp (show (Jvm.Cond.and given_1 narrow_1).before args s = true from hpre))
  obtain ⟨g0, hg⟩ := and_e hg
  obtain ⟨k0, hg⟩ := and_e hg
  obtain ⟨k1, hg⟩ := and_e hg
  have k2 := hg
  obtain ⟨w0, w1, w2, rfl⟩ : ∃ w0 w1 w2 : Value, args = #[w0, w1, w2] := by
    have hs : args.size = 3 := by simpa [Cond.value, given_1] using g0
    obtain ⟨L⟩ := args
    match L, hs with
    | [w0, w1, w2], _ => exact ⟨w0, w1, w2, rfl⟩
  have hw := fun d (hd : d ∈ tables_1) => atoms_spec (ws := Jvm.Cond.code x code maxLocals ret :: tables_1) hat d (List.mem_cons_of_mem _ hd)
  obtain ⟨i0, ei0⟩ := isL_v k0
  obtain rfl : w0 = (.long i0) := Option.some.inj ei0
  obtain ⟨i1, ei1⟩ := isL_v k1
  obtain rfl : w1 = (.long i1) := Option.some.inj ei1
  obtain ⟨i2, ei2⟩ := is_v k2
  obtain rfl : w2 = (.int i2) := Option.some.inj ei2
  obtain ⟨n, o, h1, h2, h3, _, L, rfl, ⟨rfl, N⟩, hq⟩ := rm_law l s _ hw i0 i1 i2 s.heap.size s.heap (Nat.le_refl _) tables_1 p e ha hc hk s m _ below hf ((Spec.applies_iff_loose hf).mp happ).1 ⟨rfl, State.Warmed39.refl s, rfl⟩ trivial
  refine ⟨n, _, h1, h2, h3, hpost _ _ _ _ _ _ ⟨Cond.after_iff.mpr rfl, Cond.after_iff.mpr (eq_i res_at (Term.int_eval (1)) rfl)⟩ ⟨hq.1, hq.2.1, (hq.2.2.sift fun y hy => Or.inr (N y hy)).mono (by decide) (by decide)⟩⟩
theorem main_1_1 : Claimed_1_1 := own_comes_1 fun _ _ _ _ _ _ h hF => ⟨h.1, hF⟩
theorem main_1_2 : Claimed_1_2 := own_comes_1 fun _ _ _ _ _ _ h hF => ⟨h.2, hF⟩
end Jvm.Pilot.@@N@@
namespace Jvm.Pilot.@@N@@
open Jvm Jvm.ClassFile Sem Op Lib Jvm.Free Jvm.Stand Jvm.Pilot.@@N@@.Jvm.D
/-! MADE BY PROGRAM (witnessworld.py) out of the Statement's table words and the real class files: 11 classes; the members and pool entries that the words name. The judged class is class 1, her method 1. -/
namespace start1
open Jvm.ClassFile
def u (s : String) : CpInfo := .utf8 (stringToUtf16 s)
/-- a pool by its gaps: so many unusable entries, then the entry; so many at the end -/
def gap : Nat → List CpInfo → List CpInfo
  | 0, r => r
  | n + 1, r => .unusable :: gap n r
def poolList (es : List (Nat × CpInfo)) (last : Nat) : List CpInfo := es.foldr (fun e r => gap e.1 (e.2 :: r)) (gap last [])
def pool (es : List (Nat × CpInfo)) (last : Nat) : Array CpInfo := ⟨poolList es last⟩
def fileOf (pool : Array CpInfo) (this : Nat) (attrs : Array Attribute := #[]) (ms : Array MethodInfo := #[]) (fl : Nat := 33) (sup : Nat := 0) (ifs : Array Nat := #[]) (fds : Array FieldInfo := #[]) : ClassFile where
  minorVersion := 0
  majorVersion := 65
  constantPool := pool
  accessFlags := fl
  thisClass := this
  superClass := sup
  interfaces := ifs
  fields := fds
  methods := ms
  attributes := attrs
def plain (name : String) (sup : Option ClassId) : Class where
  name := name
  kind := .ordinary
  loader := none
  accessFlags := 33
  super := sup
  interfaces := #[]
  cf := none
  fields := #[]
  methods := #[]
  instanceTypes := #[]
  staticTypes := #[]
  resolved := #[]
  callSites := []
  init := .initialized
  statics := none
  mirror := none

def pool0 : Array CpInfo := pool [(5, u "<init>"), (0, u "()V"), (1, .class_ 10), (1, u "java/lang/Object")] 113

def k0m0 : Method := { name := "<init>", desc := "()V", sig := { parameters := [], returnType := none }, accessFlags := 1, code := none }
/-- java/lang/Object -/
def k0 : Class := { plain "java/lang/Object" none with
  accessFlags := 33
  interfaces := #[]
  cf := some (fileOf pool0 8 #[] #[{ accessFlags := 1, nameIndex := 5, descriptorIndex := 6, attributes := #[] }] 33 0 #[] #[])
  fields := #[]
  methods := #[k0m0]
  instanceTypes := #[]
  staticTypes := #[]
  resolved := Array.replicate 124 none
  statics := none }

def pool1 : Array CpInfo := pool [(2, .class_ 4), (1, u "java/lang/Object"), (0, u "<init>"), (0, u "()V"), (0, .methodref 8 9), (0, .class_ 10), (0, .nameAndType 11 12), (0, u "com/example/viapost/viapost/core/PatternPartTimesPinLaw"), (0, u "pick"), (0, u "(JI)J"), (0, .methodref 14 15), (0, .class_ 16), (0, .nameAndType 17 18), (0, u "com/example/viapost/viapost/core/PatternPart"), (0, u "times"), (0, u "(JJ)J"), (0, .methodref 8 20), (0, .nameAndType 21 18), (0, u "reference"), (2, .long 9223372036854775807), (1, .long 15), (1, .long 4294967295), (1, .long 4611686018427387903), (1, .long 2147483647), (1, .long 2147483648), (1, .methodref 37 38), (0, .class_ 39), (0, .nameAndType 40 18), (0, u "java/lang/Math"), (0, u "min"), (2, u "law"), (0, u "(JJI)Z")] 3

def k1m0 : Method := { name := "<init>", desc := "()V", sig := { parameters := [], returnType := none }, accessFlags := 1, code := none }
def k1c1 : Code := { maxStack := 6, maxLocals := 9, code := code, exceptionTable := #[], attributes := #[] }
def k1m1 : Method := { name := "law", desc := "(JJI)Z", sig := { parameters := [.long, .long, .int], returnType := some .boolean }, accessFlags := 9, code := some k1c1 }
def k1c2 : Code := { maxStack := 4, maxLocals := 3, code := method_3_code, exceptionTable := #[], attributes := #[] }
def k1m2 : Method := { name := "pick", desc := "(JI)J", sig := { parameters := [.long, .int], returnType := some .long }, accessFlags := 10, code := some k1c2 }
def k1c3 : Code := { maxStack := 6, maxLocals := 18, code := method_4_code, exceptionTable := #[], attributes := #[] }
def k1m3 : Method := { name := "reference", desc := "(JJ)J", sig := { parameters := [.long, .long], returnType := some .long }, accessFlags := 10, code := some k1c3 }
/-- com/example/viapost/viapost/core/PatternPartTimesPinLaw -/
def k1 : Class := { plain "com/example/viapost/viapost/core/PatternPartTimesPinLaw" (some 0) with
  accessFlags := 49
  interfaces := #[]
  cf := some (fileOf pool1 8 #[] #[{ accessFlags := 1, nameIndex := 5, descriptorIndex := 6, attributes := #[] }, { accessFlags := 9, nameIndex := 43, descriptorIndex := 44, attributes := #[] }, { accessFlags := 10, nameIndex := 11, descriptorIndex := 12, attributes := #[] }, { accessFlags := 10, nameIndex := 21, descriptorIndex := 18, attributes := #[] }] 49 2 #[] #[])
  fields := #[]
  methods := #[k1m0, k1m1, k1m2, k1m3]
  instanceTypes := #[]
  staticTypes := #[]
  resolved := Array.replicate 48 none
  statics := none }

def pool2 : Array CpInfo := pool [(2, .class_ 4), (1, u "java/lang/Object"), (0, u "<init>"), (0, u "()V"), (0, .class_ 8), (0, u "java/lang/Record")] 13

def k2m0 : Method := { name := "<init>", desc := "()V", sig := { parameters := [], returnType := none }, accessFlags := 4, code := none }
/-- java/lang/Record -/
def k2 : Class := { plain "java/lang/Record" (some 0) with
  accessFlags := 1057
  interfaces := #[]
  cf := some (fileOf pool2 7 #[] #[{ accessFlags := 4, nameIndex := 5, descriptorIndex := 6, attributes := #[] }] 1057 2 #[] #[])
  fields := #[]
  methods := #[k2m0]
  instanceTypes := #[]
  staticTypes := #[]
  resolved := Array.replicate 22 none
  statics := none }

def pool3 : Array CpInfo := pool [(6, .class_ 8), (1, u "java/lang/Record"), (3, .class_ 14), (1, u "com/example/viapost/viapost/core/PatternPart"), (0, u "moves"), (0, u "J"), (2, u "ways"), (2, u "endedAfterRead"), (2, u "movesAfterRead"), (2, u "waysAfterRead"), (2, u "longest"), (2, u "nesting"), (0, u "Lcom/example/viapost/viapost/core/PatternNesting;"), (6, u "CHARACTER"), (27, u "(JJ)J"), (2, u "times"), (26, .class_ 102), (1, u "com/example/viapost/viapost/core/PatternPart$Quantifier"), (13, .long 4611686018427387903), (34, u "EMPTY"), (2, u "Lcom/example/viapost/viapost/core/PatternPart;"), (2, u "NOTHING"), (10, u "ASSERTION"), (4, u "BACK_REFERENCE"), (0, u "MOST"), (1, u "UNLIMITED"), (0, u "I"), (0, u "SHALLOW_TESTS"), (0, u "DEEP_TEST_MOVES")] 43

def k3c0 : Code := { maxStack := 6, maxLocals := 6, code := prog_50_method_17_code, exceptionTable := #[], attributes := #[] }
def k3m0 : Method := { name := "times", desc := "(JJ)J", sig := { parameters := [.long, .long], returnType := some .long }, accessFlags := 8, code := some k3c0 }
/-- com/example/viapost/viapost/core/PatternPart -/
def k3 : Class := { plain "com/example/viapost/viapost/core/PatternPart" (some 2) with
  accessFlags := 48
  interfaces := #[]
  cf := some (fileOf pool3 12 #[.nestMembers #[100]] #[{ accessFlags := 8, nameIndex := 73, descriptorIndex := 70, attributes := #[] }] 48 6 #[] #[{ accessFlags := 18, nameIndex := 15, descriptorIndex := 16, attributes := #[] }, { accessFlags := 18, nameIndex := 19, descriptorIndex := 16, attributes := #[] }, { accessFlags := 18, nameIndex := 22, descriptorIndex := 16, attributes := #[] }, { accessFlags := 18, nameIndex := 25, descriptorIndex := 16, attributes := #[] }, { accessFlags := 18, nameIndex := 28, descriptorIndex := 16, attributes := #[] }, { accessFlags := 18, nameIndex := 31, descriptorIndex := 16, attributes := #[] }, { accessFlags := 18, nameIndex := 34, descriptorIndex := 35, attributes := #[] }, { accessFlags := 24, nameIndex := 174, descriptorIndex := 16, attributes := #[] }, { accessFlags := 24, nameIndex := 176, descriptorIndex := 177, attributes := #[] }, { accessFlags := 26, nameIndex := 178, descriptorIndex := 16, attributes := #[] }, { accessFlags := 26, nameIndex := 179, descriptorIndex := 16, attributes := #[] }, { accessFlags := 24, nameIndex := 151, descriptorIndex := 154, attributes := #[] }, { accessFlags := 24, nameIndex := 157, descriptorIndex := 154, attributes := #[] }, { accessFlags := 24, nameIndex := 42, descriptorIndex := 154, attributes := #[] }, { accessFlags := 24, nameIndex := 168, descriptorIndex := 154, attributes := #[] }, { accessFlags := 24, nameIndex := 173, descriptorIndex := 154, attributes := #[] }])
  fields := #[{ name := "moves", type := .long, accessFlags := 18, slot := 0, constantValue := 0 }, { name := "ways", type := .long, accessFlags := 18, slot := 1, constantValue := 0 }, { name := "endedAfterRead", type := .long, accessFlags := 18, slot := 2, constantValue := 0 }, { name := "movesAfterRead", type := .long, accessFlags := 18, slot := 3, constantValue := 0 }, { name := "waysAfterRead", type := .long, accessFlags := 18, slot := 4, constantValue := 0 }, { name := "longest", type := .long, accessFlags := 18, slot := 5, constantValue := 0 }, { name := "nesting", type := (.object "com/example/viapost/viapost/core/PatternNesting"), accessFlags := 18, slot := 6, constantValue := 0 }, { name := "MOST", type := .long, accessFlags := 24, slot := 0, constantValue := 0 }, { name := "UNLIMITED", type := .int, accessFlags := 24, slot := 1, constantValue := 0 }, { name := "SHALLOW_TESTS", type := .long, accessFlags := 26, slot := 2, constantValue := 0 }, { name := "DEEP_TEST_MOVES", type := .long, accessFlags := 26, slot := 3, constantValue := 0 }, { name := "EMPTY", type := (.object "com/example/viapost/viapost/core/PatternPart"), accessFlags := 24, slot := 4, constantValue := 0 }, { name := "NOTHING", type := (.object "com/example/viapost/viapost/core/PatternPart"), accessFlags := 24, slot := 5, constantValue := 0 }, { name := "CHARACTER", type := (.object "com/example/viapost/viapost/core/PatternPart"), accessFlags := 24, slot := 6, constantValue := 0 }, { name := "ASSERTION", type := (.object "com/example/viapost/viapost/core/PatternPart"), accessFlags := 24, slot := 7, constantValue := 0 }, { name := "BACK_REFERENCE", type := (.object "com/example/viapost/viapost/core/PatternPart"), accessFlags := 24, slot := 8, constantValue := 0 }]
  methods := #[k3m0]
  instanceTypes := #[.long, .long, .long, .long, .long, .long, (.object "com/example/viapost/viapost/core/PatternNesting")]
  staticTypes := #[.long, .int, .long, .long, (.object "com/example/viapost/viapost/core/PatternPart"), (.object "com/example/viapost/viapost/core/PatternPart"), (.object "com/example/viapost/viapost/core/PatternPart"), (.object "com/example/viapost/viapost/core/PatternPart"), (.object "com/example/viapost/viapost/core/PatternPart")]
  resolved := Array.replicate 223 none
  statics := none }

def pool4 : Array CpInfo := pool [(1, .class_ 2), (0, u "java/lang/Math"), (1, .class_ 6), (1, u "java/lang/Object"), (0, u "<init>"), (0, u "()V"), (89, .class_ 100), (1, u "java/lang/Math$RandomNumberGeneratorHolder"), (20, u "(JJ)J"), (50, u "negativeZeroFloatBits"), (0, u "J"), (2, u "negativeZeroDoubleBits"), (24, u "min"), (43, u "$assertionsDisabled"), (0, u "Z"), (91, u "twoToTheDoubleScaleDown"), (0, u "D"), (4, u "twoToTheDoubleScaleUp"), (9, u "E"), (3, u "PI"), (2, u "TAU"), (2, u "DEGREES_TO_RADIANS"), (0, u "RADIANS_TO_DEGREES")] 94

def k4m0 : Method := { name := "<init>", desc := "()V", sig := { parameters := [], returnType := none }, accessFlags := 2, code := none }
def k4c1 : Code := { maxStack := 4, maxLocals := 4, code := jdk_29_method_70_code, exceptionTable := #[], attributes := #[] }
def k4m1 : Method := { name := "min", desc := "(JJ)J", sig := { parameters := [.long, .long], returnType := some .long }, accessFlags := 9, code := some k4c1 }
/-- java/lang/Math -/
def k4 : Class := { plain "java/lang/Math" (some 0) with
  accessFlags := 49
  interfaces := #[]
  cf := some (fileOf pool4 1 #[.nestMembers #[98]] #[{ accessFlags := 2, nameIndex := 7, descriptorIndex := 8, attributes := #[] }, { accessFlags := 9, nameIndex := 201, descriptorIndex := 121, attributes := #[] }] 49 4 #[] #[{ accessFlags := 25, nameIndex := 354, descriptorIndex := 339, attributes := #[] }, { accessFlags := 25, nameIndex := 358, descriptorIndex := 339, attributes := #[] }, { accessFlags := 25, nameIndex := 361, descriptorIndex := 339, attributes := #[] }, { accessFlags := 26, nameIndex := 364, descriptorIndex := 339, attributes := #[] }, { accessFlags := 26, nameIndex := 365, descriptorIndex := 339, attributes := #[] }, { accessFlags := 26, nameIndex := 172, descriptorIndex := 173, attributes := #[] }, { accessFlags := 26, nameIndex := 176, descriptorIndex := 173, attributes := #[] }, { accessFlags := 8, nameIndex := 344, descriptorIndex := 339, attributes := #[] }, { accessFlags := 8, nameIndex := 338, descriptorIndex := 339, attributes := #[] }, { accessFlags := 4120, nameIndex := 245, descriptorIndex := 246, attributes := #[] }])
  fields := #[{ name := "E", type := .double, accessFlags := 25, slot := 0, constantValue := 0 }, { name := "PI", type := .double, accessFlags := 25, slot := 1, constantValue := 0 }, { name := "TAU", type := .double, accessFlags := 25, slot := 2, constantValue := 0 }, { name := "DEGREES_TO_RADIANS", type := .double, accessFlags := 26, slot := 3, constantValue := 0 }, { name := "RADIANS_TO_DEGREES", type := .double, accessFlags := 26, slot := 4, constantValue := 0 }, { name := "negativeZeroFloatBits", type := .long, accessFlags := 26, slot := 5, constantValue := 0 }, { name := "negativeZeroDoubleBits", type := .long, accessFlags := 26, slot := 6, constantValue := 0 }, { name := "twoToTheDoubleScaleUp", type := .double, accessFlags := 8, slot := 7, constantValue := 0 }, { name := "twoToTheDoubleScaleDown", type := .double, accessFlags := 8, slot := 8, constantValue := 0 }, { name := "$assertionsDisabled", type := .boolean, accessFlags := 4120, slot := 9, constantValue := 0 }]
  methods := #[k4m0, k4m1]
  instanceTypes := #[]
  staticTypes := #[.double, .double, .double, .double, .double, .long, .long, .double, .double, .boolean]
  resolved := Array.replicate 460 none
  statics := none }

def pool5 : Array CpInfo := pool [(1, u "java/lang/Cloneable"), (0, .class_ 1), (0, u "java/lang/Object"), (0, .class_ 3)] 3

/-- java/lang/Cloneable -/
def k5 : Class := { plain "java/lang/Cloneable" (some 0) with
  accessFlags := 1537
  interfaces := #[]
  cf := some (fileOf pool5 2 #[] #[] 1537 4 #[] #[])
  fields := #[]
  methods := #[]
  instanceTypes := #[]
  staticTypes := #[]
  resolved := Array.replicate 8 none
  statics := none }

def pool6 : Array CpInfo := pool [(1, u "java/io/Serializable"), (0, .class_ 1), (0, u "java/lang/Object"), (0, .class_ 3)] 3

/-- java/io/Serializable -/
def k6 : Class := { plain "java/io/Serializable" (some 0) with
  accessFlags := 1537
  interfaces := #[]
  cf := some (fileOf pool6 2 #[] #[] 1537 4 #[] #[])
  fields := #[]
  methods := #[]
  instanceTypes := #[]
  staticTypes := #[]
  resolved := Array.replicate 8 none
  statics := none }

/-- the primitive byte -/
def k7 : Class := { plain "byte" none with kind := .primitive 'B', accessFlags := 0x411 }
/-- [B -/
def k8 : Class := { plain "[B" (some 0) with kind := .array 7 .byte, interfaces := #[5, 6], accessFlags := 1041 }

/-- the primitive int -/
def k9 : Class := { plain "int" none with kind := .primitive 'I', accessFlags := 0x411 }
/-- [I -/
def k10 : Class := { plain "[I" (some 0) with kind := .array 9 .int, interfaces := #[5, 6], accessFlags := 1041 }

def heap : Heap := #[]
def classes : Array Class := #[k0, k1, k2, k3, k4, k5, k6, k7, k8, k9, k10]
def interned : List (Array UInt16 × Addr) := []
def slotsUsed : Nat := 0
def theMethod : MethodId := ⟨1, 1⟩
def args0 : Array Value := #[.long 5, .long 7, .int 3]
def aboutOver (below : List Frame) : State where
  vm := { classes := classes, interned := interned.toArray }
  heap := heap
  slotsUsed := slotsUsed
  threads := #[{ frames := .invoking theMethod args0 :: below }]
def below0 : List Frame := [.native { method := ⟨0, 0⟩, args := #[] }]
def about1 : State := aboutOver below0
def p0 : Program := .bare "" "" ""
def e0 : Env := launch0.env 0 0 0
theorem w_frames : about1.frames = Frame.invoking theMethod args0 :: below0 := rfl
set_option maxRecDepth 65536 in
theorem w_args : argsFit about1.vm theMethod args0 = true := by decide +kernel
set_option maxRecDepth 65536 in
theorem w_heap : heapFits about1 = true := by decide +kernel
set_option maxRecDepth 65536 in
theorem w_runnable : about1.curStatus? = some .runnable := by decide +kernel
set_option maxRecDepth 65536 in
theorem w_alone : about1.alone = true := by decide +kernel
set_option maxRecDepth 65536 in
theorem w_named : about1.methodNamed? x = some theMethod := by decide +kernel
set_option maxRecDepth 65536 in
theorem w_hears : about1.hears theMethod below0 = true := by decide +kernel
set_option maxRecDepth 65536 in
theorem w_ripe : about1.ripe theMethod args0 below0 = true := by decide +kernel
theorem w_running : about1.status = .running := rfl
set_option maxRecDepth 65536 in
theorem w_room : about1.hasRoom e0.platform room_1 = true :=
  launch0.hasRoom_least _ room_1 (by decide +kernel) (by decide +kernel) (by decide +kernel) (by decide +kernel) (by decide +kernel) (by decide +kernel)
theorem allAtoms_all (ts : List Jvm.Cond) (a : Array Jvm.Value) (st : Jvm.State) : (allAtoms ts).before a st = ts.all (fun c => c.before a st) := by
  induction ts with
  | nil => rfl
  | cons c t ih =>
    show (Jvm.Cond.and c (allAtoms t)).before a st = _
    rw [Jvm.Cond.before_and, ih, List.all_cons]
def words1 : List Jvm.Cond := Jvm.Cond.code x code maxLocals ret :: tables_1
/-- a 'code' word, met by the world's own term for the bytes: nothing is compared byte by byte -/
theorem code_word {y : MethodName} {bytes : ByteArray} {mx : Nat} {rt : Option FieldType} {a : Array Value} {s : State} {m : MethodId} {meth : Method} {c : Code} (h1 : s.methodNamed? y = some m) (h2 : s.vm.method? m = some meth) (h3 : meth.code = some c) (h4 : c.code = bytes)
    (h5 : (c.maxLocals == mx && c.exceptionTable.isEmpty && decide (c.maxStack ≤ mostOperands) && decide (meth.sig.returnType = rt) && !meth.locks && decide (parseMethodDescriptor y.desc = some meth.sig)) = true) : (Jvm.Cond.code y bytes mx rt).before a s = true := by
  simp only [Bool.and_eq_true, beq_iff_eq, Bool.not_eq_true', decide_eq_true_eq] at h5
  obtain ⟨⟨⟨⟨⟨g1, g2⟩, g3⟩, g4⟩, g5⟩, g6⟩ := h5
  simp [Cond.before, Cond.holds, Cond.value, h1, h2, h3, h4, g1, g2, g3, g4, g5, g6]
def isCode : Jvm.Cond → Bool
  | .code _ _ _ _ => true
  | _ => false
theorem all_split {L : List Jvm.Cond} {P : Jvm.Cond → Bool} (h1 : L.all (fun c => isCode c || P c) = true) (h2 : ∀ c ∈ L.filter isCode, P c = true) : L.all P = true := by
  refine List.all_eq_true.mpr fun c hc => ?_
  have h := List.all_eq_true.mp h1 c hc
  rcases Bool.eq_false_or_eq_true (isCode c) with hi | hi
  · exact h2 c (List.mem_filter.mpr ⟨hc, hi⟩)
  · simpa [hi] using h
set_option maxRecDepth 65536 in
theorem w_c0 : (Jvm.Cond.code x code maxLocals ret).before args0 about1 = true := code_word (m := ⟨1, 1⟩) (meth := k1m1) (c := k1c1) (by decide +kernel) rfl rfl rfl (by decide +kernel)
set_option maxRecDepth 65536 in
theorem w_c1 : (Jvm.Cond.code ({ cls := "com/example/viapost/viapost/core/PatternPartTimesPinLaw", name := "pick", desc := "(JI)J" } : Jvm.MethodName) method_3_code (3 : Nat) (Option.some Jvm.ClassFile.FieldType.long)).before args0 about1 = true := code_word (m := ⟨1, 2⟩) (meth := k1m2) (c := k1c2) (by decide +kernel) rfl rfl rfl (by decide +kernel)
set_option maxRecDepth 65536 in
theorem w_c2 : (Jvm.Cond.code ({ cls := "com/example/viapost/viapost/core/PatternPart", name := "times", desc := "(JJ)J" } : Jvm.MethodName) prog_50_method_17_code (6 : Nat) (Option.some Jvm.ClassFile.FieldType.long)).before args0 about1 = true := code_word (m := ⟨3, 0⟩) (meth := k3m0) (c := k3c0) (by decide +kernel) rfl rfl rfl (by decide +kernel)
set_option maxRecDepth 65536 in
theorem w_c3 : (Jvm.Cond.code ({ cls := "com/example/viapost/viapost/core/PatternPartTimesPinLaw", name := "reference", desc := "(JJ)J" } : Jvm.MethodName) method_4_code (18 : Nat) (Option.some Jvm.ClassFile.FieldType.long)).before args0 about1 = true := code_word (m := ⟨1, 3⟩) (meth := k1m3) (c := k1c3) (by decide +kernel) rfl rfl rfl (by decide +kernel)
set_option maxRecDepth 65536 in
theorem w_c4 : (Jvm.Cond.code ({ cls := "java/lang/Math", name := "min", desc := "(JJ)J" } : Jvm.MethodName) jdk_29_method_70_code (4 : Nat) (Option.some Jvm.ClassFile.FieldType.long)).before args0 about1 = true := code_word (m := ⟨4, 1⟩) (meth := k4m1) (c := k4c1) (by decide +kernel) rfl rfl rfl (by decide +kernel)
def codes1 : List Jvm.Cond := [Jvm.Cond.code x code maxLocals ret, Jvm.Cond.code ({ cls := "com/example/viapost/viapost/core/PatternPartTimesPinLaw", name := "pick", desc := "(JI)J" } : Jvm.MethodName) method_3_code (3 : Nat) (Option.some Jvm.ClassFile.FieldType.long), Jvm.Cond.code ({ cls := "com/example/viapost/viapost/core/PatternPart", name := "times", desc := "(JJ)J" } : Jvm.MethodName) prog_50_method_17_code (6 : Nat) (Option.some Jvm.ClassFile.FieldType.long), Jvm.Cond.code ({ cls := "com/example/viapost/viapost/core/PatternPartTimesPinLaw", name := "reference", desc := "(JJ)J" } : Jvm.MethodName) method_4_code (18 : Nat) (Option.some Jvm.ClassFile.FieldType.long), Jvm.Cond.code ({ cls := "java/lang/Math", name := "min", desc := "(JJ)J" } : Jvm.MethodName) jdk_29_method_70_code (4 : Nat) (Option.some Jvm.ClassFile.FieldType.long)]
set_option maxRecDepth 65536 in
theorem codes_eq : words1.filter isCode = codes1 := rfl
theorem w_codes : ∀ c ∈ words1.filter isCode, c.before args0 about1 = true := by
  rw [codes_eq]
  intro c hc
  simp only [codes1, List.mem_cons, List.not_mem_nil, or_false] at hc
  rcases hc with rfl | rfl | rfl | rfl | rfl
  · exact w_c0
  · exact w_c1
  · exact w_c2
  · exact w_c3
  · exact w_c4
set_option maxRecDepth 65536 in
theorem w_t1 : words1.all (fun c => isCode c || c.before args0 about1) = true := by decide +kernel
theorem w_tables : (allAtoms (Jvm.Cond.code x code maxLocals ret :: tables_1)).before args0 about1 = true := by
  rw [allAtoms_all]
  show words1.all (fun c => c.before args0 about1) = true
  refine all_split ?_ w_codes
  rw [w_t1]
set_option maxRecDepth 65536 in
theorem w_case : (Jvm.Cond.and given_1 narrow_1).before args0 about1 = true := by decide +kernel
theorem w_applies : (headSpec (Jvm.Cond.code x code maxLocals ret :: tables_1) room_1).applies x e0.platform about1 = true :=
  (Spec.applies_iff w_frames).mpr ⟨w_running, w_runnable, w_alone, w_named, w_hears, w_ripe, w_room, w_tables⟩
theorem atStart : AtStart classFile x code maxLocals ret World_1 tables_1 room_1 Calls_1 rest_1 Pre_1 launch0 p0 e0 about1 theMethod args0 below0 :=
  ⟨lists_1, trivial, launch0.admits_env _ _ _, launch0.least_env, fairChoices_fair.cas, fairChoices_fair.clock, w_frames, w_args, w_heap, w_applies, trivial, trivial, w_case⟩
end start1
theorem witness_1 : WitnessClaimed_1 := ⟨start1.p0, start1.e0, start1.about1, start1.theMethod, start1.args0, start1.below0, start1.atStart⟩
end Jvm.Pilot.@@N@@
