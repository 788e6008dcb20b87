import JvmDerived
import JvmDerived.Pilot.@@N@@Statement
import JvmDerived.Pilot.@@N@@Code
set_option linter.unusedVariables false
set_option linter.unusedSimpArgs false
namespace Jvm.Pilot.@@N@@
open Jvm Jvm.ClassFile Sem Op Lib Jvm.Free Jvm.Stand Jvm.LawKit Jvm.RoadKit Bundle Jvm.Pilot.@@N@@.Jvm.D
section OwnKit
variable {p : Program} {l : Launch} {e : Env} {R : Room} {s : State} {m : MethodId} {args : Array Value} {below : List Frame} {meth : Method} {c : Code} {T : State} {locs : List Loc} {cells slots : Nat} {Z : State} {a0 : Array Value} {h h' : Heap}
/-- the run from t on comes to the method's end, and there Fin holds -/
def own_Run (p : Program) (e : Env) (below : List Frame) (Fin : Outcome → State → Prop) (t : State) : Prop :=
  ∃ s₂ o, Steps p.tables e below t s₂ ∧ s₂.status = .running ∧ Ended s₂ below o ∧ Fin o s₂
variable {Fin : Outcome → State → Prop}
theorem own_go {t t' : State} (st : ∀ target, Steps p.tables e below t' target → Steps p.tables e below t target) (k : own_Run p e below Fin t') : own_Run p e below Fin t := by
  obtain ⟨s₂, o, h1, h2⟩ := k
  exact ⟨s₂, o, st _ h1, h2⟩
def own_End (s : State) (R : Room) (Q : Option Value → Heap → List Loc → Prop) (o : Outcome) (U : State) : Prop :=
  ∃ v L, o = .returned v ∧ Q v U.heap L ∧ FrameEnd s o U L R.cells R.slots
/-- a body's contract: called with these arguments over the heap h0 it returns, and Q says what is left -/
def own_Met (l : Launch) (Z : State) (y : MethodName) (bytes : ByteArray) (maxL : Nat) (ret : Option FieldType) (rm : Room) (as : Array Value) (h0 : Heap) (Q : Option Value → Heap → List Loc → Prop) : Prop :=
  ∀ ws : List Jvm.Cond, MetFree l y (head1 (Jvm.Cond.code y bytes maxL ret :: ws) rm) (fun a U => a = as ∧ Z.Warmed39 U.vm ∧ U.heap = h0) (fun _ _ _ _ _ => True) (fun _ U o U' => own_End U rm Q o U')
theorem own_enter {y : MethodName} {bytes : ByteArray} {maxL : Nat} {ret : Option FieldType} {rm : Room} {as : Array Value} {h0 : Heap} {Q : Option Value → Heap → List Loc → Prop} {g0 : MethodId → JFrame} (hpl : plainFor y = true) (hg0 : ∀ m, entryFrame m as maxL = g0 m)
    (body : ∀ (p : Program) (e : Env) (s : State) (m : MethodId) (below : List Frame) (meth : Method) (c : Code) (T : State), p.tables.exec = Jvm.exec → c.code = bytes → c.maxLocals = maxL → s.vm.findClass y.cls = some m.cls → meth.name = y.name → Z.Warmed39 s.vm → meth.sig.returnType = ret → meth.locks = false →
      Stand p l e rm s m as below meth c T [] 0 0 → T.heap = h0 → own_Run p e below (own_End s rm Q) (T.setTop (g0 m))) : own_Met l Z y bytes maxL ret rm as h0 Q := by
  intro ws
  refine MetFree.of_bodySF hpl hisR ?_
  intro p e s m args below meth c s₁ Bd hml0 hP hK
  obtain ⟨rfl, hZ, hh⟩ := hP
  rw [hg0]
  exact body p e s m below meth c s₁ Bd.exec Bd.bytes hml0 (findClass_of_methodNamed Bd.named) (name_of_methodNamed Bd.named Bd.method).1 hZ Bd.returns Bd.notSynchronized (Stand.of_body Bd) (by rw [← hh, Bd.state]; rfl)
theorem own_ret (X : Stand p l e R s m args below meth c T locs cells slots) {g : JFrame} {v : Option Value} {Q : Option Value → Heap → List Loc → Prop} (hv : meth.sig.returnType = none → v = none) (hlk : meth.locks = false) (hc : cells ≤ R.cells) (hs : slots ≤ R.slots)
    (st : ∀ fs, (∀ (f : JFrame) (acts : List Action), f.method = m → f.locked = none → f.entered = [] → (doReturn e (T.setTop f) acts v).1 = T.setFrames fs) → Steps p.tables e below (T.setTop g) (T.setFrames fs)) (hq : Q v T.heap locs) : own_Run p e below (own_End s R Q) (T.setTop g) := by
  obtain ⟨fs, hr, hrun, hended, hW, hsame⟩ := X.leave (v := v) hv hlk
  exact ⟨_, _, st fs hr, hrun, hended, _, _, rfl, hq, ⟨_, rfl⟩, hW, hsame.mono hc hs⟩
theorem own_retN (X : Stand p l e R s m args below meth c T locs cells slots) (hx : p.tables.exec = Jvm.exec) {t : FieldType} (hret : meth.sig.returnType = some t) (hlk : meth.locks = false) (ht : t = .boolean ∨ t = .byte ∨ t = .char ∨ t = .short) {pc : Nat} {Ls : Array Slot} {z : Int32} {rest : List Value} (hd : decode c.code pc = .ok (.ireturn, 1)) {Q : Option Value → Heap → List Loc → Prop} (hc : cells ≤ R.cells) (hs : slots ≤ R.slots)
    (hq : Q (some (.int (nar t z))) T.heap locs) : own_Run p e below (own_End s R Q) (T.setTop (mkF m pc Ls (.int z :: rest))) :=
  own_ret X (fun q => by rw [hret] at q; cases q) hlk hc hs (fun fs hr => retN X hx hret ht hd hr) hq
theorem own_retI (X : Stand p l e R s m args below meth c T locs cells slots) (hx : p.tables.exec = Jvm.exec) (hret : meth.sig.returnType = some .int) (hlk : meth.locks = false) {pc : Nat} {Ls : Array Slot} {z : Int32} {rest : List Value} (hd : decode c.code pc = .ok (.ireturn, 1)) {Q : Option Value → Heap → List Loc → Prop} (hc : cells ≤ R.cells) (hs : slots ≤ R.slots)
    (hq : Q (some (.int z)) T.heap locs) : own_Run p e below (own_End s R Q) (T.setTop (mkF m pc Ls (.int z :: rest))) :=
  own_ret X (fun q => by rw [hret] at q; cases q) hlk hc hs (fun fs hr => retOut X hx hret rfl (Or.inl ⟨rfl, Or.inl rfl, z, rfl⟩) hd hr) hq
theorem own_retJ (X : Stand p l e R s m args below meth c T locs cells slots) (hx : p.tables.exec = Jvm.exec) (hret : meth.sig.returnType = some .long) (hlk : meth.locks = false) {pc : Nat} {Ls : Array Slot} {z : Int64} {rest : List Value} (hd : decode c.code pc = .ok (.lreturn, 1)) {Q : Option Value → Heap → List Loc → Prop} (hc : cells ≤ R.cells) (hs : slots ≤ R.slots)
    (hq : Q (some (.long z)) T.heap locs) : own_Run p e below (own_End s R Q) (T.setTop (mkF m pc Ls (.long z :: rest))) :=
  own_ret X (fun q => by rw [hret] at q; cases q) hlk hc hs (fun fs hr => retOut X hx hret rfl (Or.inr (Or.inl ⟨rfl, rfl, z, rfl⟩)) hd hr) hq
theorem own_retA (X : Stand p l e R s m args below meth c T locs cells slots) (hx : p.tables.exec = Jvm.exec) {t : FieldType} (hret : meth.sig.returnType = some t) (hlk : meth.locks = false) (ht : t.isReference = true) {pc : Nat} {Ls : Array Slot} {w : Value} (hw : w.isRef = true) {rest : List Value} (hn : narrow t w = w) (hd : decode c.code pc = .ok (.areturn, 1)) {Q : Option Value → Heap → List Loc → Prop} (hc : cells ≤ R.cells) (hs : slots ≤ R.slots)
    (hq : Q (some w) T.heap locs) : own_Run p e below (own_End s R Q) (T.setTop (mkF m pc Ls (w :: rest))) :=
  own_ret X (fun q => by rw [hret] at q; cases q) hlk hc hs (fun fs hr => retOut X hx hret hn (Or.inr (Or.inr (Or.inr (Or.inr ⟨rfl, ht, hw⟩)))) hd hr) hq
theorem own_retV (X : Stand p l e R s m args below meth c T locs cells slots) (hx : p.tables.exec = Jvm.exec) (hret : meth.sig.returnType = none) (hlk : meth.locks = false) {pc : Nat} {Ls : Array Slot} (hd : decode c.code pc = .ok (.return_, 1)) {Q : Option Value → Heap → List Loc → Prop} (hc : cells ≤ R.cells) (hs : slots ≤ R.slots)
    (hq : Q none T.heap locs) : own_Run p e below (own_End s R Q) (T.setTop (mkF m pc Ls [])) :=
  own_ret X (fun _ => rfl) hlk hc hs (fun fs hr => X.returnOut hx hret hd hr) hq
/-! calls -/
theorem own_callS (X : Stand p l e R s m args below meth c T locs cells slots) (hx : p.tables.exec = Jvm.exec) (hZ : Z.Warmed39 s.vm) (eT : T.heap = h) {own : String} (hown : s.vm.findClass own = some m.cls) {index : Nat} (y : MethodName) {bytes : ByteArray} {maxL : Nat} {ret : Option FieldType} {rm : Room} {Q : Option Value → Heap → List Loc → Prop}
    (w1 : (Jvm.Cond.methodLink own index y).before a0 Z = true) (w2 : (Jvm.Cond.static y).before a0 Z = true) (w3 : (Jvm.Cond.initialized y.cls).before a0 Z = true) (w4 : (Jvm.Cond.code y bytes maxL ret).before a0 Z = true) (hy : y.cls ≠ "java/lang/invoke/MethodHandle" ∧ y.cls ≠ "java/lang/invoke/VarHandle")
    (argsL rest : List Value) (hM : own_Met l Z y bytes maxL ret rm argsL.toArray h Q) (hf : rm.frames + 1 ≤ R.frames) (W : Nat) (hl : W + (maxL + 11) + rm.locals ≤ R.locals) (hc : cells + rm.cells ≤ R.cells) (hs : slots + rm.slots ≤ R.slots)
    {g : JFrame} (hg : g.method = m) (hsize : g.locals.size = c.maxLocals) (hlen : ∀ sig, parseMethodDescriptor y.desc = some sig → argsL.length = sig.parameters.length) (hstack : g.stack = argsL.reverse ++ rest) (hW : 2 * g.monitorRoom + (rest.map fun v => v.category).sum ≤ W) (hd : decode c.code g.pc = .ok (.invokestatic index, 3))
    (k : ∀ (v : Option Value) (h' : Heap) (L : List Loc) (T' : State), Q v h' L → Stand p l e R s m args below meth c T' (locs ++ L) (cells + rm.cells) (slots + rm.slots) → T'.heap = h' → own_Run p e below Fin (T'.setTop { g with pc := g.pc + 3, stack := v.toList ++ rest })) : own_Run p e below Fin (T.setTop g) := by
  obtain ⟨v, _, ⟨T', L', k', n'⟩, -, X', ⟨Lc, hQ, l1, y1, z1⟩, st⟩ := Jvm.LawKit.callS X hx (y := y) hown (mvT hZ w1) (mvT hZ w2) (mvT hZ w3) (mvT hZ w4) hy (backOf (W := W) (hM []) hZ w4 w3 hf hl) hg hsize (argsL := argsL) (rest := rest) hlen hstack hW hd (fun _ _ => ⟨rfl, eT, hc, hs⟩)
  dsimp only [Pt.U, Pt.locs, Pt.cells, Pt.slots] at X' l1 y1 z1 st hQ
  subst l1 y1 z1
  exact own_go st (k v T'.heap Lc T' hQ X' rfl)
theorem own_callN (X : Stand p l e R s m args below meth c T locs cells slots) (hx : p.tables.exec = Jvm.exec) (hZ : Z.Warmed39 s.vm) (eT : T.heap = h) {own : String} (hown : s.vm.findClass own = some m.cls) {index : Nat} (y : MethodName) (hy1 : y.name = "<init>") {bytes : ByteArray} {maxL : Nat} {rm : Room} {Q : Option Value → Heap → List Loc → Prop}
    (w1 : (Jvm.Cond.methodLink own index y).before a0 Z = true) (w2 : (Jvm.Cond.instanceMethod y).before a0 Z = true) (w3 : (Jvm.Cond.initialized y.cls).before a0 Z = true) (w4 : (Jvm.Cond.code y bytes maxL none).before a0 Z = true) (hy : y.cls ≠ "java/lang/invoke/MethodHandle" ∧ y.cls ≠ "java/lang/invoke/VarHandle")
    (a : Addr) (argsL rest : List Value) (hM : own_Met l Z y bytes maxL none rm (.ref a :: argsL).toArray h Q) (hf : rm.frames + 1 ≤ R.frames) (W : Nat) (hl : W + (maxL + 11) + rm.locals ≤ R.locals) (hc : cells + rm.cells ≤ R.cells) (hs : slots + rm.slots ≤ R.slots)
    {g : JFrame} (hg : g.method = m) (hsize : g.locals.size = c.maxLocals) (hlen : ∀ sig, parseMethodDescriptor y.desc = some sig → argsL.length = sig.parameters.length) (hstack : g.stack = argsL.reverse ++ .ref a :: rest) (hW : 2 * g.monitorRoom + (rest.map fun v => v.category).sum ≤ W) (hd : decode c.code g.pc = .ok (.invokespecial index, 3))
    (k : ∀ (v : Option Value) (h' : Heap) (L : List Loc) (T' : State), Q v h' L → Stand p l e R s m args below meth c T' (locs ++ L) (cells + rm.cells) (slots + rm.slots) → T'.heap = h' → own_Run p e below Fin (T'.setTop { g with pc := g.pc + 3, stack := v.toList ++ rest })) : own_Run p e below Fin (T.setTop g) := by
  obtain ⟨v, _, ⟨T', L', k', n'⟩, -, X', ⟨Lc, hQ, l1, y1, z1⟩, st⟩ := X.specialBack hx (y := y) hy1 hown (mvT hZ w1) (mvT hZ w2) (mvT hZ w4) hy (backOf (W := W) (hM []) hZ w4 w3 hf hl) hg hsize (Steps.refl _) (a := a) (argsL := argsL) (rest := rest) hlen hstack hW hd (fun _ _ => ⟨rfl, eT, hc, hs⟩)
  dsimp only [Pt.U, Pt.locs, Pt.cells, Pt.slots] at X' l1 y1 z1 st hQ
  subst l1 y1 z1
  exact own_go (fun _ q => st.trans q) (k v T'.heap Lc T' hQ X' rfl)
theorem own_callV (X : Stand p l e R s m args below meth c T locs cells slots) (hx : p.tables.exec = Jvm.exec) (hZ : Z.Warmed39 s.vm) (eT : T.heap = h) {own : String} (hown : s.vm.findClass own = some m.cls) {index : Nat} (y : MethodName) {C : String} {bytes : ByteArray} {maxL : Nat} {ret : Option FieldType} {rm : Room} {Q : Option Value → Heap → List Loc → Prop}
    (w1 : (Jvm.Cond.methodLink own index y).before a0 Z = true) (w5 : (Jvm.Cond.declares y).before a0 Z = true) (w6 : (Jvm.Cond.selects C y y).before a0 Z = true) (w2 : (Jvm.Cond.instanceMethod y).before a0 Z = true) (w3 : (Jvm.Cond.initialized y.cls).before a0 Z = true) (w4 : (Jvm.Cond.code y bytes maxL ret).before a0 Z = true) (hy : y.cls ≠ "java/lang/invoke/MethodHandle" ∧ y.cls ≠ "java/lang/invoke/VarHandle")
    (a : Addr) (E : Exa Z h a C) (argsL rest : List Value) (hM : own_Met l Z y bytes maxL ret rm (.ref a :: argsL).toArray h Q) (hf : rm.frames + 1 ≤ R.frames) (W : Nat) (hl : W + (maxL + 11) + rm.locals ≤ R.locals) (hc : cells + rm.cells ≤ R.cells) (hs : slots + rm.slots ≤ R.slots)
    {g : JFrame} (hg : g.method = m) (hsize : g.locals.size = c.maxLocals) (hlen : ∀ sig, parseMethodDescriptor y.desc = some sig → argsL.length = sig.parameters.length) (hstack : g.stack = argsL.reverse ++ .ref a :: rest) (hW : 2 * g.monitorRoom + (rest.map fun v => v.category).sum ≤ W) (hd : decode c.code g.pc = .ok (.invokevirtual index, 3))
    (k : ∀ (v : Option Value) (h' : Heap) (L : List Loc) (T' : State), Q v h' L → Stand p l e R s m args below meth c T' (locs ++ L) (cells + rm.cells) (slots + rm.slots) → T'.heap = h' → own_Run p e below Fin (T'.setTop { g with pc := g.pc + 3, stack := v.toList ++ rest })) : own_Run p e below Fin (T.setTop g) := by
  obtain ⟨cq, kq, qa, qb, qc⟩ := isOf hZ eT E
  obtain ⟨v, _, ⟨T', L', k', n'⟩, -, X', ⟨Lc, hQ, l1, y1, z1⟩, st⟩ := X.virtualBack hx (y := y) (z := y) hown (mvT hZ w1) (mvT hZ w5) (notFace_of_selects (args := #[]) (mvT hZ w6)) (mvT hZ w6) (mvT hZ w2) hy (backOf (W := W) (hM []) hZ w4 w3 hf hl) qa qc hg hsize (Steps.refl _) (argsL := argsL) (rest := rest) hlen hstack hW hd (fun _ _ => ⟨rfl, eT, hc, hs⟩)
  dsimp only [Pt.U, Pt.locs, Pt.cells, Pt.slots] at X' l1 y1 z1 st hQ
  subst l1 y1 z1
  exact own_go (fun _ q => st.trans q) (k v T'.heap Lc T' hQ X' rfl)
/-! fields -/
theorem own_getF (X : Stand p l e R s m args below meth c T locs cells slots) (hx : p.tables.exec = Jvm.exec) (hZ : Z.Warmed39 s.vm) (eT : T.heap = h) {own O n d : String} (hown : s.vm.findClass own = some m.cls) {index : Nat} (w : (Jvm.Cond.fieldLink own index O n d).before a0 Z = true)
    {a : Addr} {v : Value} (F : Fld Z h a O n d v) {g : JFrame} (hg : g.method = m) {rest : List Value} (hs : g.stack = .ref a :: rest) (hd : decode c.code g.pc = .ok (.getfield index, 3))
    (k : ∀ T' : State, Stand p l e R s m args below meth c T' locs cells slots → T'.heap = h → own_Run p e below Fin (T'.setTop { g with pc := g.pc + 3, stack := v :: rest })) : own_Run p e below Fin (T.setTop g) := by
  obtain ⟨T', X', e', st⟩ := getF X hx hZ hown (host := "") (Or.inl w) Via.refl eT F hg hs hd
  exact own_go st (k T' X' e')
theorem own_putF (X : Stand p l e R s m args below meth c T locs cells slots) (hx : p.tables.exec = Jvm.exec) (hZ : Z.Warmed39 s.vm) (eT : T.heap = h) {own O n d C : String} (hown : s.vm.findClass own = some m.cls) {index kk : Nat} (ty : FieldType) (w : (Jvm.Cond.fieldLink own index O n d).before a0 Z = true)
    {a : Addr} {v v' old : Value} (F : Fld Z h a O n d old) (E : Exa Z h a C) (L : (Jvm.Cond.lays C O n d).before a0 Z = true ∨ ((Jvm.Cond.laysFinal C O n d).before a0 Z = true ∧ own = O ∧ meth.name = "<init>")) (wi : (Jvm.Cond.instantiable C kk).before a0 Z = true)
    (hty : parseFieldDescriptor d = some ty) (hn : narrow ty v = v') (hf : fits ty v' = true) {g : JFrame} (hg : g.method = m) {rest : List Value} (hs : g.stack = v :: .ref a :: rest) (hd : decode c.code g.pc = .ok (.putfield index, 3))
    (k : ∀ (T' : State) (h' : Heap), Stand p l e R s m args below meth c T' (locs ++ [⟨a, Jvm.RoadKit.slotOf Z O n d⟩]) cells slots → T'.heap = h' → Wr h h' a (Jvm.RoadKit.slotOf Z O n d) v' → own_Run p e below Fin (T'.setTop { g with pc := g.pc + 3, stack := rest })) : own_Run p e below Fin (T.setTop g) := by
  obtain ⟨T', h', X', e', W, st⟩ := putFN X hx hZ hown w Via.refl eT F E L wi hty hn hf hg hs hd
  exact own_go st (k T' h' X' e' W)
/-! fresh objects -/
theorem own_newO (X : Stand p l e R s m args below meth c T locs cells slots) (hx : p.tables.exec = Jvm.exec) (hZ : Z.Warmed39 s.vm) (eT : T.heap = h) {own C : String} {index n : Nat} (hown : s.vm.findClass own = some m.cls) (w : (Jvm.Cond.classLink own index C).before a0 Z = true) (wi : (Jvm.Cond.instantiable C n).before a0 Z = true) (wz : (Jvm.Cond.initialized C).before a0 Z = true)
    {g : JFrame} (hg : g.method = m) (hd : decode c.code g.pc = .ok (.new index, 3)) (hc : cells + 1 ≤ R.cells) (hl : slots + n ≤ R.slots)
    (k : ∀ (b : Addr) (T' : State) (h' : Heap), b = h.size → Stand p l e R s m args below meth c T' locs (cells + 1) (slots + n) → T'.heap = h' → Ext h h' → Exa Z h' b C → (∀ {O nm d : String} {ty : FieldType}, Laid Z a0 C O nm d → parseFieldDescriptor d = some ty → Fld Z h' b O nm d (defaultValue ty)) →
      own_Run p e below Fin (T'.setTop { g with pc := g.pc + 3, stack := .ref b :: g.stack })) : own_Run p e below Fin (T.setTop g) := by
  obtain ⟨T', h', X', e', E, A, D, -, st⟩ := newO X hx hZ hown w wi wz eT hg hd hc hl
  exact own_go st (k h.size T' h' rfl X' e' E A D)
/-! arrays: n places, place k holds f k -/
def own_Arr (Z : State) (h : Heap) (a : Addr) (ty : FieldType) (n : Nat) (f : Nat → Value) : Prop := ∃ cl : Cell, Arr Z h a cl ty ∧ cl.slots.size = n ∧ ∀ k, k < n → cl.slots[k]? = some (f k)
theorem own_Arr.lt {a : Addr} {ty : FieldType} {n : Nat} {f : Nat → Value} (F : own_Arr Z h a ty n f) : a < h.size := by obtain ⟨c, A, -⟩ := F; exact A.lt
theorem own_Arr.ext {a : Addr} {ty : FieldType} {n : Nat} {f : Nat → Value} (F : own_Arr Z h a ty n f) (E : Ext h h') : own_Arr Z h' a ty n f := by obtain ⟨c, A, r⟩ := F; exact ⟨c, A.ext E, r⟩
theorem own_Arr.other {a b : Addr} {sl : Nat} {v : Value} {ty : FieldType} {n : Nat} {f : Nat → Value} (F : own_Arr Z h b ty n f) (W : Wr h h' a sl v) (q : b ≠ a) : own_Arr Z h' b ty n f := by obtain ⟨c, A, r⟩ := F; exact ⟨c, A.other W q, r⟩
theorem own_Arr.keep {a : Addr} {ws : List Addr} {ty : FieldType} {n : Nat} {f : Nat → Value} (F : own_Arr Z h a ty n f) (K : Keep h h' ws) (q : a ∉ ws) : own_Arr Z h' a ty n f := by obtain ⟨c, A, r⟩ := F; exact ⟨c, ⟨K.2.1 a c A.1 q, A.2⟩, r⟩
theorem own_Arr.set {a : Addr} {j : Nat} {v : Value} {ty : FieldType} {n : Nat} {f : Nat → Value} (F : own_Arr Z h a ty n f) (W : Wr h h' a j v) (hj : j < n) : own_Arr Z h' a ty n (fun k => if k = j then v else f k) := by
  obtain ⟨cl, A, r1, r2⟩ := F
  refine ⟨_, A.same W, by rw [sz_set]; exact r1, fun k hk => ?_⟩
  by_cases q : k = j
  · subst q; simp [Cell.setSlot, r1, hj]
  · show (cl.setSlot j v).slots[k]? = some (if k = j then v else f k)
    rw [if_neg q]; exact (Array.getElem?_setIfInBounds_ne (Ne.symm q)).trans (r2 k hk)
theorem own_Arr.congr {a : Addr} {ty : FieldType} {n : Nat} {f f' : Nat → Value} (F : own_Arr Z h a ty n f) (q : ∀ k, k < n → f k = f' k) : own_Arr Z h a ty n f' := by
  obtain ⟨cl, A, r1, r2⟩ := F
  exact ⟨cl, A, r1, fun k hk => by rw [← q k hk]; exact r2 k hk⟩
theorem own_in {cl : Cell} {n : Nat} {j : Int32} (r : cl.slots.size = n) (hj : 0 ≤ j.toInt ∧ j.toInt < n) : ¬ (j < 0 ∨ cl.slots.size ≤ j.toNatClampNeg) := by
  have e0 : (0 : Int32).toInt = 0 := rfl
  simp only [Int32.lt_iff_toInt_lt, Int32.toNatClampNeg, r, e0]; omega
theorem own_idx {n : Nat} {j : Int32} (hj : 0 ≤ j.toInt ∧ j.toInt < n) : j.toNatClampNeg < n := by
  simp only [Int32.toNatClampNeg]; omega
theorem own_newP (X : Stand p l e R s m args below meth c T locs cells slots) (hx : p.tables.exec = Jvm.exec) (hZ : Z.Warmed39 s.vm) (eT : T.heap = h) {aty : ArrayType} (w : (Jvm.Cond.arrayClass (newarray.typeOf aty)).before a0 Z = true) {g : JFrame} (hg : g.method = m) (hd : decode c.code g.pc = .ok (.newarray aty, 2)) {z : Int32} {rest : List Value} (hs : g.stack = .int z :: rest)
    (n cap : Nat) (hn : z.toInt = n) (hcap : n ≤ cap) (hb : cap * 8 ≤ 536870912) (hc : cells + 1 ≤ R.cells) (hl : slots + cap ≤ R.slots) (ad : String) (had : "[" ++ (newarray.typeOf aty).toString = ad)
    (k : ∀ (b : Addr) (T' : State) (h' : Heap), b = h.size → Stand p l e R s m args below meth c T' locs (cells + 1) (slots + cap) → T'.heap = h' → Ext h h' → own_Arr Z h' b (newarray.typeOf aty) n (fun _ => defaultValue (newarray.typeOf aty)) → Exa Z h' b ad →
      own_Run p e below Fin (T'.setTop { g with pc := g.pc + 2, stack := .ref b :: rest })) : own_Run p e below Fin (T.setTop g) := by
  have hz : z.toNatClampNeg = n := by simp only [Int32.toNatClampNeg]; omega
  have e0 : (0 : Int32).toInt = 0 := rfl
  have hz0 : ¬ z < 0 := by rw [Int32.lt_iff_toInt_lt, e0]; omega
  obtain ⟨T', h', cA, X', e', E, A, Ex, st⟩ := newPE X hx hZ w eT hg hd hs (n := z) hz0 (cap := cap) (by omega) hb hc hl had
  exact own_go st (k h.size T' h' rfl X' e' E ⟨_, A, by rw [sz_new]; exact hz, fun i hi => by simp [newA, hz, hi]⟩ Ex)
theorem own_iastore (X : Stand p l e R s m args below meth c T locs cells slots) (hx : p.tables.exec = Jvm.exec) (hZ : Z.Warmed39 s.vm) (eT : T.heap = h) {a : Addr} {n : Nat} {f : Nat → Value} (A : own_Arr Z h a .int n f) {j x : Int32} (hj : 0 ≤ j.toInt ∧ j.toInt < n) {g : JFrame} (hg : g.method = m) {rest : List Value} (hs : g.stack = .int x :: .int j :: .ref a :: rest) (hd : decode c.code g.pc = .ok (.iastore, 1))
    (k : ∀ (T' : State) (h' : Heap), Stand p l e R s m args below meth c T' (locs ++ [⟨a, j.toNatClampNeg⟩]) cells slots → T'.heap = h' → Wr h h' a j.toNatClampNeg (.int x) → own_Arr Z h' a .int n (fun i => if i = j.toNatClampNeg then .int x else f i) → own_Run p e below Fin (T'.setTop { g with pc := g.pc + 1, stack := rest })) : own_Run p e below Fin (T.setTop g) := by
  obtain ⟨cl, A1, r1, r2⟩ := A
  obtain ⟨T', h', X', e', W, st⟩ := stI X hx hZ eT A1 (own_in r1 hj) hg hs hd
  exact own_go st (k T' h' X' e' W (own_Arr.set ⟨cl, A1, r1, r2⟩ W (own_idx hj)))
theorem own_bastore (X : Stand p l e R s m args below meth c T locs cells slots) (hx : p.tables.exec = Jvm.exec) (hZ : Z.Warmed39 s.vm) (eT : T.heap = h) {a : Addr} {n : Nat} {f : Nat → Value} (A : own_Arr Z h a .byte n f) {j x : Int32} (hj : 0 ≤ j.toInt ∧ j.toInt < n) {g : JFrame} (hg : g.method = m) {rest : List Value} (hs : g.stack = .int x :: .int j :: .ref a :: rest) (hd : decode c.code g.pc = .ok (.bastore, 1))
    (k : ∀ (T' : State) (h' : Heap), Stand p l e R s m args below meth c T' (locs ++ [⟨a, j.toNatClampNeg⟩]) cells slots → T'.heap = h' → Wr h h' a j.toNatClampNeg (.int (nar .byte x)) → own_Arr Z h' a .byte n (fun i => if i = j.toNatClampNeg then .int (nar .byte x) else f i) → own_Run p e below Fin (T'.setTop { g with pc := g.pc + 1, stack := rest })) : own_Run p e below Fin (T.setTop g) := by
  obtain ⟨cl, A1, r1, r2⟩ := A
  obtain ⟨T', h', X', e', W, st⟩ := stB X hx hZ eT A1 (own_in r1 hj) hg hs hd
  exact own_go st (k T' h' X' e' W (own_Arr.set ⟨cl, A1, r1, r2⟩ W (own_idx hj)))
theorem own_iaload (X : Stand p l e R s m args below meth c T locs cells slots) (hx : p.tables.exec = Jvm.exec) (hZ : Z.Warmed39 s.vm) (eT : T.heap = h) {a : Addr} {n : Nat} {f : Nat → Value} (A : own_Arr Z h a .int n f) {j : Int32} (v : Int32) (hj : 0 ≤ j.toInt ∧ j.toInt < n) (hv : f j.toNatClampNeg = .int v) {g : JFrame} (hg : g.method = m) {rest : List Value} (hs : g.stack = .int j :: .ref a :: rest) (hd : decode c.code g.pc = .ok (.iaload, 1))
    (k : own_Run p e below Fin (T.setTop { g with pc := g.pc + 1, stack := .int v :: rest })) : own_Run p e below Fin (T.setTop g) := by
  obtain ⟨cl, A1, r1, r2⟩ := A
  exact own_go (X.iaload hx (by rw [eT]; exact A1.1) (State.isArrayOf_alike hZ.alike A1.2.1) A1.2.2 (own_in r1 hj) ((r2 _ (own_idx hj)).trans (by rw [hv])) hg hs hd) k
theorem own_baload (X : Stand p l e R s m args below meth c T locs cells slots) (hx : p.tables.exec = Jvm.exec) (hZ : Z.Warmed39 s.vm) (eT : T.heap = h) {a : Addr} {n : Nat} {f : Nat → Value} (A : own_Arr Z h a .byte n f) {j : Int32} (v : Int32) (hj : 0 ≤ j.toInt ∧ j.toInt < n) (hv : f j.toNatClampNeg = .int v) {g : JFrame} (hg : g.method = m) {rest : List Value} (hs : g.stack = .int j :: .ref a :: rest) (hd : decode c.code g.pc = .ok (.baload, 1))
    (k : own_Run p e below Fin (T.setTop { g with pc := g.pc + 1, stack := .int v :: rest })) : own_Run p e below Fin (T.setTop g) := by
  obtain ⟨cl, A1, r1, r2⟩ := A
  exact own_go (X.baloadBytes hx (by rw [eT]; exact A1.1) (State.isArrayOf_alike hZ.alike A1.2.1) A1.2.2 (own_in r1 hj) ((r2 _ (own_idx hj)).trans (by rw [hv])) hg hs hd) k
theorem own_alen (X : Stand p l e R s m args below meth c T locs cells slots) (hx : p.tables.exec = Jvm.exec) (hZ : Z.Warmed39 s.vm) (eT : T.heap = h) {a : Addr} {ty : FieldType} {n : Nat} {f : Nat → Value} (A : own_Arr Z h a ty n f) (z : Int32) (hz : z.toInt = n) {g : JFrame} (hg : g.method = m) {rest : List Value} (hs : g.stack = .ref a :: rest) (hd : decode c.code g.pc = .ok (.arraylength, 1))
    (k : own_Run p e below Fin (T.setTop { g with pc := g.pc + 1, stack := .int z :: rest })) : own_Run p e below Fin (T.setTop g) := by
  obtain ⟨cl, A1, r1, r2⟩ := A
  have e0 : (0 : Int32).toInt = 0 := rfl
  have hz0 : ¬ z < 0 := by rw [Int32.lt_iff_toInt_lt, e0]; omega
  have q : cl.slots.size.toInt32 = z := len_of (by rw [r1]; simp only [Int32.toNatClampNeg]; omega) hz0
  exact own_go (X.arraylength hx (by rw [eT]; exact A1.1) (State.isArrayOf_alike hZ.alike A1.2.1) hg hs hd) (by rw [q]; exact k)
theorem own_clone (X : Stand p l e R s m args below meth c T locs cells slots) (hx : p.tables.exec = Jvm.exec) (hZ : Z.Warmed39 s.vm) (eT : T.heap = h) {own ad : String} {index : Nat} (hown : s.vm.findClass own = some m.cls)
    (w1 : (Jvm.Cond.methodLink own index ⟨ad, "clone", "()Ljava/lang/Object;"⟩).before a0 Z = true) (w2 : (Jvm.Cond.sameMethod ad "java/lang/Object" "clone" "()Ljava/lang/Object;").before a0 Z = true) (w3 : (Jvm.Cond.native ⟨"java/lang/Object", "clone", "()Ljava/lang/Object;"⟩).before a0 Z = true)
    (w4 : (Jvm.Cond.instanceMethod ⟨"java/lang/Object", "clone", "()Ljava/lang/Object;"⟩).before a0 Z = true) (w5 : (Jvm.Cond.selects ad ⟨ad, "clone", "()Ljava/lang/Object;"⟩ ⟨"java/lang/Object", "clone", "()Ljava/lang/Object;"⟩).before a0 Z = true) (w6 : (Jvm.Cond.castable ad "java/lang/Cloneable").before a0 Z = true)
    {a : Addr} {ty : FieldType} {n : Nat} {f : Nat → Value} (A : own_Arr Z h a ty n f) (E : Exa Z h a ad) (hfit : ∀ i, i < n → fits ty (f i) = true) {g : JFrame} (hg : g.method = m) (hsize : g.locals.size = c.maxLocals) {rest : List Value} (hs : g.stack = .ref a :: rest) (hd : decode c.code g.pc = .ok (.invokevirtual index, 3))
    (hf : 1 ≤ R.frames) (W cap : Nat) (hW : 2 * g.monitorRoom + (rest.map fun v => v.category).sum ≤ W) (hl : W + 14 ≤ R.locals) (hcap : n ≤ cap) (hc : cells + 1 ≤ R.cells) (hsl : slots + cap ≤ R.slots)
    (k : ∀ (b : Addr) (T' : State) (h' : Heap), b = h.size → Stand p l e R s m args below meth c T' locs (cells + 1) (slots + cap) → T'.heap = h' → Ext h h' → own_Arr Z h' b ty n f → Exa Z h' b ad → own_Run p e below Fin (T'.setTop { g with pc := g.pc + 3, stack := .ref b :: rest })) : own_Run p e below Fin (T.setTop g) := by
  obtain ⟨cl, A1, r1, r2⟩ := A
  have FC : FitC Z cl := fitC_of A1 fun i hi v hv => by
    rw [r2 i (by omega)] at hv; cases hv; exact hfit i (by omega)
  obtain ⟨T', h', X', e', ex, A', E', st⟩ := cloneA X hx hZ hown w1 w2 w3 w4 w5 w6 eT A1 E FC hg hsize hs hd hf hW hl (by omega) hc hsl
  exact own_go st (k h.size T' h' rfl X' e' ex ⟨cloneOf cl, A', r1, r2⟩ E')
theorem own_cast (X : Stand p l e R s m args below meth c T locs cells slots) (hx : p.tables.exec = Jvm.exec) (hZ : Z.Warmed39 s.vm) (eT : T.heap = h) {own K C : String} {index : Nat} (hown : s.vm.findClass own = some m.cls) (w : (Jvm.Cond.classLink own index K).before a0 Z = true) {a : Addr} (E : Exa Z h a C) (w2 : (Jvm.Cond.castable C K).before a0 Z = true)
    {g : JFrame} (hg : g.method = m) {rest : List Value} (hs : g.stack = .ref a :: rest) (hd : decode c.code g.pc = .ok (.checkcast index, 3))
    (k : ∀ T' : State, Stand p l e R s m args below meth c T' locs cells slots → T'.heap = h → own_Run p e below Fin (T'.setTop { g with pc := g.pc + 3 })) : own_Run p e below Fin (T.setTop g) := by
  obtain ⟨T', X', e', st⟩ := castY X hx hZ hown w eT (Ins.of_exa E w2) hg hs hd
  exact own_go st (k T' X' e')
/-! constants -/
theorem own_ldc (X : Stand p l e R s m args below meth c T locs cells slots) (hx : p.tables.exec = Jvm.exec) (hZ : Z.Warmed39 s.vm) {own : String} {index : Nat} {v : Int32} (hown : s.vm.findClass own = some m.cls) (w : (Jvm.Cond.constant own index v).before a0 Z = true) {g : JFrame} (hg : g.method = m) (hd : decode c.code g.pc = .ok (.ldc index, 2))
    (k : own_Run p e below Fin (T.setTop { g with pc := g.pc + 2, stack := .int v :: g.stack })) : own_Run p e below Fin (T.setTop g) := own_go (X.ldcInt hx hown (mvT hZ w) hg hd) k
theorem own_ldc2 (X : Stand p l e R s m args below meth c T locs cells slots) (hx : p.tables.exec = Jvm.exec) (hZ : Z.Warmed39 s.vm) {own : String} {index : Nat} {v : Int64} (hown : s.vm.findClass own = some m.cls) (w : (Jvm.Cond.constantLong own index v).before a0 Z = true) {g : JFrame} (hg : g.method = m) (hd : decode c.code g.pc = .ok (.ldc2_w index, 3))
    (k : own_Run p e below Fin (T.setTop { g with pc := g.pc + 3, stack := .long v :: g.stack })) : own_Run p e below Fin (T.setTop g) := own_go (X.ldc2Long hx hown (mvT hZ w) hg hd) k
theorem own_inj {x y : Int32} (q : x.toInt = y.toInt) : x = y := Int32.toInt_inj.mp q
theorem own_injL {x y : Int64} (q : x.toInt = y.toInt) : x = y := Int64.toInt_inj.mp q
end OwnKit
def own_cs (n : Int64) (sh : Int32) (mk : Int64) : Int64 := if (n &&& mk) = (0 : Int64) then ((n.toUInt64 >>> (sh &&& 0x3f).toInt64.toUInt64).toInt64) else ((n.toUInt64 >>> (sh &&& 0x3f).toInt64.toUInt64).toInt64) + 1
def own_mx (u : Int32) : Int64 := (((u.toInt64 + ((u.toInt64 + 7) / 8)) + ((u.toInt64 + 63) / 64)) + 5) + 4
theorem own_csv (n : Int64) (h0 : 0 ≤ n.toInt) (h1 : n.toInt < 2147483648) : (own_cs n 3 7).toInt = (n.toInt + 7) / 8 ∧ (own_cs n 6 63).toInt = (n.toInt + 63) / 64 := by
  have e1 : (n &&& 7).toInt = n.toInt % (2 ^ 3 : Nat) := c_maskL n 7 3 (by decide) (by decide)
  have e2 : (n &&& 63).toInt = n.toInt % (2 ^ 6 : Nat) := c_maskL n 63 6 (by decide) (by decide)
  have s1 := c_lushr n 3 3 (by decide) (by decide)
  have s2 := c_lushr n 6 6 (by decide) (by decide)
  have t1 := c_ladd ((n.toUInt64 >>> ((3 : Int32) &&& 0x3f).toInt64.toUInt64).toInt64) 1
  have t2 := c_ladd ((n.toUInt64 >>> ((6 : Int32) &&& 0x3f).toInt64.toUInt64).toInt64) 1
  have r1 := rng64 (((n.toUInt64 >>> ((3 : Int32) &&& 0x3f).toInt64.toUInt64).toInt64) + 1)
  have r2 := rng64 (((n.toUInt64 >>> ((6 : Int32) &&& 0x3f).toInt64.toUInt64).toInt64) + 1)
  have z1 : (1 : Int64).toInt = 1 := rfl
  have z0 : (0 : Int64).toInt = 0 := rfl
  unfold own_cs
  constructor
  · by_cases q : (n &&& 7) = 0
    · rw [if_pos q, s1]
      rw [q, z0] at e1; omega
    · rw [if_neg q]
      have q' : (n &&& 7).toInt ≠ 0 := fun w => q (Int64.toInt_inj.mp (w.trans z0.symm))
      omega
  · by_cases q : (n &&& 63) = 0
    · rw [if_pos q, s2]
      rw [q, z0] at e2; omega
    · rw [if_neg q]
      have q' : (n &&& 63).toInt ≠ 0 := fun w => q (Int64.toInt_inj.mp (w.trans z0.symm))
      omega
theorem own_eq (u : Int32) (h : 0 ≤ u.toInt) : own_mx u = (((u.toInt64 + own_cs u.toInt64 3 7) + own_cs u.toInt64 6 63) + 5) + 4 := by
  have hr := (rng32 u).2
  have e := c_i2l u
  obtain ⟨c1, c2⟩ := own_csv u.toInt64 (by omega) (by omega)
  have z7 : (7 : Int64).toInt = 7 := rfl
  have z63 : (63 : Int64).toInt = 63 := rfl
  have a1 := c_ladd u.toInt64 7
  have b1 := rng64 (u.toInt64 + 7)
  have a2 := c_ladd u.toInt64 63
  have b2 := rng64 (u.toInt64 + 63)
  have d1 := (c_ldiv (u.toInt64 + 7) 8 8 rfl (by decide)).1 (by omega)
  have d2 := (c_ldiv (u.toInt64 + 63) 64 64 rfl (by decide)).1 (by omega)
  have f1 : (u.toInt64 + 7) / 8 = own_cs u.toInt64 3 7 := own_injL (by omega)
  have f2 : (u.toInt64 + 63) / 64 = own_cs u.toInt64 6 63 := own_injL (by omega)
  unfold own_mx
  rw [f1, f2]
theorem d0_0 : decode method_2_code 0 = .ok (.lload_n 0, 1) := by decide +kernel
theorem d0_1 : decode method_2_code 1 = .ok (.iload_n 2, 1) := by decide +kernel
theorem d0_2 : decode method_2_code 2 = .ok (.lushr, 1) := by decide +kernel
theorem d0_3 : decode method_2_code 3 = .ok (.lstore 5, 2) := by decide +kernel
theorem d0_5 : decode method_2_code 5 = .ok (.lload_n 0, 1) := by decide +kernel
theorem d0_6 : decode method_2_code 6 = .ok (.lload_n 3, 1) := by decide +kernel
theorem d0_7 : decode method_2_code 7 = .ok (.land, 1) := by decide +kernel
theorem d0_8 : decode method_2_code 8 = .ok (.lconst 0, 1) := by decide +kernel
theorem d0_9 : decode method_2_code 9 = .ok (.lcmp, 1) := by decide +kernel
theorem d0_10 : decode method_2_code 10 = .ok (.ifCond .eq 9, 3) := by decide +kernel
theorem d0_13 : decode method_2_code 13 = .ok (.lload 5, 2) := by decide +kernel
theorem d0_15 : decode method_2_code 15 = .ok (.lconst 1, 1) := by decide +kernel
theorem d0_16 : decode method_2_code 16 = .ok (.ladd, 1) := by decide +kernel
theorem d0_17 : decode method_2_code 17 = .ok (.lstore 5, 2) := by decide +kernel
theorem d0_19 : decode method_2_code 19 = .ok (.lload 5, 2) := by decide +kernel
theorem d0_21 : decode method_2_code 21 = .ok (.lreturn, 1) := by decide +kernel
abbrev Q_cs (Z : State) (n : Int64) (sh : Int32) (mk : Int64) (h0 : Heap) : Option Value → Heap → List Loc → Prop := fun v h L => v = some (.long (own_cs n sh mk)) ∧ h0 = h ∧ L = []
set_option maxRecDepth 65536 in
set_option maxHeartbeats 40000000 in
theorem rm_cs (l : Launch) (Z : State) (a0 : Array Value) (hw : ∀ d ∈ tables_1, d.before a0 Z = true) (n : Int64) (sh : Int32) (mk : Int64) (h0 : Heap)  :
    own_Met l Z (⟨"com/example/quillwire/quillwire/codec/DeflateMaxStoredSizePinLaw", "ceilShift", "(JIJ)J"⟩ : MethodName) method_2_code 7 (some .long) ({ frames := 0, cells := 0, slots := 0, locals := 0 } : Room) #[(.long n), (.int sh), (.long mk)] h0 (Q_cs Z n sh mk h0) := by
  refine own_enter (g0 := fun m => (mkF m 0 #[.val (.long n), .second, .val (.int sh), .val (.long mk), .second, .unset, .unset] [])) (plainFor_of_name (by first | (simp [plainName, overriddenIn]; done) | decide +kernel)) (fun m => by first | (simp [entryFrame, mkF, argsToLocals, Value.category]; done) | rfl) ?_
  intro p e s m below meth c T hx hby hml hown hnm hZ hret hlk X e0
  replace hown : s.vm.findClass "com/example/quillwire/quillwire/codec/DeflateMaxStoredSizePinLaw" = some m.cls := hown
  show own_Run p e below _ (T.setTop (mkF m 0 #[.val (.long n), .second, .val (.int sh), .val (.long mk), .second, .unset, .unset] []))
  refine own_go (fun _ kS => XS.lloadN X.here hx rfl (hb hby d0_0) rfl kS) ?_
  show own_Run p e below _ (T.setTop (mkF m 1 #[.val (.long n), .second, .val (.int sh), .val (.long mk), .second, .unset, .unset] [(.long n)]))
  refine own_go (fun _ kS => XS.iloadN X.here hx rfl (hb hby d0_1) rfl kS) ?_
  show own_Run p e below _ (T.setTop (mkF m 2 #[.val (.long n), .second, .val (.int sh), .val (.long mk), .second, .unset, .unset] [(.int sh), (.long n)]))
  refine own_go (fun _ kS => XS.lushr X.here hx rfl (hb hby d0_2) rfl kS) ?_
  show own_Run p e below _ (T.setTop (mkF m 3 #[.val (.long n), .second, .val (.int sh), .val (.long mk), .second, .unset, .unset] [(.long ((n.toUInt64 >>> (sh &&& 0x3f).toInt64.toUInt64).toInt64))]))
  refine own_go (fun _ kS => XS.lstore X.here hx rfl (hb hby d0_3) rfl (l' := #[.val (.long n), .second, .val (.int sh), .val (.long mk), .second, .val (.long ((n.toUInt64 >>> (sh &&& 0x3f).toInt64.toUInt64).toInt64)), .second]) rfl kS) ?_
  show own_Run p e below _ (T.setTop (mkF m 5 #[.val (.long n), .second, .val (.int sh), .val (.long mk), .second, .val (.long ((n.toUInt64 >>> (sh &&& 0x3f).toInt64.toUInt64).toInt64)), .second] []))
  refine own_go (fun _ kS => XS.lloadN X.here hx rfl (hb hby d0_5) rfl kS) ?_
  show own_Run p e below _ (T.setTop (mkF m 6 #[.val (.long n), .second, .val (.int sh), .val (.long mk), .second, .val (.long ((n.toUInt64 >>> (sh &&& 0x3f).toInt64.toUInt64).toInt64)), .second] [(.long n)]))
  refine own_go (fun _ kS => XS.lloadN X.here hx rfl (hb hby d0_6) rfl kS) ?_
  show own_Run p e below _ (T.setTop (mkF m 7 #[.val (.long n), .second, .val (.int sh), .val (.long mk), .second, .val (.long ((n.toUInt64 >>> (sh &&& 0x3f).toInt64.toUInt64).toInt64)), .second] [(.long mk), (.long n)]))
  refine own_go (fun _ kS => XS.land X.here hx rfl (hb hby d0_7) rfl kS) ?_
  show own_Run p e below _ (T.setTop (mkF m 8 #[.val (.long n), .second, .val (.int sh), .val (.long mk), .second, .val (.long ((n.toUInt64 >>> (sh &&& 0x3f).toInt64.toUInt64).toInt64)), .second] [(.long (n &&& mk))]))
  refine own_go (fun _ kS => XS.lconst X.here hx rfl (hb hby d0_8) kS) ?_
  show own_Run p e below _ (T.setTop (mkF m 9 #[.val (.long n), .second, .val (.int sh), .val (.long mk), .second, .val (.long ((n.toUInt64 >>> (sh &&& 0x3f).toInt64.toUInt64).toInt64)), .second] [(.long (0 : Int64)), (.long (n &&& mk))]))
  refine own_go (fun _ kS => XS.lcmp X.here hx rfl (hb hby d0_9) rfl kS) ?_
  show own_Run p e below _ (T.setTop (mkF m 10 #[.val (.long n), .second, .val (.int sh), .val (.long mk), .second, .val (.long ((n.toUInt64 >>> (sh &&& 0x3f).toInt64.toUInt64).toInt64)), .second] [(.int (lcmpW (n &&& mk) (0 : Int64)))]))
  by_cases hc10 : (n &&& mk) = (0 : Int64)
  · refine own_go (fun _ kS => XS.ifYes X.here hx rfl (pc0 := 10) (pc' := 19) rfl (hb hby d0_10) rfl ((if0 _ _).trans (teq ((lw_eq (n &&& mk) (0 : Int64)).mpr hc10)).1) (by decide) (by decide) kS) ?_
    show own_Run p e below _ (T.setTop (mkF m 19 #[.val (.long n), .second, .val (.int sh), .val (.long mk), .second, .val (.long ((n.toUInt64 >>> (sh &&& 0x3f).toInt64.toUInt64).toInt64)), .second] []))
    refine own_go (fun _ kS => XS.lload X.here hx rfl (hb hby d0_19) rfl kS) ?_
    show own_Run p e below _ (T.setTop (mkF m 21 #[.val (.long n), .second, .val (.int sh), .val (.long mk), .second, .val (.long ((n.toUInt64 >>> (sh &&& 0x3f).toInt64.toUInt64).toInt64)), .second] [(.long ((n.toUInt64 >>> (sh &&& 0x3f).toInt64.toUInt64).toInt64))]))
    refine own_retJ X hx hret hlk (hb hby d0_21) (by decide) (by decide) ?_
    exact ⟨by rw [(by unfold own_cs; rw [if_pos hc10] : own_cs n sh mk = ((n.toUInt64 >>> (sh &&& 0x3f).toInt64.toUInt64).toInt64))], e0.symm, rfl⟩
  · refine own_go (fun _ kS => XS.ifNo X.here hx rfl (hb hby d0_10) rfl ((if0 _ _).trans (feq (mt (lw_eq (n &&& mk) (0 : Int64)).mp hc10)).1) kS) ?_
    show own_Run p e below _ (T.setTop (mkF m 13 #[.val (.long n), .second, .val (.int sh), .val (.long mk), .second, .val (.long ((n.toUInt64 >>> (sh &&& 0x3f).toInt64.toUInt64).toInt64)), .second] []))
    refine own_go (fun _ kS => XS.lload X.here hx rfl (hb hby d0_13) rfl kS) ?_
    show own_Run p e below _ (T.setTop (mkF m 15 #[.val (.long n), .second, .val (.int sh), .val (.long mk), .second, .val (.long ((n.toUInt64 >>> (sh &&& 0x3f).toInt64.toUInt64).toInt64)), .second] [(.long ((n.toUInt64 >>> (sh &&& 0x3f).toInt64.toUInt64).toInt64))]))
    refine own_go (fun _ kS => XS.lconst X.here hx rfl (hb hby d0_15) kS) ?_
    show own_Run p e below _ (T.setTop (mkF m 16 #[.val (.long n), .second, .val (.int sh), .val (.long mk), .second, .val (.long ((n.toUInt64 >>> (sh &&& 0x3f).toInt64.toUInt64).toInt64)), .second] [(.long (1 : Int64)), (.long ((n.toUInt64 >>> (sh &&& 0x3f).toInt64.toUInt64).toInt64))]))
    refine own_go (fun _ kS => XS.ladd X.here hx rfl (hb hby d0_16) rfl kS) ?_
    show own_Run p e below _ (T.setTop (mkF m 17 #[.val (.long n), .second, .val (.int sh), .val (.long mk), .second, .val (.long ((n.toUInt64 >>> (sh &&& 0x3f).toInt64.toUInt64).toInt64)), .second] [(.long (((n.toUInt64 >>> (sh &&& 0x3f).toInt64.toUInt64).toInt64) + (1 : Int64)))]))
    refine own_go (fun _ kS => XS.lstore X.here hx rfl (hb hby d0_17) rfl (l' := #[.val (.long n), .second, .val (.int sh), .val (.long mk), .second, .val (.long (((n.toUInt64 >>> (sh &&& 0x3f).toInt64.toUInt64).toInt64) + (1 : Int64))), .second]) rfl kS) ?_
    show own_Run p e below _ (T.setTop (mkF m 19 #[.val (.long n), .second, .val (.int sh), .val (.long mk), .second, .val (.long (((n.toUInt64 >>> (sh &&& 0x3f).toInt64.toUInt64).toInt64) + (1 : Int64))), .second] []))
    refine own_go (fun _ kS => XS.lload X.here hx rfl (hb hby d0_19) rfl kS) ?_
    show own_Run p e below _ (T.setTop (mkF m 21 #[.val (.long n), .second, .val (.int sh), .val (.long mk), .second, .val (.long (((n.toUInt64 >>> (sh &&& 0x3f).toInt64.toUInt64).toInt64) + (1 : Int64))), .second] [(.long (((n.toUInt64 >>> (sh &&& 0x3f).toInt64.toUInt64).toInt64) + (1 : Int64)))]))
    refine own_retJ X hx hret hlk (hb hby d0_21) (by decide) (by decide) ?_
    exact ⟨by rw [(by unfold own_cs; rw [if_neg hc10] : own_cs n sh mk = (((n.toUInt64 >>> (sh &&& 0x3f).toInt64.toUInt64).toInt64) + (1 : Int64)))], e0.symm, rfl⟩
theorem d1_0 : decode prog_54_method_3_code 0 = .ok (.iload_n 0, 1) := by decide +kernel
theorem d1_1 : decode prog_54_method_3_code 1 = .ok (.i2l, 1) := by decide +kernel
theorem d1_2 : decode prog_54_method_3_code 2 = .ok (.iload_n 0, 1) := by decide +kernel
theorem d1_3 : decode prog_54_method_3_code 3 = .ok (.i2l, 1) := by decide +kernel
theorem d1_4 : decode prog_54_method_3_code 4 = .ok (.ldc2_w 44, 3) := by decide +kernel
theorem d1_7 : decode prog_54_method_3_code 7 = .ok (.ladd, 1) := by decide +kernel
theorem d1_8 : decode prog_54_method_3_code 8 = .ok (.ldc2_w 46, 3) := by decide +kernel
theorem d1_11 : decode prog_54_method_3_code 11 = .ok (.ldiv, 1) := by decide +kernel
theorem d1_12 : decode prog_54_method_3_code 12 = .ok (.ladd, 1) := by decide +kernel
theorem d1_13 : decode prog_54_method_3_code 13 = .ok (.iload_n 0, 1) := by decide +kernel
theorem d1_14 : decode prog_54_method_3_code 14 = .ok (.i2l, 1) := by decide +kernel
theorem d1_15 : decode prog_54_method_3_code 15 = .ok (.ldc2_w 48, 3) := by decide +kernel
theorem d1_18 : decode prog_54_method_3_code 18 = .ok (.ladd, 1) := by decide +kernel
theorem d1_19 : decode prog_54_method_3_code 19 = .ok (.ldc2_w 50, 3) := by decide +kernel
theorem d1_22 : decode prog_54_method_3_code 22 = .ok (.ldiv, 1) := by decide +kernel
theorem d1_23 : decode prog_54_method_3_code 23 = .ok (.ladd, 1) := by decide +kernel
theorem d1_24 : decode prog_54_method_3_code 24 = .ok (.ldc2_w 52, 3) := by decide +kernel
theorem d1_27 : decode prog_54_method_3_code 27 = .ok (.ladd, 1) := by decide +kernel
theorem d1_28 : decode prog_54_method_3_code 28 = .ok (.ldc2_w 54, 3) := by decide +kernel
theorem d1_31 : decode prog_54_method_3_code 31 = .ok (.ladd, 1) := by decide +kernel
theorem d1_32 : decode prog_54_method_3_code 32 = .ok (.lreturn, 1) := by decide +kernel
abbrev Q_mx (Z : State) (u : Int32) (h0 : Heap) : Option Value → Heap → List Loc → Prop := fun v h L => v = some (.long (own_mx u)) ∧ h0 = h ∧ L = []
set_option maxRecDepth 65536 in
set_option maxHeartbeats 40000000 in
theorem rm_mx (l : Launch) (Z : State) (a0 : Array Value) (hw : ∀ d ∈ tables_1, d.before a0 Z = true) (u : Int32) (h0 : Heap)  :
    own_Met l Z (⟨"com/example/quillwire/quillwire/codec/Deflate", "maxStoredSize", "(I)J"⟩ : MethodName) prog_54_method_3_code 1 (some .long) ({ frames := 0, cells := 0, slots := 0, locals := 0 } : Room) #[(.int u)] h0 (Q_mx Z u h0) := by
  refine own_enter (g0 := fun m => (mkF m 0 #[.val (.int u)] [])) (plainFor_of_name (by first | (simp [plainName, overriddenIn]; done) | decide +kernel)) (fun m => by first | (simp [entryFrame, mkF, argsToLocals, Value.category]; done) | rfl) ?_
  intro p e s m below meth c T hx hby hml hown hnm hZ hret hlk X e0
  replace hown : s.vm.findClass "com/example/quillwire/quillwire/codec/Deflate" = some m.cls := hown
  show own_Run p e below _ (T.setTop (mkF m 0 #[.val (.int u)] []))
  refine own_go (fun _ kS => XS.iloadN X.here hx rfl (hb hby d1_0) rfl kS) ?_
  show own_Run p e below _ (T.setTop (mkF m 1 #[.val (.int u)] [(.int u)]))
  refine own_go (fun _ kS => XS.i2l X.here hx rfl (hb hby d1_1) rfl kS) ?_
  show own_Run p e below _ (T.setTop (mkF m 2 #[.val (.int u)] [(.long u.toInt64)]))
  refine own_go (fun _ kS => XS.iloadN X.here hx rfl (hb hby d1_2) rfl kS) ?_
  show own_Run p e below _ (T.setTop (mkF m 3 #[.val (.int u)] [(.int u), (.long u.toInt64)]))
  refine own_go (fun _ kS => XS.i2l X.here hx rfl (hb hby d1_3) rfl kS) ?_
  show own_Run p e below _ (T.setTop (mkF m 4 #[.val (.int u)] [(.long u.toInt64), (.long u.toInt64)]))
  refine own_ldc2 X hx hZ hown (hw _ (List.mem_of_getElem? (i := 13) rfl)) rfl (hb hby d1_4) ?_
  show own_Run p e below _ (T.setTop (mkF m 7 #[.val (.int u)] [(.long (7 : Int64)), (.long u.toInt64), (.long u.toInt64)]))
  refine own_go (fun _ kS => XS.ladd X.here hx rfl (hb hby d1_7) rfl kS) ?_
  show own_Run p e below _ (T.setTop (mkF m 8 #[.val (.int u)] [(.long (u.toInt64 + (7 : Int64))), (.long u.toInt64)]))
  refine own_ldc2 X hx hZ hown (hw _ (List.mem_of_getElem? (i := 14) rfl)) rfl (hb hby d1_8) ?_
  show own_Run p e below _ (T.setTop (mkF m 11 #[.val (.int u)] [(.long (8 : Int64)), (.long (u.toInt64 + (7 : Int64))), (.long u.toInt64)]))
  refine own_go (fun _ kS => XS.ldiv X.here hx rfl (hb hby d1_11) rfl (by decide) kS) ?_
  show own_Run p e below _ (T.setTop (mkF m 12 #[.val (.int u)] [(.long ((u.toInt64 + (7 : Int64)) / (8 : Int64))), (.long u.toInt64)]))
  refine own_go (fun _ kS => XS.ladd X.here hx rfl (hb hby d1_12) rfl kS) ?_
  show own_Run p e below _ (T.setTop (mkF m 13 #[.val (.int u)] [(.long (u.toInt64 + ((u.toInt64 + (7 : Int64)) / (8 : Int64))))]))
  refine own_go (fun _ kS => XS.iloadN X.here hx rfl (hb hby d1_13) rfl kS) ?_
  show own_Run p e below _ (T.setTop (mkF m 14 #[.val (.int u)] [(.int u), (.long (u.toInt64 + ((u.toInt64 + (7 : Int64)) / (8 : Int64))))]))
  refine own_go (fun _ kS => XS.i2l X.here hx rfl (hb hby d1_14) rfl kS) ?_
  show own_Run p e below _ (T.setTop (mkF m 15 #[.val (.int u)] [(.long u.toInt64), (.long (u.toInt64 + ((u.toInt64 + (7 : Int64)) / (8 : Int64))))]))
  refine own_ldc2 X hx hZ hown (hw _ (List.mem_of_getElem? (i := 15) rfl)) rfl (hb hby d1_15) ?_
  show own_Run p e below _ (T.setTop (mkF m 18 #[.val (.int u)] [(.long (63 : Int64)), (.long u.toInt64), (.long (u.toInt64 + ((u.toInt64 + (7 : Int64)) / (8 : Int64))))]))
  refine own_go (fun _ kS => XS.ladd X.here hx rfl (hb hby d1_18) rfl kS) ?_
  show own_Run p e below _ (T.setTop (mkF m 19 #[.val (.int u)] [(.long (u.toInt64 + (63 : Int64))), (.long (u.toInt64 + ((u.toInt64 + (7 : Int64)) / (8 : Int64))))]))
  refine own_ldc2 X hx hZ hown (hw _ (List.mem_of_getElem? (i := 16) rfl)) rfl (hb hby d1_19) ?_
  show own_Run p e below _ (T.setTop (mkF m 22 #[.val (.int u)] [(.long (64 : Int64)), (.long (u.toInt64 + (63 : Int64))), (.long (u.toInt64 + ((u.toInt64 + (7 : Int64)) / (8 : Int64))))]))
  refine own_go (fun _ kS => XS.ldiv X.here hx rfl (hb hby d1_22) rfl (by decide) kS) ?_
  show own_Run p e below _ (T.setTop (mkF m 23 #[.val (.int u)] [(.long ((u.toInt64 + (63 : Int64)) / (64 : Int64))), (.long (u.toInt64 + ((u.toInt64 + (7 : Int64)) / (8 : Int64))))]))
  refine own_go (fun _ kS => XS.ladd X.here hx rfl (hb hby d1_23) rfl kS) ?_
  show own_Run p e below _ (T.setTop (mkF m 24 #[.val (.int u)] [(.long ((u.toInt64 + ((u.toInt64 + (7 : Int64)) / (8 : Int64))) + ((u.toInt64 + (63 : Int64)) / (64 : Int64))))]))
  refine own_ldc2 X hx hZ hown (hw _ (List.mem_of_getElem? (i := 17) rfl)) rfl (hb hby d1_24) ?_
  show own_Run p e below _ (T.setTop (mkF m 27 #[.val (.int u)] [(.long (5 : Int64)), (.long ((u.toInt64 + ((u.toInt64 + (7 : Int64)) / (8 : Int64))) + ((u.toInt64 + (63 : Int64)) / (64 : Int64))))]))
  refine own_go (fun _ kS => XS.ladd X.here hx rfl (hb hby d1_27) rfl kS) ?_
  show own_Run p e below _ (T.setTop (mkF m 28 #[.val (.int u)] [(.long (((u.toInt64 + ((u.toInt64 + (7 : Int64)) / (8 : Int64))) + ((u.toInt64 + (63 : Int64)) / (64 : Int64))) + (5 : Int64)))]))
  refine own_ldc2 X hx hZ hown (hw _ (List.mem_of_getElem? (i := 18) rfl)) rfl (hb hby d1_28) ?_
  show own_Run p e below _ (T.setTop (mkF m 31 #[.val (.int u)] [(.long (4 : Int64)), (.long (((u.toInt64 + ((u.toInt64 + (7 : Int64)) / (8 : Int64))) + ((u.toInt64 + (63 : Int64)) / (64 : Int64))) + (5 : Int64)))]))
  refine own_go (fun _ kS => XS.ladd X.here hx rfl (hb hby d1_31) rfl kS) ?_
  show own_Run p e below _ (T.setTop (mkF m 32 #[.val (.int u)] [(.long ((((u.toInt64 + ((u.toInt64 + (7 : Int64)) / (8 : Int64))) + ((u.toInt64 + (63 : Int64)) / (64 : Int64))) + (5 : Int64)) + (4 : Int64)))]))
  refine own_retJ X hx hret hlk (hb hby d1_32) (by decide) (by decide) ?_
  exact ⟨by rw [(by unfold own_mx; rfl : own_mx u = ((((u.toInt64 + ((u.toInt64 + (7 : Int64)) / (8 : Int64))) + ((u.toInt64 + (63 : Int64)) / (64 : Int64))) + (5 : Int64)) + (4 : Int64)))], e0.symm, rfl⟩
theorem own_pd0 : parseMethodDescriptor "(JIJ)J" = some ⟨[.long, .int, .long], some .long⟩ := by decide +kernel
theorem own_pd1 : parseMethodDescriptor "(I)J" = some ⟨[.int], some .long⟩ := by decide +kernel
abbrev Q_law (Z : State) (a : Int32) (n0 : Nat) (h0 : Heap) : Option Value → Heap → List Loc → Prop := fun v h L => v = some (.int 1) ∧ Fr n0 L
set_option maxRecDepth 65536 in
set_option maxHeartbeats 40000000 in
theorem rm_law (l : Launch) (Z : State) (a0 : Array Value) (hw : ∀ d ∈ tables_1, d.before a0 Z = true) (a : Int32) (n0 : Nat) (h0 : Heap) (Z0 : n0 ≤ h0.size)  :
    own_Met l Z x code maxLocals ret room_1 #[(.int a)] h0 (Q_law Z a n0 h0) := by
  refine own_enter (g0 := fun m => (mkF m 0 #[.val (.int a), .unset, .unset, .unset, .unset, .unset, .unset, .unset] [])) (plainFor_of_name (by first | (simp [plainName, overriddenIn]; done) | decide +kernel)) (fun m => by first | (simp [entryFrame, mkF, argsToLocals, Value.category, maxLocals]; done) | rfl) ?_
  intro p e s m below meth c T hx hby hml hown hnm hZ hret hlk X e0
  have hml : c.maxLocals = 8 := hml
  replace hown : s.vm.findClass "com/example/quillwire/quillwire/codec/DeflateMaxStoredSizePinLaw" = some m.cls := hown
  have N := Fr.nil n0
  have hz := Z0
  show own_Run p e below _ (T.setTop (mkF m 0 #[.val (.int a), .unset, .unset, .unset, .unset, .unset, .unset, .unset] []))
  refine own_go (fun _ kS => XS.iloadN X.here hx rfl (hb hby at_0) rfl kS) ?_
  show own_Run p e below _ (T.setTop (mkF m 1 #[.val (.int a), .unset, .unset, .unset, .unset, .unset, .unset, .unset] [(.int a)]))
  refine own_ldc X hx hZ hown (hw _ (List.mem_of_getElem? (i := 0) rfl)) rfl (hb hby at_1) ?_
  show own_Run p e below _ (T.setTop (mkF m 3 #[.val (.int a), .unset, .unset, .unset, .unset, .unset, .unset, .unset] [(.int (2147483647 : Int32)), (.int a)]))
  refine own_go (fun _ kS => XS.iand X.here hx rfl (hb hby at_3) rfl kS) ?_
  show own_Run p e below _ (T.setTop (mkF m 4 #[.val (.int a), .unset, .unset, .unset, .unset, .unset, .unset, .unset] [(.int (a &&& (2147483647 : Int32)))]))
  refine own_go (fun _ kS => XS.istoreN X.here hx rfl (hb hby at_4) rfl (l' := #[.val (.int a), .val (.int (a &&& (2147483647 : Int32))), .unset, .unset, .unset, .unset, .unset, .unset]) rfl kS) ?_
  show own_Run p e below _ (T.setTop (mkF m 5 #[.val (.int a), .val (.int (a &&& (2147483647 : Int32))), .unset, .unset, .unset, .unset, .unset, .unset] []))
  generalize e_u : (a &&& (2147483647 : Int32)) = u
  refine own_go (fun _ kS => XS.iloadN X.here hx rfl (hb hby at_5) rfl kS) ?_
  show own_Run p e below _ (T.setTop (mkF m 6 #[.val (.int a), .val (.int u), .unset, .unset, .unset, .unset, .unset, .unset] [(.int u)]))
  refine own_go (fun _ kS => XS.i2l X.here hx rfl (hb hby at_6) rfl kS) ?_
  show own_Run p e below _ (T.setTop (mkF m 7 #[.val (.int a), .val (.int u), .unset, .unset, .unset, .unset, .unset, .unset] [(.long u.toInt64)]))
  refine own_go (fun _ kS => XS.lstoreN X.here hx rfl (hb hby at_7) rfl (l' := #[.val (.int a), .val (.int u), .val (.long u.toInt64), .second, .unset, .unset, .unset, .unset]) rfl kS) ?_
  show own_Run p e below _ (T.setTop (mkF m 8 #[.val (.int a), .val (.int u), .val (.long u.toInt64), .second, .unset, .unset, .unset, .unset] []))
  refine own_go (fun _ kS => XS.lloadN X.here hx rfl (hb hby at_8) rfl kS) ?_
  show own_Run p e below _ (T.setTop (mkF m 9 #[.val (.int a), .val (.int u), .val (.long u.toInt64), .second, .unset, .unset, .unset, .unset] [(.long u.toInt64)]))
  refine own_go (fun _ kS => XS.lloadN X.here hx rfl (hb hby at_9) rfl kS) ?_
  show own_Run p e below _ (T.setTop (mkF m 10 #[.val (.int a), .val (.int u), .val (.long u.toInt64), .second, .unset, .unset, .unset, .unset] [(.long u.toInt64), (.long u.toInt64)]))
  refine own_go (fun _ kS => XS.iconst X.here hx rfl (hb hby at_10) kS) ?_
  show own_Run p e below _ (T.setTop (mkF m 11 #[.val (.int a), .val (.int u), .val (.long u.toInt64), .second, .unset, .unset, .unset, .unset] [(.int (3 : Int32)), (.long u.toInt64), (.long u.toInt64)]))
  refine own_ldc2 X hx hZ hown (hw _ (List.mem_of_getElem? (i := 1) rfl)) rfl (hb hby at_11) ?_
  show own_Run p e below _ (T.setTop (mkF m 14 #[.val (.int a), .val (.int u), .val (.long u.toInt64), .second, .unset, .unset, .unset, .unset] [(.long (7 : Int64)), (.int (3 : Int32)), (.long u.toInt64), (.long u.toInt64)]))
  refine own_callS X hx hZ e0 hown (⟨"com/example/quillwire/quillwire/codec/DeflateMaxStoredSizePinLaw", "ceilShift", "(JIJ)J"⟩ : MethodName) (hw _ (List.mem_of_getElem? (i := 2) rfl)) (hw _ (List.mem_of_getElem? (i := 3) rfl)) (hw _ (List.mem_of_getElem? (i := 4) rfl)) (hw _ (List.mem_of_getElem? (i := 5) rfl)) (by decide) [(.long u.toInt64), (.int (3 : Int32)), (.long (7 : Int64))] [(.long u.toInt64)] (rm_cs l Z a0 hw u.toInt64 (3 : Int32) (7 : Int64) h0) (by decide) 2 (by decide) (by decide) (by decide) rfl (by rw [hml]; rfl) (lenOf own_pd0 rfl) rfl (by show 2 * 0 + _ ≤ _; exact Nat.le_of_eq rfl) (hb hby at_14) (fun v1 h1 L1 T1 Q1 X1 e1 => ?_)
  obtain ⟨rfl, rfl, rfl⟩ := Q1
  replace N := N.app (Fr.nil n0)
  show own_Run p e below _ (T1.setTop (mkF m 17 #[.val (.int a), .val (.int u), .val (.long u.toInt64), .second, .unset, .unset, .unset, .unset] [(.long (own_cs u.toInt64 (3 : Int32) (7 : Int64))), (.long u.toInt64)]))
  refine own_go (fun _ kS => XS.ladd X1.here hx rfl (hb hby at_17) rfl kS) ?_
  show own_Run p e below _ (T1.setTop (mkF m 18 #[.val (.int a), .val (.int u), .val (.long u.toInt64), .second, .unset, .unset, .unset, .unset] [(.long (u.toInt64 + (own_cs u.toInt64 (3 : Int32) (7 : Int64))))]))
  refine own_go (fun _ kS => XS.lloadN X1.here hx rfl (hb hby at_18) rfl kS) ?_
  show own_Run p e below _ (T1.setTop (mkF m 19 #[.val (.int a), .val (.int u), .val (.long u.toInt64), .second, .unset, .unset, .unset, .unset] [(.long u.toInt64), (.long (u.toInt64 + (own_cs u.toInt64 (3 : Int32) (7 : Int64))))]))
  refine own_go (fun _ kS => XS.bipush X1.here hx rfl (hb hby at_19) kS) ?_
  show own_Run p e below _ (T1.setTop (mkF m 21 #[.val (.int a), .val (.int u), .val (.long u.toInt64), .second, .unset, .unset, .unset, .unset] [(.int (6 : Int32)), (.long u.toInt64), (.long (u.toInt64 + (own_cs u.toInt64 (3 : Int32) (7 : Int64))))]))
  refine own_ldc2 X1 hx hZ hown (hw _ (List.mem_of_getElem? (i := 6) rfl)) rfl (hb hby at_21) ?_
  show own_Run p e below _ (T1.setTop (mkF m 24 #[.val (.int a), .val (.int u), .val (.long u.toInt64), .second, .unset, .unset, .unset, .unset] [(.long (63 : Int64)), (.int (6 : Int32)), (.long u.toInt64), (.long (u.toInt64 + (own_cs u.toInt64 (3 : Int32) (7 : Int64))))]))
  refine own_callS X1 hx hZ e1 hown (⟨"com/example/quillwire/quillwire/codec/DeflateMaxStoredSizePinLaw", "ceilShift", "(JIJ)J"⟩ : MethodName) (hw _ (List.mem_of_getElem? (i := 2) rfl)) (hw _ (List.mem_of_getElem? (i := 3) rfl)) (hw _ (List.mem_of_getElem? (i := 4) rfl)) (hw _ (List.mem_of_getElem? (i := 5) rfl)) (by decide) [(.long u.toInt64), (.int (6 : Int32)), (.long (63 : Int64))] [(.long (u.toInt64 + (own_cs u.toInt64 (3 : Int32) (7 : Int64))))] (rm_cs l Z a0 hw u.toInt64 (6 : Int32) (63 : Int64) h0) (by decide) 2 (by decide) (by decide) (by decide) rfl (by rw [hml]; rfl) (lenOf own_pd0 rfl) rfl (by show 2 * 0 + _ ≤ _; exact Nat.le_of_eq rfl) (hb hby at_24) (fun v2 h2 L2 T2 Q2 X2 e2 => ?_)
  obtain ⟨rfl, rfl, rfl⟩ := Q2
  replace N := N.app (Fr.nil n0)
  show own_Run p e below _ (T2.setTop (mkF m 27 #[.val (.int a), .val (.int u), .val (.long u.toInt64), .second, .unset, .unset, .unset, .unset] [(.long (own_cs u.toInt64 (6 : Int32) (63 : Int64))), (.long (u.toInt64 + (own_cs u.toInt64 (3 : Int32) (7 : Int64))))]))
  refine own_go (fun _ kS => XS.ladd X2.here hx rfl (hb hby at_27) rfl kS) ?_
  show own_Run p e below _ (T2.setTop (mkF m 28 #[.val (.int a), .val (.int u), .val (.long u.toInt64), .second, .unset, .unset, .unset, .unset] [(.long ((u.toInt64 + (own_cs u.toInt64 (3 : Int32) (7 : Int64))) + (own_cs u.toInt64 (6 : Int32) (63 : Int64))))]))
  refine own_ldc2 X2 hx hZ hown (hw _ (List.mem_of_getElem? (i := 7) rfl)) rfl (hb hby at_28) ?_
  show own_Run p e below _ (T2.setTop (mkF m 31 #[.val (.int a), .val (.int u), .val (.long u.toInt64), .second, .unset, .unset, .unset, .unset] [(.long (5 : Int64)), (.long ((u.toInt64 + (own_cs u.toInt64 (3 : Int32) (7 : Int64))) + (own_cs u.toInt64 (6 : Int32) (63 : Int64))))]))
  refine own_go (fun _ kS => XS.ladd X2.here hx rfl (hb hby at_31) rfl kS) ?_
  show own_Run p e below _ (T2.setTop (mkF m 32 #[.val (.int a), .val (.int u), .val (.long u.toInt64), .second, .unset, .unset, .unset, .unset] [(.long (((u.toInt64 + (own_cs u.toInt64 (3 : Int32) (7 : Int64))) + (own_cs u.toInt64 (6 : Int32) (63 : Int64))) + (5 : Int64)))]))
  refine own_ldc2 X2 hx hZ hown (hw _ (List.mem_of_getElem? (i := 8) rfl)) rfl (hb hby at_32) ?_
  show own_Run p e below _ (T2.setTop (mkF m 35 #[.val (.int a), .val (.int u), .val (.long u.toInt64), .second, .unset, .unset, .unset, .unset] [(.long (4 : Int64)), (.long (((u.toInt64 + (own_cs u.toInt64 (3 : Int32) (7 : Int64))) + (own_cs u.toInt64 (6 : Int32) (63 : Int64))) + (5 : Int64)))]))
  refine own_go (fun _ kS => XS.ladd X2.here hx rfl (hb hby at_35) rfl kS) ?_
  show own_Run p e below _ (T2.setTop (mkF m 36 #[.val (.int a), .val (.int u), .val (.long u.toInt64), .second, .unset, .unset, .unset, .unset] [(.long ((((u.toInt64 + (own_cs u.toInt64 (3 : Int32) (7 : Int64))) + (own_cs u.toInt64 (6 : Int32) (63 : Int64))) + (5 : Int64)) + (4 : Int64)))]))
  refine own_go (fun _ kS => XS.lstore X2.here hx rfl (hb hby at_36) rfl (l' := #[.val (.int a), .val (.int u), .val (.long u.toInt64), .second, .val (.long ((((u.toInt64 + (own_cs u.toInt64 (3 : Int32) (7 : Int64))) + (own_cs u.toInt64 (6 : Int32) (63 : Int64))) + (5 : Int64)) + (4 : Int64))), .second, .unset, .unset]) rfl kS) ?_
  show own_Run p e below _ (T2.setTop (mkF m 38 #[.val (.int a), .val (.int u), .val (.long u.toInt64), .second, .val (.long ((((u.toInt64 + (own_cs u.toInt64 (3 : Int32) (7 : Int64))) + (own_cs u.toInt64 (6 : Int32) (63 : Int64))) + (5 : Int64)) + (4 : Int64))), .second, .unset, .unset] []))
  refine own_go (fun _ kS => XS.iloadN X2.here hx rfl (hb hby at_38) rfl kS) ?_
  show own_Run p e below _ (T2.setTop (mkF m 39 #[.val (.int a), .val (.int u), .val (.long u.toInt64), .second, .val (.long ((((u.toInt64 + (own_cs u.toInt64 (3 : Int32) (7 : Int64))) + (own_cs u.toInt64 (6 : Int32) (63 : Int64))) + (5 : Int64)) + (4 : Int64))), .second, .unset, .unset] [(.int u)]))
  refine own_callS X2 hx hZ e2 hown (⟨"com/example/quillwire/quillwire/codec/Deflate", "maxStoredSize", "(I)J"⟩ : MethodName) (hw _ (List.mem_of_getElem? (i := 9) rfl)) (hw _ (List.mem_of_getElem? (i := 10) rfl)) (hw _ (List.mem_of_getElem? (i := 11) rfl)) (hw _ (List.mem_of_getElem? (i := 12) rfl)) (by decide) [(.int u)] [] (rm_mx l Z a0 hw u h0) (by decide) 0 (by decide) (by decide) (by decide) rfl (by rw [hml]; rfl) (lenOf own_pd1 rfl) rfl (by show 2 * 0 + _ ≤ _; exact Nat.le_of_eq rfl) (hb hby at_39) (fun v3 h3 L3 T3 Q3 X3 e3 => ?_)
  obtain ⟨rfl, rfl, rfl⟩ := Q3
  replace N := N.app (Fr.nil n0)
  show own_Run p e below _ (T3.setTop (mkF m 42 #[.val (.int a), .val (.int u), .val (.long u.toInt64), .second, .val (.long ((((u.toInt64 + (own_cs u.toInt64 (3 : Int32) (7 : Int64))) + (own_cs u.toInt64 (6 : Int32) (63 : Int64))) + (5 : Int64)) + (4 : Int64))), .second, .unset, .unset] [(.long (own_mx u))]))
  refine own_go (fun _ kS => XS.lstore X3.here hx rfl (hb hby at_42) rfl (l' := #[.val (.int a), .val (.int u), .val (.long u.toInt64), .second, .val (.long ((((u.toInt64 + (own_cs u.toInt64 (3 : Int32) (7 : Int64))) + (own_cs u.toInt64 (6 : Int32) (63 : Int64))) + (5 : Int64)) + (4 : Int64))), .second, .val (.long (own_mx u)), .second]) rfl kS) ?_
  show own_Run p e below _ (T3.setTop (mkF m 44 #[.val (.int a), .val (.int u), .val (.long u.toInt64), .second, .val (.long ((((u.toInt64 + (own_cs u.toInt64 (3 : Int32) (7 : Int64))) + (own_cs u.toInt64 (6 : Int32) (63 : Int64))) + (5 : Int64)) + (4 : Int64))), .second, .val (.long (own_mx u)), .second] []))
  refine own_go (fun _ kS => XS.lload X3.here hx rfl (hb hby at_44) rfl kS) ?_
  show own_Run p e below _ (T3.setTop (mkF m 46 #[.val (.int a), .val (.int u), .val (.long u.toInt64), .second, .val (.long ((((u.toInt64 + (own_cs u.toInt64 (3 : Int32) (7 : Int64))) + (own_cs u.toInt64 (6 : Int32) (63 : Int64))) + (5 : Int64)) + (4 : Int64))), .second, .val (.long (own_mx u)), .second] [(.long (own_mx u))]))
  refine own_go (fun _ kS => XS.lload X3.here hx rfl (hb hby at_46) rfl kS) ?_
  show own_Run p e below _ (T3.setTop (mkF m 48 #[.val (.int a), .val (.int u), .val (.long u.toInt64), .second, .val (.long ((((u.toInt64 + (own_cs u.toInt64 (3 : Int32) (7 : Int64))) + (own_cs u.toInt64 (6 : Int32) (63 : Int64))) + (5 : Int64)) + (4 : Int64))), .second, .val (.long (own_mx u)), .second] [(.long ((((u.toInt64 + (own_cs u.toInt64 (3 : Int32) (7 : Int64))) + (own_cs u.toInt64 (6 : Int32) (63 : Int64))) + (5 : Int64)) + (4 : Int64))), (.long (own_mx u))]))
  refine own_go (fun _ kS => XS.lcmp X3.here hx rfl (hb hby at_48) rfl kS) ?_
  show own_Run p e below _ (T3.setTop (mkF m 49 #[.val (.int a), .val (.int u), .val (.long u.toInt64), .second, .val (.long ((((u.toInt64 + (own_cs u.toInt64 (3 : Int32) (7 : Int64))) + (own_cs u.toInt64 (6 : Int32) (63 : Int64))) + (5 : Int64)) + (4 : Int64))), .second, .val (.long (own_mx u)), .second] [(.int (lcmpW (own_mx u) ((((u.toInt64 + (own_cs u.toInt64 (3 : Int32) (7 : Int64))) + (own_cs u.toInt64 (6 : Int32) (63 : Int64))) + (5 : Int64)) + (4 : Int64))))]))
  refine own_go (fun _ kS => XS.ifNo X3.here hx rfl (hb hby at_49) rfl ((if0 _ _).trans (teq ((lw_eq (own_mx u) ((((u.toInt64 + (own_cs u.toInt64 (3 : Int32) (7 : Int64))) + (own_cs u.toInt64 (6 : Int32) (63 : Int64))) + (5 : Int64)) + (4 : Int64))).mpr (show (own_mx u) = ((((u.toInt64 + (own_cs u.toInt64 (3 : Int32) (7 : Int64))) + (own_cs u.toInt64 (6 : Int32) (63 : Int64))) + (5 : Int64)) + (4 : Int64)) from (own_eq u (e_u ▸ (c_and a 2147483647 (by decide)).1))))).2) kS) ?_
  show own_Run p e below _ (T3.setTop (mkF m 52 #[.val (.int a), .val (.int u), .val (.long u.toInt64), .second, .val (.long ((((u.toInt64 + (own_cs u.toInt64 (3 : Int32) (7 : Int64))) + (own_cs u.toInt64 (6 : Int32) (63 : Int64))) + (5 : Int64)) + (4 : Int64))), .second, .val (.long (own_mx u)), .second] []))
  refine own_go (fun _ kS => XS.iconst X3.here hx rfl (hb hby at_52) kS) ?_
  show own_Run p e below _ (T3.setTop (mkF m 53 #[.val (.int a), .val (.int u), .val (.long u.toInt64), .second, .val (.long ((((u.toInt64 + (own_cs u.toInt64 (3 : Int32) (7 : Int64))) + (own_cs u.toInt64 (6 : Int32) (63 : Int64))) + (5 : Int64)) + (4 : Int64))), .second, .val (.long (own_mx u)), .second] [(.int (1 : Int32))]))
  refine own_go (fun _ kS => XS.goto X3.here hx rfl (pc0 := 53) (pc' := 57) rfl (hb hby at_53) (by decide) (by decide) kS) ?_
  show own_Run p e below _ (T3.setTop (mkF m 57 #[.val (.int a), .val (.int u), .val (.long u.toInt64), .second, .val (.long ((((u.toInt64 + (own_cs u.toInt64 (3 : Int32) (7 : Int64))) + (own_cs u.toInt64 (6 : Int32) (63 : Int64))) + (5 : Int64)) + (4 : Int64))), .second, .val (.long (own_mx u)), .second] [(.int (1 : Int32))]))
  refine own_retN X3 hx (t := .boolean) hret hlk (by simp) (hb hby at_57) (by decide) (by decide) ?_
  exact ⟨rfl, N⟩
set_option maxRecDepth 65536 in
set_option maxHeartbeats 40000000 in
theorem own_comes_1 {Post : Tables → Env → Array Value → State → Outcome → State → Prop} (hpost : ∀ tb e args s v u, (limb_1_1.after args s (.returned v) u = true ∧ limb_1_2.after args s (.returned v) u = true) → FrameEnd s (.returned v) u (Jvm.fieldLocs frame_1_writes args s ++ Jvm.arrayLocs frame_1_arrays args s ++ Jvm.staticLocs frame_1_statics s) 0 0 → Post tb e args s (.returned v) u) :
    ArmFor flags0 classFile x code maxLocals ret World_1 tables_1 room_1 Calls_1 rest_1 Pre_1 Post := by
  intro l hfl _ _ p e ha hc hk s m args below hf hA hF happ hP
  obtain ⟨hcalls, hrest, hpre⟩ := hP
  obtain ⟨-, -, -, hnamed, -, -, -, hat⟩ := (Spec.applies_iff hf).mp happ
  obtain ⟨hg, hn⟩ := and_e (Cond.before_iff.mp (show (Jvm.Cond.and given_1 narrow_1).before args s = true from hpre))
  obtain ⟨g0, hg⟩ := and_e hg
  have k0 := hg
  obtain ⟨w0, rfl⟩ : ∃ w0 : Value, args = #[w0] := by
    have hs : args.size = 1 := by simpa [Cond.value, given_1] using g0
    obtain ⟨L⟩ := args
    match L, hs with
    | [w0], _ => exact ⟨w0, rfl⟩
  have hw := fun d (hd : d ∈ tables_1) => atoms_spec (ws := Jvm.Cond.code x code maxLocals ret :: tables_1) hat d (List.mem_cons_of_mem _ hd)
  obtain ⟨i0, ei0⟩ := is_v k0
  obtain rfl : w0 = (.int i0) := Option.some.inj ei0
  obtain ⟨n, o, h1, h2, h3, _, L, rfl, ⟨rfl, N⟩, hq⟩ := rm_law l s _ hw i0 s.heap.size s.heap (Nat.le_refl _) tables_1 p e ha hc hk s m _ below hf ((Spec.applies_iff_loose hf).mp happ).1 ⟨rfl, State.Warmed39.refl s, rfl⟩ trivial
  refine ⟨n, _, h1, h2, h3, hpost _ _ _ _ _ _ ⟨Cond.after_iff.mpr rfl, Cond.after_iff.mpr (eq_i res_at (Term.int_eval (1)) rfl)⟩ ⟨hq.1, hq.2.1, (hq.2.2.sift fun y hy => Or.inr (N y hy)).mono (by decide) (by decide)⟩⟩
theorem main_1_1 : Claimed_1_1 := own_comes_1 fun _ _ _ _ _ _ h hF => ⟨h.1, hF⟩
theorem main_1_2 : Claimed_1_2 := own_comes_1 fun _ _ _ _ _ _ h hF => ⟨h.2, hF⟩
end Jvm.Pilot.@@N@@
namespace Jvm.Pilot.@@N@@
open Jvm Jvm.ClassFile Sem Op Lib Jvm.Free Jvm.Stand Jvm.Pilot.@@N@@.Jvm.D
/-! MADE BY PROGRAM (witnessworld.py) out of the Statement's table words and the real class files: 9 classes; the members and pool entries that the words name. The judged class is class 1, her method 2. -/
namespace start1
open Jvm.ClassFile
def u (s : String) : CpInfo := .utf8 (stringToUtf16 s)
/-- a pool by its gaps: so many unusable entries, then the entry; so many at the end -/
def gap : Nat → List CpInfo → List CpInfo
  | 0, r => r
  | n + 1, r => .unusable :: gap n r
def poolList (es : List (Nat × CpInfo)) (last : Nat) : List CpInfo := es.foldr (fun e r => gap e.1 (e.2 :: r)) (gap last [])
def pool (es : List (Nat × CpInfo)) (last : Nat) : Array CpInfo := ⟨poolList es last⟩
def fileOf (pool : Array CpInfo) (this : Nat) (attrs : Array Attribute := #[]) (ms : Array MethodInfo := #[]) (fl : Nat := 33) (sup : Nat := 0) (ifs : Array Nat := #[]) (fds : Array FieldInfo := #[]) : ClassFile where
  minorVersion := 0
  majorVersion := 65
  constantPool := pool
  accessFlags := fl
  thisClass := this
  superClass := sup
  interfaces := ifs
  fields := fds
  methods := ms
  attributes := attrs
def plain (name : String) (sup : Option ClassId) : Class where
  name := name
  kind := .ordinary
  loader := none
  accessFlags := 33
  super := sup
  interfaces := #[]
  cf := none
  fields := #[]
  methods := #[]
  instanceTypes := #[]
  staticTypes := #[]
  resolved := #[]
  callSites := []
  init := .initialized
  statics := none
  mirror := none

def pool0 : Array CpInfo := pool [(5, u "<init>"), (0, u "()V"), (1, .class_ 10), (1, u "java/lang/Object")] 113

def k0m0 : Method := { name := "<init>", desc := "()V", sig := { parameters := [], returnType := none }, accessFlags := 1, code := none }
/-- java/lang/Object -/
def k0 : Class := { plain "java/lang/Object" none with
  accessFlags := 33
  interfaces := #[]
  cf := some (fileOf pool0 8 #[] #[{ accessFlags := 1, nameIndex := 5, descriptorIndex := 6, attributes := #[] }] 33 0 #[] #[])
  fields := #[]
  methods := #[k0m0]
  instanceTypes := #[]
  staticTypes := #[]
  resolved := Array.replicate 124 none
  statics := none }

def pool1 : Array CpInfo := pool [(2, .class_ 4), (1, u "java/lang/Object"), (0, u "<init>"), (0, u "()V"), (0, .integer 2147483647), (0, .long 7), (1, .methodref 11 12), (0, .class_ 13), (0, .nameAndType 14 15), (0, u "com/example/quillwire/quillwire/codec/DeflateMaxStoredSizePinLaw"), (0, u "ceilShift"), (0, u "(JIJ)J"), (0, .long 63), (1, .long 5), (1, .long 4), (1, .methodref 23 24), (0, .class_ 25), (0, .nameAndType 26 27), (0, u "com/example/quillwire/quillwire/codec/Deflate"), (0, u "maxStoredSize"), (0, u "(I)J"), (3, u "law"), (0, u "(I)Z")] 2

def k1m0 : Method := { name := "<init>", desc := "()V", sig := { parameters := [], returnType := none }, accessFlags := 2, code := none }
def k1c1 : Code := { maxStack := 4, maxLocals := 7, code := method_2_code, exceptionTable := #[], attributes := #[] }
def k1m1 : Method := { name := "ceilShift", desc := "(JIJ)J", sig := { parameters := [.long, .int, .long], returnType := some .long }, accessFlags := 10, code := some k1c1 }
def k1c2 : Code := { maxStack := 7, maxLocals := 8, code := code, exceptionTable := #[], attributes := #[] }
def k1m2 : Method := { name := "law", desc := "(I)Z", sig := { parameters := [.int], returnType := some .boolean }, accessFlags := 9, code := some k1c2 }
/-- com/example/quillwire/quillwire/codec/DeflateMaxStoredSizePinLaw -/
def k1 : Class := { plain "com/example/quillwire/quillwire/codec/DeflateMaxStoredSizePinLaw" (some 0) with
  accessFlags := 49
  interfaces := #[]
  cf := some (fileOf pool1 11 #[] #[{ accessFlags := 2, nameIndex := 5, descriptorIndex := 6, attributes := #[] }, { accessFlags := 10, nameIndex := 14, descriptorIndex := 15, attributes := #[] }, { accessFlags := 9, nameIndex := 31, descriptorIndex := 32, attributes := #[] }] 49 2 #[] #[])
  fields := #[]
  methods := #[k1m0, k1m1, k1m2]
  instanceTypes := #[]
  staticTypes := #[]
  resolved := Array.replicate 35 none
  statics := none }

def pool2 : Array CpInfo := pool [(2, .class_ 4), (1, u "java/lang/Object"), (0, u "<init>"), (0, u "()V"), (12, .class_ 20), (0, u "com/example/quillwire/quillwire/codec/Deflate"), (23, .long 7), (1, .long 8), (1, .long 63), (1, .long 64), (1, .long 5), (1, .long 4), (160, u "CHECKSUM_SIZE"), (0, u "I"), (2, u "MIN_BUFFER_SIZE"), (1, u "CHUNK_SIZE"), (10, u "maxStoredSize"), (0, u "(I)J")] 26

def k2m0 : Method := { name := "<init>", desc := "()V", sig := { parameters := [], returnType := none }, accessFlags := 2, code := none }
def k2c1 : Code := { maxStack := 6, maxLocals := 1, code := prog_54_method_3_code, exceptionTable := #[], attributes := #[] }
def k2m1 : Method := { name := "maxStoredSize", desc := "(I)J", sig := { parameters := [.int], returnType := some .long }, accessFlags := 8, code := some k2c1 }
/-- com/example/quillwire/quillwire/codec/Deflate -/
def k2 : Class := { plain "com/example/quillwire/quillwire/codec/Deflate" (some 0) with
  accessFlags := 48
  interfaces := #[]
  cf := some (fileOf pool2 19 #[] #[{ accessFlags := 2, nameIndex := 5, descriptorIndex := 6, attributes := #[] }, { accessFlags := 8, nameIndex := 232, descriptorIndex := 233, attributes := #[] }] 48 2 #[] #[{ accessFlags := 26, nameIndex := 215, descriptorIndex := 216, attributes := #[] }, { accessFlags := 26, nameIndex := 219, descriptorIndex := 216, attributes := #[] }, { accessFlags := 26, nameIndex := 221, descriptorIndex := 216, attributes := #[] }])
  fields := #[{ name := "CHECKSUM_SIZE", type := .int, accessFlags := 26, slot := 0, constantValue := 0 }, { name := "MIN_BUFFER_SIZE", type := .int, accessFlags := 26, slot := 1, constantValue := 0 }, { name := "CHUNK_SIZE", type := .int, accessFlags := 26, slot := 2, constantValue := 0 }]
  methods := #[k2m0, k2m1]
  instanceTypes := #[]
  staticTypes := #[.int, .int, .int]
  resolved := Array.replicate 260 none
  statics := none }

def pool3 : Array CpInfo := pool [(1, u "java/lang/Cloneable"), (0, .class_ 1), (0, u "java/lang/Object"), (0, .class_ 3)] 3

/-- java/lang/Cloneable -/
def k3 : Class := { plain "java/lang/Cloneable" (some 0) with
  accessFlags := 1537
  interfaces := #[]
  cf := some (fileOf pool3 2 #[] #[] 1537 4 #[] #[])
  fields := #[]
  methods := #[]
  instanceTypes := #[]
  staticTypes := #[]
  resolved := Array.replicate 8 none
  statics := none }

def pool4 : Array CpInfo := pool [(1, u "java/io/Serializable"), (0, .class_ 1), (0, u "java/lang/Object"), (0, .class_ 3)] 3

/-- java/io/Serializable -/
def k4 : Class := { plain "java/io/Serializable" (some 0) with
  accessFlags := 1537
  interfaces := #[]
  cf := some (fileOf pool4 2 #[] #[] 1537 4 #[] #[])
  fields := #[]
  methods := #[]
  instanceTypes := #[]
  staticTypes := #[]
  resolved := Array.replicate 8 none
  statics := none }

/-- the primitive byte -/
def k5 : Class := { plain "byte" none with kind := .primitive 'B', accessFlags := 0x411 }
/-- [B -/
def k6 : Class := { plain "[B" (some 0) with kind := .array 5 .byte, interfaces := #[3, 4], accessFlags := 1041 }

/-- the primitive int -/
def k7 : Class := { plain "int" none with kind := .primitive 'I', accessFlags := 0x411 }
/-- [I -/
def k8 : Class := { plain "[I" (some 0) with kind := .array 7 .int, interfaces := #[3, 4], accessFlags := 1041 }

def heap : Heap := #[]
def classes : Array Class := #[k0, k1, k2, k3, k4, k5, k6, k7, k8]
def interned : List (Array UInt16 × Addr) := []
def slotsUsed : Nat := 0
def theMethod : MethodId := ⟨1, 2⟩
def args0 : Array Value := #[.int 5]
def aboutOver (below : List Frame) : State where
  vm := { classes := classes, interned := interned.toArray }
  heap := heap
  slotsUsed := slotsUsed
  threads := #[{ frames := .invoking theMethod args0 :: below }]
def below0 : List Frame := [.native { method := ⟨0, 0⟩, args := #[] }]
def about1 : State := aboutOver below0
def p0 : Program := .bare "" "" ""
def e0 : Env := launch0.env 0 0 0
theorem w_frames : about1.frames = Frame.invoking theMethod args0 :: below0 := rfl
set_option maxRecDepth 65536 in
theorem w_args : argsFit about1.vm theMethod args0 = true := by decide +kernel
set_option maxRecDepth 65536 in
theorem w_heap : heapFits about1 = true := by decide +kernel
set_option maxRecDepth 65536 in
theorem w_runnable : about1.curStatus? = some .runnable := by decide +kernel
set_option maxRecDepth 65536 in
theorem w_alone : about1.alone = true := by decide +kernel
set_option maxRecDepth 65536 in
theorem w_named : about1.methodNamed? x = some theMethod := by decide +kernel
set_option maxRecDepth 65536 in
theorem w_hears : about1.hears theMethod below0 = true := by decide +kernel
set_option maxRecDepth 65536 in
theorem w_ripe : about1.ripe theMethod args0 below0 = true := by decide +kernel
theorem w_running : about1.status = .running := rfl
set_option maxRecDepth 65536 in
theorem w_room : about1.hasRoom e0.platform room_1 = true :=
  launch0.hasRoom_least _ room_1 (by decide +kernel) (by decide +kernel) (by decide +kernel) (by decide +kernel) (by decide +kernel) (by decide +kernel)
theorem allAtoms_all (ts : List Jvm.Cond) (a : Array Jvm.Value) (st : Jvm.State) : (allAtoms ts).before a st = ts.all (fun c => c.before a st) := by
  induction ts with
  | nil => rfl
  | cons c t ih =>
    show (Jvm.Cond.and c (allAtoms t)).before a st = _
    rw [Jvm.Cond.before_and, ih, List.all_cons]
def words1 : List Jvm.Cond := Jvm.Cond.code x code maxLocals ret :: tables_1
/-- a 'code' word, met by the world's own term for the bytes: nothing is compared byte by byte -/
theorem code_word {y : MethodName} {bytes : ByteArray} {mx : Nat} {rt : Option FieldType} {a : Array Value} {s : State} {m : MethodId} {meth : Method} {c : Code} (h1 : s.methodNamed? y = some m) (h2 : s.vm.method? m = some meth) (h3 : meth.code = some c) (h4 : c.code = bytes)
    (h5 : (c.maxLocals == mx && c.exceptionTable.isEmpty && decide (c.maxStack ≤ mostOperands) && decide (meth.sig.returnType = rt) && !meth.locks && decide (parseMethodDescriptor y.desc = some meth.sig)) = true) : (Jvm.Cond.code y bytes mx rt).before a s = true := by
  simp only [Bool.and_eq_true, beq_iff_eq, Bool.not_eq_true', decide_eq_true_eq] at h5
  obtain ⟨⟨⟨⟨⟨g1, g2⟩, g3⟩, g4⟩, g5⟩, g6⟩ := h5
  simp [Cond.before, Cond.holds, Cond.value, h1, h2, h3, h4, g1, g2, g3, g4, g5, g6]
def isCode : Jvm.Cond → Bool
  | .code _ _ _ _ => true
  | _ => false
theorem all_split {L : List Jvm.Cond} {P : Jvm.Cond → Bool} (h1 : L.all (fun c => isCode c || P c) = true) (h2 : ∀ c ∈ L.filter isCode, P c = true) : L.all P = true := by
  refine List.all_eq_true.mpr fun c hc => ?_
  have h := List.all_eq_true.mp h1 c hc
  rcases Bool.eq_false_or_eq_true (isCode c) with hi | hi
  · exact h2 c (List.mem_filter.mpr ⟨hc, hi⟩)
  · simpa [hi] using h
set_option maxRecDepth 65536 in
theorem w_c0 : (Jvm.Cond.code x code maxLocals ret).before args0 about1 = true := code_word (m := ⟨1, 2⟩) (meth := k1m2) (c := k1c2) (by decide +kernel) rfl rfl rfl (by decide +kernel)
set_option maxRecDepth 65536 in
theorem w_c1 : (Jvm.Cond.code ({ cls := "com/example/quillwire/quillwire/codec/DeflateMaxStoredSizePinLaw", name := "ceilShift", desc := "(JIJ)J" } : Jvm.MethodName) method_2_code (7 : Nat) (Option.some Jvm.ClassFile.FieldType.long)).before args0 about1 = true := code_word (m := ⟨1, 1⟩) (meth := k1m1) (c := k1c1) (by decide +kernel) rfl rfl rfl (by decide +kernel)
set_option maxRecDepth 65536 in
theorem w_c2 : (Jvm.Cond.code ({ cls := "com/example/quillwire/quillwire/codec/Deflate", name := "maxStoredSize", desc := "(I)J" } : Jvm.MethodName) prog_54_method_3_code (1 : Nat) (Option.some Jvm.ClassFile.FieldType.long)).before args0 about1 = true := code_word (m := ⟨2, 1⟩) (meth := k2m1) (c := k2c1) (by decide +kernel) rfl rfl rfl (by decide +kernel)
def codes1 : List Jvm.Cond := [Jvm.Cond.code x code maxLocals ret, Jvm.Cond.code ({ cls := "com/example/quillwire/quillwire/codec/DeflateMaxStoredSizePinLaw", name := "ceilShift", desc := "(JIJ)J" } : Jvm.MethodName) method_2_code (7 : Nat) (Option.some Jvm.ClassFile.FieldType.long), Jvm.Cond.code ({ cls := "com/example/quillwire/quillwire/codec/Deflate", name := "maxStoredSize", desc := "(I)J" } : Jvm.MethodName) prog_54_method_3_code (1 : Nat) (Option.some Jvm.ClassFile.FieldType.long)]
set_option maxRecDepth 65536 in
theorem codes_eq : words1.filter isCode = codes1 := rfl
theorem w_codes : ∀ c ∈ words1.filter isCode, c.before args0 about1 = true := by
  rw [codes_eq]
  intro c hc
  simp only [codes1, List.mem_cons, List.not_mem_nil, or_false] at hc
  rcases hc with rfl | rfl | rfl
  · exact w_c0
  · exact w_c1
  · exact w_c2
set_option maxRecDepth 65536 in
theorem w_t1 : words1.all (fun c => isCode c || c.before args0 about1) = true := by decide +kernel
theorem w_tables : (allAtoms (Jvm.Cond.code x code maxLocals ret :: tables_1)).before args0 about1 = true := by
  rw [allAtoms_all]
  show words1.all (fun c => c.before args0 about1) = true
  refine all_split ?_ w_codes
  rw [w_t1]
set_option maxRecDepth 65536 in
theorem w_case : (Jvm.Cond.and given_1 narrow_1).before args0 about1 = true := by decide +kernel
theorem w_applies : (headSpec (Jvm.Cond.code x code maxLocals ret :: tables_1) room_1).applies x e0.platform about1 = true :=
  (Spec.applies_iff w_frames).mpr ⟨w_running, w_runnable, w_alone, w_named, w_hears, w_ripe, w_room, w_tables⟩
theorem atStart : AtStart classFile x code maxLocals ret World_1 tables_1 room_1 Calls_1 rest_1 Pre_1 launch0 p0 e0 about1 theMethod args0 below0 :=
  ⟨lists_1, trivial, launch0.admits_env _ _ _, launch0.least_env, fairChoices_fair.cas, fairChoices_fair.clock, w_frames, w_args, w_heap, w_applies, trivial, trivial, w_case⟩
end start1
theorem witness_1 : WitnessClaimed_1 := ⟨start1.p0, start1.e0, start1.about1, start1.theMethod, start1.args0, start1.below0, start1.atStart⟩
end Jvm.Pilot.@@N@@
