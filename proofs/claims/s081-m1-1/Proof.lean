import JvmDerived
import JvmDerived.Pilot.@@N@@Statement
import JvmDerived.Pilot.@@N@@Code
set_option linter.unusedVariables false
set_option linter.unusedSimpArgs false
namespace Jvm.Pilot.@@N@@
open Jvm Jvm.ClassFile Sem Op Lib Jvm.Free Jvm.Stand Jvm.LawKit Jvm.RoadKit Bundle Jvm.Pilot.@@N@@.Jvm.D
section OwnKit
variable {p : Program} {l : Launch} {e : Env} {R : Room} {s : State} {m : MethodId} {args : Array Value} {below : List Frame} {meth : Method} {c : Code} {T : State} {locs : List Loc} {cells slots : Nat} {Z : State} {a0 : Array Value} {h : Heap} {n0 : Nat} {G : State → Outcome → Prop} {kc ks : Nat} {Q : Option Value → Heap → Prop}
/-- what is left of a walk: from U the body comes to an end of which G holds -/
def own_Go (tb : Tables) (e : Env) (below : List Frame) (G : State → Outcome → Prop) (U : State) : Prop := ∃ s₂ o, Steps tb e below U s₂ ∧ s₂.status = .running ∧ Ended s₂ below o ∧ G s₂ o
theorem own_go {tb : Tables} {U U' : State} (f : ∀ t, Steps tb e below U' t → Steps tb e below U t) (k : own_Go tb e below G U') : own_Go tb e below G U := by
  obtain ⟨a, b, c, d⟩ := k
  exact ⟨a, b, f _ c, d⟩
/-- where the run stands: its heap is h, nothing below n0 has been written -/
def own_At (p : Program) (l : Launch) (e : Env) (R : Room) (s : State) (m : MethodId) (args : Array Value) (below : List Frame) (meth : Method) (c : Code) (n0 : Nat) (T : State) (h : Heap) (cells slots : Nat) : Prop :=
  ∃ locs, Stand p l e R s m args below meth c T locs cells slots ∧ T.heap = h ∧ Fr n0 locs
theorem own_At.here (A : own_At p l e R s m args below meth c n0 T h cells slots) : At T m c below := by obtain ⟨_, X, -, -⟩ := A; exact X.here
theorem own_At.heap (A : own_At p l e R s m args below meth c n0 T h cells slots) : T.heap = h := by obtain ⟨_, -, q, -⟩ := A; exact q
/-- the end of a body: it returns v, Q holds of v and the heap -/
def own_End (n0 : Nat) (s : State) (kc ks : Nat) (Q : Option Value → Heap → Prop) : State → Outcome → Prop := fun s₂ o => ∃ v L, o = .returned v ∧ (Q v s₂.heap ∧ Fr n0 L) ∧ FrameEnd s o s₂ L kc ks
theorem own_leave (A : own_At p l e R s m args below meth c n0 T h cells slots) {v : Option Value} (hv : meth.sig.returnType = none → v = none) (hlk : meth.locks = false) (hc : cells ≤ kc) (hs : slots ≤ ks) (q : Q v h) {U : State}
    (st : ∀ locs, Stand p l e R s m args below meth c T locs cells slots → ∀ fs, (∀ (f : JFrame) (acts : List Action), f.method = m → f.locked = none → f.entered = [] → (doReturn e (T.setTop f) acts v).1 = T.setFrames fs) → Steps p.tables e below U (T.setFrames fs)) : own_Go p.tables e below (own_End n0 s kc ks Q) U := by
  obtain ⟨locs, X, rfl, N⟩ := A
  obtain ⟨fs, hr, hrun, hended, hW, hsame⟩ := X.leave hv hlk
  exact ⟨_, _, st locs X fs hr, hrun, hended, _, _, rfl, ⟨q, N⟩, ⟨_, rfl⟩, hW, hsame.mono hc hs⟩
theorem own_retI (A : own_At p l e R s m args below meth c n0 T h cells slots) (hx : p.tables.exec = Jvm.exec) (hret : meth.sig.returnType = some .int) (hlk : meth.locks = false) (hc : cells ≤ kc) (hs : slots ≤ ks) {pc : Nat} {Ls : Array Slot} {z : Int32} {rest : List Value} (hd : decode c.code pc = .ok (.ireturn, 1)) (q : Q (some (.int z)) h) :
    own_Go p.tables e below (own_End n0 s kc ks Q) (T.setTop (mkF m pc Ls (.int z :: rest))) :=
  own_leave A (fun q => by rw [hret] at q; cases q) hlk hc hs q fun _ X _ hr => retOut X hx hret rfl (Or.inl ⟨rfl, Or.inl rfl, _, rfl⟩) hd hr
theorem own_retN (A : own_At p l e R s m args below meth c n0 T h cells slots) (hx : p.tables.exec = Jvm.exec) {t : FieldType} (hret : meth.sig.returnType = some t) (ht : t = .boolean ∨ t = .byte ∨ t = .char ∨ t = .short) (hlk : meth.locks = false) (hc : cells ≤ kc) (hs : slots ≤ ks) {pc : Nat} {Ls : Array Slot} {z : Int32} {rest : List Value} (hd : decode c.code pc = .ok (.ireturn, 1)) (q : Q (some (.int (nar t z))) h) :
    own_Go p.tables e below (own_End n0 s kc ks Q) (T.setTop (mkF m pc Ls (.int z :: rest))) :=
  own_leave A (fun q => by rw [hret] at q; cases q) hlk hc hs q fun _ X _ hr => retN X hx hret ht hd hr
theorem own_retJ (A : own_At p l e R s m args below meth c n0 T h cells slots) (hx : p.tables.exec = Jvm.exec) (hret : meth.sig.returnType = some .long) (hlk : meth.locks = false) (hc : cells ≤ kc) (hs : slots ≤ ks) {pc : Nat} {Ls : Array Slot} {z : Int64} {rest : List Value} (hd : decode c.code pc = .ok (.lreturn, 1)) (q : Q (some (.long z)) h) :
    own_Go p.tables e below (own_End n0 s kc ks Q) (T.setTop (mkF m pc Ls (.long z :: rest))) :=
  own_leave A (fun q => by rw [hret] at q; cases q) hlk hc hs q fun _ X _ hr => retOut X hx hret rfl (Or.inr (Or.inl ⟨rfl, rfl, _, rfl⟩)) hd hr
theorem own_retD (A : own_At p l e R s m args below meth c n0 T h cells slots) (hx : p.tables.exec = Jvm.exec) (hret : meth.sig.returnType = some .double) (hlk : meth.locks = false) (hc : cells ≤ kc) (hs : slots ≤ ks) {pc : Nat} {Ls : Array Slot} {z : UInt64} {rest : List Value} (hd : decode c.code pc = .ok (.dreturn, 1)) (q : Q (some (.double z)) h) :
    own_Go p.tables e below (own_End n0 s kc ks Q) (T.setTop (mkF m pc Ls (.double z :: rest))) :=
  own_leave A (fun q => by rw [hret] at q; cases q) hlk hc hs q fun _ X _ hr => retOut X hx hret rfl (Or.inr (Or.inr (Or.inl ⟨rfl, rfl, _, rfl⟩))) hd hr
theorem own_retA (A : own_At p l e R s m args below meth c n0 T h cells slots) (hx : p.tables.exec = Jvm.exec) {t : FieldType} (hret : meth.sig.returnType = some t) (ht : t.isReference = true) (hlk : meth.locks = false) (hc : cells ≤ kc) (hs : slots ≤ ks) {pc : Nat} {Ls : Array Slot} {w : Value} (hw : w.isRef = true) {rest : List Value} (hd : decode c.code pc = .ok (.areturn, 1)) (q : Q (some w) h) :
    own_Go p.tables e below (own_End n0 s kc ks Q) (T.setTop (mkF m pc Ls (w :: rest))) :=
  own_leave A (fun q => by rw [hret] at q; cases q) hlk hc hs q fun _ X _ hr => retOut X hx hret (by cases t <;> first | rfl | cases ht) (Or.inr (Or.inr (Or.inr (Or.inr ⟨rfl, ht, hw⟩)))) hd hr
theorem own_retV (A : own_At p l e R s m args below meth c n0 T h cells slots) (hx : p.tables.exec = Jvm.exec) (hret : meth.sig.returnType = none) (hlk : meth.locks = false) (hc : cells ≤ kc) (hs : slots ≤ ks) {pc : Nat} {Ls : Array Slot} (hd : decode c.code pc = .ok (.return_, 1)) (q : Q none h) :
    own_Go p.tables e below (own_End n0 s kc ks Q) (T.setTop (mkF m pc Ls [])) :=
  own_leave A (fun _ => rfl) hlk hc hs q fun _ X _ hr => X.returnOut hx hret hd hr
/-- a body's contract: called with as' at the heap h0 it returns, and Q holds of what it returns and of the heap -/
def own_Met (l : Launch) (Z : State) (n0 : Nat) (y : MethodName) (bytes : ByteArray) (maxL : Nat) (ret : Option FieldType) (rm : Room) (as' : Array Value) (h0 : Heap) (Q : Option Value → Heap → Prop) : Prop :=
  ∀ ws, MetFree l y (head1 (Cond.code y bytes maxL ret :: ws) rm) (fun a U => a = as' ∧ Z.Warmed39 U.vm ∧ U.heap = h0) (fun _ _ _ _ _ => True) (fun _ U o U' => ∃ v L, o = .returned v ∧ (Q v U'.heap ∧ Fr n0 L) ∧ FrameEnd U o U' L rm.cells rm.slots)
theorem own_met {y : MethodName} {bytes : ByteArray} {maxL : Nat} {ret : Option FieldType} {rm : Room} {as' : Array Value} {h0 : Heap} (hp : plainFor y = true)
    (body : ∀ (p : Program) (e : Env) (s : State) (m : MethodId) (below : List Frame) (meth : Method) (c : Code) (T : State), p.tables.exec = Jvm.exec → c.code = bytes → c.maxLocals = maxL → s.vm.findClass y.cls = some m.cls → meth.name = y.name → meth.sig.returnType = ret → meth.locks = false → Z.Warmed39 s.vm →
      own_At p l e rm s m as' below meth c n0 T h0 0 0 → own_Go p.tables e below (own_End n0 s rm.cells rm.slots Q) (T.setTop (entryFrame m as' maxL))) : own_Met l Z n0 y bytes maxL ret rm as' h0 Q := by
  intro ws
  refine MetFree.of_bodySF hp hisR ?_
  intro p e s m args below meth c s₁ Bd hml0 hP hK
  obtain ⟨rfl, hZ, hh⟩ := hP
  exact body p e s m below meth c s₁ Bd.exec Bd.bytes hml0 (findClass_of_methodNamed Bd.named) (name_of_methodNamed Bd.named Bd.method).1 Bd.returns Bd.notSynchronized hZ ⟨[], Stand.of_body Bd, by rw [← hh, Bd.state]; rfl, Fr.nil n0⟩
theorem own_callS (A : own_At p l e R s m args below meth c n0 T h cells slots) (hx : p.tables.exec = Jvm.exec) (hZ : Z.Warmed39 s.vm) {own : String} {index : Nat} {y : MethodName} {bytes : ByteArray} {maxL : Nat} {ret : Option FieldType} (hown : s.vm.findClass own = some m.cls)
    (w1 : (Cond.methodLink own index y).before a0 Z = true) (w2 : (Cond.static y).before a0 Z = true) (w3 : (Cond.initialized y.cls).before a0 Z = true) (w4 : (Cond.code y bytes maxL ret).before a0 Z = true) (hy : y.cls ≠ "java/lang/invoke/MethodHandle" ∧ y.cls ≠ "java/lang/invoke/VarHandle")
    {rm : Room} {argsL rest : List Value} (hM : own_Met l Z n0 y bytes maxL ret rm argsL.toArray h Q) (W : Nat) (hfr : rm.frames + 1 ≤ R.frames) (hlo : W + (maxL + 11) + rm.locals ≤ R.locals) {g : JFrame} (hg : g.method = m) (hsize : g.locals.size = c.maxLocals)
    (hlen : ∀ sig, parseMethodDescriptor y.desc = some sig → argsL.length = sig.parameters.length) (hs : g.stack = argsL.reverse ++ rest) (hW : 2 * g.monitorRoom + (rest.map fun v => v.category).sum ≤ W) (hd : decode c.code g.pc = .ok (.invokestatic index, 3))
    (hc : cells + rm.cells ≤ R.cells) (hl : slots + rm.slots ≤ R.slots)
    (k : ∀ v T' h', own_At p l e R s m args below meth c n0 T' h' (cells + rm.cells) (slots + rm.slots) → Q v h' → own_Go p.tables e below G (T'.setTop { g with pc := g.pc + 3, stack := v.toList ++ rest })) : own_Go p.tables e below G (T.setTop g) := by
  obtain ⟨locs, X, eT, N⟩ := A
  obtain ⟨v, _, ⟨T1, L1, k1, s1⟩, -, X1, ⟨Lc, ⟨hQ, N1⟩, l1, y1, z1⟩, st⟩ := Jvm.LawKit.callS X hx (y := y) hown (mvT hZ w1) (mvT hZ w2) (mvT hZ w3) (mvT hZ w4) hy (backOf (Q := fun v h L => Q v h ∧ Fr n0 L) (W := W) (hM []) hZ w4 w3 hfr hlo) hg hsize (argsL := argsL) (rest := rest) hlen hs hW hd (fun _ _ => ⟨rfl, eT, hc, hl⟩)
  dsimp only [Pt.U, Pt.locs, Pt.cells, Pt.slots] at X1 l1 y1 z1 st hQ
  subst l1 y1 z1
  exact own_go (fun t k => st t k) (k v T1 T1.heap ⟨_, X1, rfl, N.app N1⟩ hQ)
theorem own_callV (A : own_At p l e R s m args below meth c n0 T h cells slots) (hx : p.tables.exec = Jvm.exec) (hZ : Z.Warmed39 s.vm) {own C : String} {index : Nat} {y z : MethodName} {bytes : ByteArray} {maxL : Nat} {ret : Option FieldType} (hown : s.vm.findClass own = some m.cls)
    (w1 : (Cond.methodLink own index y).before a0 Z = true) (w2 : (Cond.declares y).before a0 Z = true) (w3 : (Cond.selects C y z).before a0 Z = true) (w4 : (Cond.instanceMethod z).before a0 Z = true) (w5 : (Cond.initialized z.cls).before a0 Z = true) (w6 : (Cond.code z bytes maxL ret).before a0 Z = true) (nf : NotFace s y)
    (hy : y.cls ≠ "java/lang/invoke/MethodHandle" ∧ y.cls ≠ "java/lang/invoke/VarHandle")
    {rm : Room} {b : Addr} {argsL rest : List Value} (E : Exa Z h b C) (hM : own_Met l Z n0 z bytes maxL ret rm (.ref b :: argsL).toArray h Q) (W : Nat) (hfr : rm.frames + 1 ≤ R.frames) (hlo : W + (maxL + 11) + rm.locals ≤ R.locals) {g : JFrame} (hg : g.method = m) (hsize : g.locals.size = c.maxLocals)
    (hlen : ∀ sig, parseMethodDescriptor y.desc = some sig → argsL.length = sig.parameters.length) (hs : g.stack = argsL.reverse ++ .ref b :: rest) (hW : 2 * g.monitorRoom + (rest.map fun v => v.category).sum ≤ W) (hd : decode c.code g.pc = .ok (.invokevirtual index, 3))
    (hc : cells + rm.cells ≤ R.cells) (hl : slots + rm.slots ≤ R.slots)
    (k : ∀ v T' h', own_At p l e R s m args below meth c n0 T' h' (cells + rm.cells) (slots + rm.slots) → Q v h' → own_Go p.tables e below G (T'.setTop { g with pc := g.pc + 3, stack := v.toList ++ rest })) : own_Go p.tables e below G (T.setTop g) := by
  obtain ⟨locs, X, eT, N⟩ := A
  obtain ⟨cq, kq, qa, qb, qc⟩ := isOf hZ eT E
  obtain ⟨v, _, ⟨T1, L1, k1, s1⟩, -, X1, ⟨Lc, ⟨hQ, N1⟩, l1, y1, z1⟩, st⟩ := X.virtualBack hx (y := y) (z := z) hown (mvT hZ w1) (mvT hZ w2) nf (mvT hZ w3) (mvT hZ w4) hy (backOf (Q := fun v h L => Q v h ∧ Fr n0 L) (W := W) (hM []) hZ w6 w5 hfr hlo) qa qc hg hsize (Steps.refl _) (argsL := argsL) (rest := rest) hlen hs hW hd (fun _ _ => ⟨rfl, eT, hc, hl⟩)
  dsimp only [Pt.U, Pt.locs, Pt.cells, Pt.slots] at X1 l1 y1 z1 st hQ
  subst l1 y1 z1
  exact own_go (fun t k => st.trans k) (k v T1 T1.heap ⟨_, X1, rfl, N.app N1⟩ hQ)
theorem own_callI (A : own_At p l e R s m args below meth c n0 T h cells slots) (hx : p.tables.exec = Jvm.exec) (hZ : Z.Warmed39 s.vm) {own : String} {index : Nat} {y : MethodName} (hy1 : y.name = "<init>") {bytes : ByteArray} {maxL : Nat} (hown : s.vm.findClass own = some m.cls)
    (w1 : (Cond.methodLink own index y).before a0 Z = true) (w4 : (Cond.instanceMethod y).before a0 Z = true) (w5 : (Cond.initialized y.cls).before a0 Z = true) (w6 : (Cond.code y bytes maxL none).before a0 Z = true)
    (hy : y.cls ≠ "java/lang/invoke/MethodHandle" ∧ y.cls ≠ "java/lang/invoke/VarHandle")
    {rm : Room} {b : Addr} {argsL rest : List Value} (hM : own_Met l Z n0 y bytes maxL none rm (.ref b :: argsL).toArray h Q) (W : Nat) (hfr : rm.frames + 1 ≤ R.frames) (hlo : W + (maxL + 11) + rm.locals ≤ R.locals) {g : JFrame} (hg : g.method = m) (hsize : g.locals.size = c.maxLocals)
    (hlen : ∀ sig, parseMethodDescriptor y.desc = some sig → argsL.length = sig.parameters.length) (hs : g.stack = argsL.reverse ++ .ref b :: rest) (hW : 2 * g.monitorRoom + (rest.map fun v => v.category).sum ≤ W) (hd : decode c.code g.pc = .ok (.invokespecial index, 3))
    (hc : cells + rm.cells ≤ R.cells) (hl : slots + rm.slots ≤ R.slots)
    (k : ∀ v T' h', own_At p l e R s m args below meth c n0 T' h' (cells + rm.cells) (slots + rm.slots) → Q v h' → own_Go p.tables e below G (T'.setTop { g with pc := g.pc + 3, stack := v.toList ++ rest })) : own_Go p.tables e below G (T.setTop g) := by
  obtain ⟨locs, X, eT, N⟩ := A
  obtain ⟨v, _, ⟨T1, L1, k1, s1⟩, -, X1, ⟨Lc, ⟨hQ, N1⟩, l1, y1, z1⟩, st⟩ := X.specialBack hx (y := y) hy1 hown (mvT hZ w1) (mvT hZ w4) (mvT hZ w6) hy (backOf (Q := fun v h L => Q v h ∧ Fr n0 L) (W := W) (hM []) hZ w6 w5 hfr hlo) hg hsize (Steps.refl _) (a := b) (argsL := argsL) (rest := rest) hlen hs hW hd (fun _ _ => ⟨rfl, eT, hc, hl⟩)
  dsimp only [Pt.U, Pt.locs, Pt.cells, Pt.slots] at X1 l1 y1 z1 st hQ
  subst l1 y1 z1
  exact own_go (fun t k => st.trans k) (k v T1 T1.heap ⟨_, X1, rfl, N.app N1⟩ hQ)
theorem own_initO (A : own_At p l e R s m args below meth c n0 T h cells slots) (hx : p.tables.exec = Jvm.exec) (hZ : Z.Warmed39 s.vm) {own : String} {idx : Nat} (hown : s.vm.findClass own = some m.cls) (w1 : (Cond.methodLink own idx Lib.objectInit).before a0 Z = true) (w2 : (Cond.instanceMethod Lib.objectInit).before a0 Z = true)
    (w3 : (Cond.code Lib.objectInit ⟨#[0xb1]⟩ 1 none).before a0 Z = true) {g : JFrame} (hg : g.method = m) (hsize : g.locals.size = c.maxLocals) {a : Addr} {rest : List Value} (hs : g.stack = .ref a :: rest) (hd : decode c.code g.pc = .ok (.invokespecial idx, 3))
    (hf : 1 ≤ R.frames) (W : Nat) (hW : 2 * g.monitorRoom + (rest.map fun v => v.category).sum ≤ W) (hl : W + 12 ≤ R.locals)
    (k : ∀ T', own_At p l e R s m args below meth c n0 T' h cells slots → own_Go p.tables e below G (T'.setTop { g with pc := g.pc + 3, stack := rest })) : own_Go p.tables e below G (T.setTop g) := by
  obtain ⟨locs, X, eT, N⟩ := A
  obtain ⟨T1, X1, e1, st⟩ := initO X hx hZ hown w1 w2 w3 eT hg hsize hs hd hf hW hl
  exact own_go st (k T1 ⟨_, X1, e1, N⟩)
theorem own_getF (A : own_At p l e R s m args below meth c n0 T h cells slots) (hx : p.tables.exec = Jvm.exec) (hZ : Z.Warmed39 s.vm) {own R0 O n d host : String} {index : Nat} (hown : s.vm.findClass own = some m.cls) (w : (Cond.fieldLink own index R0 n d).before a0 Z = true ∨ (Cond.fieldLinkNest own index R0 n d host).before a0 Z = true) (via : Via Z R0 O n d)
    {a : Addr} {v : Value} (F : Fld Z h a O n d v) {g : JFrame} (hg : g.method = m) {rest : List Value} (hs : g.stack = .ref a :: rest) (hd : decode c.code g.pc = .ok (.getfield index, 3))
    (k : ∀ T', own_At p l e R s m args below meth c n0 T' h cells slots → own_Go p.tables e below G (T'.setTop { g with pc := g.pc + 3, stack := v :: rest })) : own_Go p.tables e below G (T.setTop g) := by
  obtain ⟨locs, X, eT, N⟩ := A
  obtain ⟨T1, X1, e1, st⟩ := getF X hx hZ hown w via eT F hg hs hd
  exact own_go st (k T1 ⟨_, X1, e1, N⟩)
theorem own_getS (A : own_At p l e R s m args below meth c n0 T h cells slots) (hx : p.tables.exec = Jvm.exec) (hZ : Z.Warmed39 s.vm) {own R0 O n d host : String} {index : Nat} (hown : s.vm.findClass own = some m.cls) (w : (Cond.fieldLink own index R0 n d).before a0 Z = true ∨ (Cond.fieldLinkNest own index R0 n d host).before a0 Z = true) (via : Via Z R0 O n d)
    {v : Value} (F : Sta Z h O n d v) {g : JFrame} (hg : g.method = m) (hd : decode c.code g.pc = .ok (.getstatic index, 3))
    (k : ∀ T', own_At p l e R s m args below meth c n0 T' h cells slots → own_Go p.tables e below G (T'.setTop { g with pc := g.pc + 3, stack := v :: g.stack })) : own_Go p.tables e below G (T.setTop g) := by
  obtain ⟨locs, X, eT, N⟩ := A
  obtain ⟨T1, X1, e1, st⟩ := getS2 X hx hZ hown w via eT F hg hd
  exact own_go st (k T1 ⟨_, X1, e1, N⟩)
theorem own_ldcI (A : own_At p l e R s m args below meth c n0 T h cells slots) (hx : p.tables.exec = Jvm.exec) (hZ : Z.Warmed39 s.vm) {own : String} {index : Nat} {v : Int32} (hown : s.vm.findClass own = some m.cls) (w : (Cond.constant own index v).before a0 Z = true) {g : JFrame} (hg : g.method = m) (hd : decode c.code g.pc = .ok (.ldc index, 2))
    (k : own_Go p.tables e below G (T.setTop { g with pc := g.pc + 2, stack := .int v :: g.stack })) : own_Go p.tables e below G (T.setTop g) := by
  obtain ⟨locs, X, eT, N⟩ := A
  exact own_go (X.ldcInt hx hown (mvT hZ w) hg hd) k
theorem own_ldcwI (A : own_At p l e R s m args below meth c n0 T h cells slots) (hx : p.tables.exec = Jvm.exec) (hZ : Z.Warmed39 s.vm) {own : String} {index : Nat} {v : Int32} (hown : s.vm.findClass own = some m.cls) (w : (Cond.constant own index v).before a0 Z = true) {g : JFrame} (hg : g.method = m) (hd : decode c.code g.pc = .ok (.ldc_w index, 3))
    (k : own_Go p.tables e below G (T.setTop { g with pc := g.pc + 3, stack := .int v :: g.stack })) : own_Go p.tables e below G (T.setTop g) := by
  obtain ⟨locs, X, eT, N⟩ := A
  exact own_go (X.ldcwInt hx hown (mvT hZ w) hg hd) k
theorem own_ldcJ (A : own_At p l e R s m args below meth c n0 T h cells slots) (hx : p.tables.exec = Jvm.exec) (hZ : Z.Warmed39 s.vm) {own : String} {index : Nat} {v : Int64} (hown : s.vm.findClass own = some m.cls) (w : (Cond.constantLong own index v).before a0 Z = true) {g : JFrame} (hg : g.method = m) (hd : decode c.code g.pc = .ok (.ldc2_w index, 3))
    (k : own_Go p.tables e below G (T.setTop { g with pc := g.pc + 3, stack := .long v :: g.stack })) : own_Go p.tables e below G (T.setTop g) := by
  obtain ⟨locs, X, eT, N⟩ := A
  exact own_go (X.ldc2Long hx hown (mvT hZ w) hg hd) k
/-- irem, with Java's sign -/
theorem own_irem {tb : Tables} [Ours tb] {target : State} {g : JFrame} (hh : At T m c below) (hx : tb.exec = Jvm.exec) (hg : g.method = m) {x y : Int32} {rest : List Value} (hd : decode c.code g.pc = .ok (.irem, 1)) (hs : g.stack = .int y :: .int x :: rest) (hy : y ≠ 0)
    (hr : Steps tb e below (T.setTop { g with pc := g.pc + 1, stack := .int (x % y) :: rest }) target) : Steps tb e below (T.setTop g) target :=
  XS.irem hh hx hg hd hs hy (by rw [irem_eq_mod]; exact hr)
theorem own_lrem {tb : Tables} [Ours tb] {target : State} {g : JFrame} (hh : At T m c below) (hx : tb.exec = Jvm.exec) (hg : g.method = m) {x y : Int64} {rest : List Value} (hd : decode c.code g.pc = .ok (.lrem, 1)) (hs : g.stack = .long y :: .long x :: rest) (hy : y ≠ 0)
    (hr : Steps tb e below (T.setTop { g with pc := g.pc + 1, stack := .long (x % y) :: rest }) target) : Steps tb e below (T.setTop g) target :=
  XS.lrem hh hx hg hd hs hy (by rw [lrem_mod]; exact hr)
theorem own_aeq {a b : Addr} (h : a = b) : if_acmp.holds .eq (some a) (some b) = true ∧ if_acmp.holds .ne (some a) (some b) = false := by simp [if_acmp.holds, h]
theorem own_ane {a b : Addr} (h : ¬ a = b) : if_acmp.holds .eq (some a) (some b) = false ∧ if_acmp.holds .ne (some a) (some b) = true := by simp [if_acmp.holds, h]
end OwnKit
section OwnHeap
variable {p : Program} {l : Launch} {e : Env} {R : Room} {s : State} {m : MethodId} {args : Array Value} {below : List Frame} {meth : Method} {c : Code} {T : State} {cells slots : Nat} {Z : State} {a0 : Array Value} {h h' : Heap} {n0 : Nat} {G : State → Outcome → Prop} {a b : Addr} {ty : FieldType} {n j : Int32} {f : Int32 → Int32}
/-- an array of ints (bytes, chars, booleans, shorts): its length is n, its place i holds f i -/
def own_Arr (Z : State) (h : Heap) (a : Addr) (ty : FieldType) (n : Int32) (f : Int32 → Int32) : Prop :=
  ∃ cl : Cell, Arr Z h a cl ty ∧ cl.slots.size = n.toNatClampNeg ∧ ¬ n < 0 ∧ ∀ j : Int32, ¬ j < 0 → j < n → cl.slots[j.toNatClampNeg]? = some (.int (f j))
theorem own_Arr.lt (F : own_Arr Z h a ty n f) : a < h.size := by obtain ⟨_, A, -⟩ := F; exact A.lt
theorem own_Arr.ext (F : own_Arr Z h a ty n f) (E : Ext h h') : own_Arr Z h' a ty n f := by obtain ⟨c, A, r⟩ := F; exact ⟨c, A.ext E, r⟩
theorem own_Arr.other {sl : Nat} {v : Value} (F : own_Arr Z h b ty n f) (W : Wr h h' a sl v) (q : b ≠ a) : own_Arr Z h' b ty n f := by obtain ⟨c, A, r⟩ := F; exact ⟨c, A.other W q, r⟩
theorem own_Arr.keep {ws : List Addr} (F : own_Arr Z h a ty n f) (K : Keep h h' ws) (q : a ∉ ws) : own_Arr Z h' a ty n f := by obtain ⟨c, A, r⟩ := F; exact ⟨c, ⟨K.2.1 a c A.1 q, A.2⟩, r⟩
theorem own_Arr.nn (F : own_Arr Z h a ty n f) : ¬ n < 0 := by obtain ⟨_, -, -, q, -⟩ := F; exact q
theorem own_Arr.congr {f' : Int32 → Int32} (F : own_Arr Z h a ty n f) (q : ∀ i, ¬ i < 0 → i < n → f i = f' i) : own_Arr Z h a ty n f' := by
  obtain ⟨c, A, r1, r2, r3⟩ := F
  exact ⟨c, A, r1, r2, fun i hi hn => by rw [r3 i hi hn, q i hi hn]⟩
theorem own_same {i j : Int32} (hi : ¬ i < 0) (hj : ¬ j < 0) (e : i.toNatClampNeg = j.toNatClampNeg) : i = j := by
  apply Int32.toInt_inj.mp
  rw [nat_of hi, nat_of hj, e]
theorem own_Arr.set {v : Int32} (F : own_Arr Z h a ty n f) (hj : ¬ j < 0) (W : Wr h h' a j.toNatClampNeg (.int v)) : own_Arr Z h' a ty n (fun i => if i = j then v else f i) := by
  obtain ⟨c, A, r1, r2, r3⟩ := F
  refine ⟨c.setSlot j.toNatClampNeg (.int v), A.same W, by rw [sz_set]; exact r1, r2, fun i hi hn => ?_⟩
  have hin := inb_of r1 ⟨hi, hn⟩
  by_cases q : i = j
  · subst q
    show _ = some (Value.int (if i = i then v else f i))
    rw [get_hit hin rfl, if_pos rfl]
  · show _ = some (Value.int (if i = j then v else f i))
    rw [get_miss hj hi q, r3 i hi hn, if_neg q]
theorem own_newO (A : own_At p l e R s m args below meth c n0 T h cells slots) (hx : p.tables.exec = Jvm.exec) (hZ : Z.Warmed39 s.vm) {own C : String} {index k : Nat} (hown : s.vm.findClass own = some m.cls) (w : (Cond.classLink own index C).before a0 Z = true) (wi : (Cond.instantiable C k).before a0 Z = true) (wz : (Cond.initialized C).before a0 Z = true)
    {g : JFrame} (hg : g.method = m) (hd : decode c.code g.pc = .ok (.new index, 3)) (hc : cells + 1 ≤ R.cells) (hl : slots + k ≤ R.slots)
    (kk : ∀ T' h' a, a = h.size → own_At p l e R s m args below meth c n0 T' h' (cells + 1) (slots + k) → Ext h h' → Exa Z h' a C → (∀ {O nm d : String} {ty : FieldType}, Laid Z a0 C O nm d → parseFieldDescriptor d = some ty → Fld Z h' a O nm d (defaultValue ty)) → own_Go p.tables e below G (T'.setTop { g with pc := g.pc + 3, stack := .ref a :: g.stack })) : own_Go p.tables e below G (T.setTop g) := by
  obtain ⟨locs, X, eT, N⟩ := A
  obtain ⟨T1, h1, X1, e1, E1, A1, D1, -, st⟩ := newO X hx hZ hown w wi wz eT hg hd hc hl
  exact own_go st (kk T1 h1 h.size rfl ⟨_, X1, e1, N⟩ E1 A1 D1)
theorem own_newP (A : own_At p l e R s m args below meth c n0 T h cells slots) (hx : p.tables.exec = Jvm.exec) (hZ : Z.Warmed39 s.vm) {aty : ArrayType} (w : (Cond.arrayClass (newarray.typeOf aty)).before a0 Z = true) (hty : defaultValue (newarray.typeOf aty) = .int 0) {g : JFrame} (hg : g.method = m) (hd : decode c.code g.pc = .ok (.newarray aty, 2)) {rest : List Value} (hs : g.stack = .int n :: rest)
    (hn : ¬ n < 0) (cap : Nat) (hcap : n.toNatClampNeg ≤ cap) (hb : cap * 8 ≤ 536870912) (hc : cells + 1 ≤ R.cells) (hl : slots + cap ≤ R.slots)
    (kk : ∀ T' h' a, a = h.size → own_At p l e R s m args below meth c n0 T' h' (cells + 1) (slots + cap) → Ext h h' → own_Arr Z h' a (newarray.typeOf aty) n (fun _ => 0) → (∃ k, Arv Z h' a k (newarray.typeOf aty) n [] (.int 0)) → own_Go p.tables e below G (T'.setTop { g with pc := g.pc + 2, stack := .ref a :: rest })) : own_Go p.tables e below G (T.setTop g) := by
  obtain ⟨locs, X, eT, N⟩ := A
  obtain ⟨T1, h1, k1, X1, e1, E1, A1, st⟩ := newP X hx hZ w eT hg hd hs hn hcap hb hc hl
  refine own_go st (kk T1 h1 h.size rfl ⟨_, X1, e1, N⟩ E1 ⟨_, A1, sz_new _ _ _, hn, fun i hi hin => ?_⟩ ⟨k1, hty ▸ Arv.new A1 hn⟩)
  have q := inb_of (c := newA k1 (newarray.typeOf aty) n) (sz_new _ _ _) ⟨hi, hin⟩
  rw [sz_new] at q
  rw [get_new q, hty]
theorem own_putF (A : own_At p l e R s m args below meth c n0 T h cells slots) (hx : p.tables.exec = Jvm.exec) (hZ : Z.Warmed39 s.vm) {own R0 O nm d host C : String} {index kk : Nat} (hown : s.vm.findClass own = some m.cls) (w : (Cond.fieldLink own index R0 nm d).before a0 Z = true ∨ (Cond.fieldLinkNest own index R0 nm d host).before a0 Z = true) (via : Via Z R0 O nm d)
    {v old : Value} (F : Fld Z h a O nm d old) (E : Exa Z h a C) (L : (Cond.lays C O nm d).before a0 Z = true ∨ ((Cond.laysFinal C O nm d).before a0 Z = true ∧ own = O ∧ meth.name = "<init>")) (wi : (Cond.instantiable C kk).before a0 Z = true)
    (hty : parseFieldDescriptor d = some ty) (hn : narrow ty v = v) (hf : fits ty v = true) (q : n0 ≤ a) {g : JFrame} (hg : g.method = m) {rest : List Value} (hs : g.stack = v :: .ref a :: rest) (hd : decode c.code g.pc = .ok (.putfield index, 3))
    (k : ∀ T' h', own_At p l e R s m args below meth c n0 T' h' cells slots → Wr h h' a (Jvm.RoadKit.slotOf Z O nm d) v → own_Go p.tables e below G (T'.setTop { g with pc := g.pc + 3, stack := rest })) : own_Go p.tables e below G (T.setTop g) := by
  obtain ⟨locs, X, eT, N⟩ := A
  obtain ⟨T1, h1, X1, e1, W1, st⟩ := putF X hx hZ hown w via eT F E L wi hty hn hf hg hs hd
  exact own_go st (k T1 h1 ⟨_, X1, e1, Fr.snoc X1 N q⟩ W1)
theorem own_stI (A : own_At p l e R s m args below meth c n0 T h cells slots) (hx : p.tables.exec = Jvm.exec) (hZ : Z.Warmed39 s.vm) {v : Int32} (F : own_Arr Z h a .int n f) (hj : ¬ j < 0 ∧ j < n) (q : n0 ≤ a) {g : JFrame} (hg : g.method = m) {rest : List Value} (hs : g.stack = .int v :: .int j :: .ref a :: rest) (hd : decode c.code g.pc = .ok (.iastore, 1))
    (k : ∀ T' h', own_At p l e R s m args below meth c n0 T' h' cells slots → Wr h h' a j.toNatClampNeg (.int v) → own_Arr Z h' a .int n (fun i => if i = j then v else f i) → own_Go p.tables e below G (T'.setTop { g with pc := g.pc + 1, stack := rest })) : own_Go p.tables e below G (T.setTop g) := by
  obtain ⟨locs, X, eT, N⟩ := A
  obtain ⟨c1, A1, S1, M1, H1⟩ := id F
  obtain ⟨T1, h1, X1, e1, W1, st⟩ := stI X hx hZ eT A1 (inb_of S1 hj) hg hs hd
  exact own_go st (k T1 h1 ⟨_, X1, e1, Fr.snoc X1 N q⟩ W1 (F.set hj.1 W1))
theorem own_stB (A : own_At p l e R s m args below meth c n0 T h cells slots) (hx : p.tables.exec = Jvm.exec) (hZ : Z.Warmed39 s.vm) {v : Int32} (F : own_Arr Z h a .byte n f) (hj : ¬ j < 0 ∧ j < n) (q : n0 ≤ a) {g : JFrame} (hg : g.method = m) {rest : List Value} (hs : g.stack = .int v :: .int j :: .ref a :: rest) (hd : decode c.code g.pc = .ok (.bastore, 1))
    (k : ∀ T' h', own_At p l e R s m args below meth c n0 T' h' cells slots → Wr h h' a j.toNatClampNeg (.int (nar .byte v)) → own_Arr Z h' a .byte n (fun i => if i = j then nar .byte v else f i) → own_Go p.tables e below G (T'.setTop { g with pc := g.pc + 1, stack := rest })) : own_Go p.tables e below G (T.setTop g) := by
  obtain ⟨locs, X, eT, N⟩ := A
  obtain ⟨c1, A1, S1, M1, H1⟩ := id F
  obtain ⟨T1, h1, X1, e1, W1, st⟩ := stB X hx hZ eT A1 (inb_of S1 hj) hg hs hd
  exact own_go st (k T1 h1 ⟨_, X1, e1, Fr.snoc X1 N q⟩ W1 (F.set hj.1 W1))
theorem own_stC (A : own_At p l e R s m args below meth c n0 T h cells slots) (hx : p.tables.exec = Jvm.exec) (hZ : Z.Warmed39 s.vm) {v : Int32} (F : own_Arr Z h a .char n f) (hj : ¬ j < 0 ∧ j < n) (q : n0 ≤ a) {g : JFrame} (hg : g.method = m) {rest : List Value} (hs : g.stack = .int v :: .int j :: .ref a :: rest) (hd : decode c.code g.pc = .ok (.castore, 1))
    (k : ∀ T' h', own_At p l e R s m args below meth c n0 T' h' cells slots → Wr h h' a j.toNatClampNeg (.int (nar .char v)) → own_Arr Z h' a .char n (fun i => if i = j then nar .char v else f i) → own_Go p.tables e below G (T'.setTop { g with pc := g.pc + 1, stack := rest })) : own_Go p.tables e below G (T.setTop g) := by
  obtain ⟨locs, X, eT, N⟩ := A
  obtain ⟨c1, A1, S1, M1, H1⟩ := id F
  obtain ⟨T1, h1, X1, e1, W1, st⟩ := stC X hx hZ eT A1 (inb_of S1 hj) hg hs hd
  exact own_go st (k T1 h1 ⟨_, X1, e1, Fr.snoc X1 N q⟩ W1 (F.set hj.1 W1))
theorem own_ldI (A : own_At p l e R s m args below meth c n0 T h cells slots) (hx : p.tables.exec = Jvm.exec) (hZ : Z.Warmed39 s.vm) (F : own_Arr Z h a .int n f) (hj : ¬ j < 0 ∧ j < n) {g : JFrame} (hg : g.method = m) {rest : List Value} (hs : g.stack = .int j :: .ref a :: rest) (hd : decode c.code g.pc = .ok (.iaload, 1))
    (k : own_Go p.tables e below G (T.setTop { g with pc := g.pc + 1, stack := .int (f j) :: rest })) : own_Go p.tables e below G (T.setTop g) := by
  obtain ⟨locs, X, eT, N⟩ := A
  obtain ⟨c1, A1, S1, M1, H1⟩ := F
  exact own_go (fun t k => X.iaload hx (by rw [eT]; exact A1.1) (State.isArrayOf_alike hZ.alike A1.2.1) A1.2.2 (inb_of S1 hj) (H1 j hj.1 hj.2) hg hs hd t k) k
theorem own_ldB (A : own_At p l e R s m args below meth c n0 T h cells slots) (hx : p.tables.exec = Jvm.exec) (hZ : Z.Warmed39 s.vm) (F : own_Arr Z h a .byte n f) (hj : ¬ j < 0 ∧ j < n) {g : JFrame} (hg : g.method = m) {rest : List Value} (hs : g.stack = .int j :: .ref a :: rest) (hd : decode c.code g.pc = .ok (.baload, 1))
    (k : own_Go p.tables e below G (T.setTop { g with pc := g.pc + 1, stack := .int (f j) :: rest })) : own_Go p.tables e below G (T.setTop g) := by
  obtain ⟨locs, X, eT, N⟩ := A
  obtain ⟨c1, A1, S1, M1, H1⟩ := F
  exact own_go (fun t k => X.baloadBytes hx (by rw [eT]; exact A1.1) (State.isArrayOf_alike hZ.alike A1.2.1) A1.2.2 (inb_of S1 hj) (H1 j hj.1 hj.2) hg hs hd t k) k
theorem own_ldC (A : own_At p l e R s m args below meth c n0 T h cells slots) (hx : p.tables.exec = Jvm.exec) (hZ : Z.Warmed39 s.vm) (F : own_Arr Z h a .char n f) (hj : ¬ j < 0 ∧ j < n) {g : JFrame} (hg : g.method = m) {rest : List Value} (hs : g.stack = .int j :: .ref a :: rest) (hd : decode c.code g.pc = .ok (.caload, 1))
    (k : own_Go p.tables e below G (T.setTop { g with pc := g.pc + 1, stack := .int (f j) :: rest })) : own_Go p.tables e below G (T.setTop g) := by
  obtain ⟨locs, X, eT, N⟩ := A
  obtain ⟨c1, A1, S1, M1, H1⟩ := F
  exact own_go (fun t k => X.caload hx (by rw [eT]; exact A1.1) (State.isArrayOf_alike hZ.alike A1.2.1) A1.2.2 (inb_of S1 hj) (H1 j hj.1 hj.2) hg hs hd t k) k
theorem own_len (A : own_At p l e R s m args below meth c n0 T h cells slots) (hx : p.tables.exec = Jvm.exec) (hZ : Z.Warmed39 s.vm) (F : own_Arr Z h a ty n f) {g : JFrame} (hg : g.method = m) {rest : List Value} (hs : g.stack = .ref a :: rest) (hd : decode c.code g.pc = .ok (.arraylength, 1))
    (k : own_Go p.tables e below G (T.setTop { g with pc := g.pc + 1, stack := .int n :: rest })) : own_Go p.tables e below G (T.setTop g) := by
  obtain ⟨locs, X, eT, N⟩ := A
  obtain ⟨c1, A1, S1, M1, H1⟩ := F
  rw [← len_of S1 M1] at k
  exact own_go (fun t k => X.arraylength hx (by rw [eT]; exact A1.1) (State.isArrayOf_alike hZ.alike A1.2.1) hg hs hd t k) k
end OwnHeap
/-! small naturals as ints -/
theorem own_nI {i : Nat} (hi : i < 2 ^ 31) : (Int32.ofNat i).toInt = (i : Int) := Int32.toInt_ofNat_small hi
theorem own_nlt {i j : Nat} (hi : i < 2 ^ 31) (hj : j < 2 ^ 31) : (Int32.ofNat i < Int32.ofNat j) ↔ i < j := by rw [Int32.lt_iff_toInt_lt, own_nI hi, own_nI hj]; omega
theorem own_nn {i : Nat} (hi : i < 2 ^ 31) : ¬ Int32.ofNat i < 0 := by rw [Int32.lt_iff_toInt_lt, own_nI hi]; have : (0 : Int32).toInt = 0 := rfl; omega
theorem own_neq {i j : Nat} (hi : i < 2 ^ 31) (hj : j < 2 ^ 31) : (Int32.ofNat i = Int32.ofNat j) ↔ i = j := by rw [← Int32.toInt_inj, own_nI hi, own_nI hj]; omega
theorem own_nadd (i j : Nat) : Int32.ofNat i + Int32.ofNat j = Int32.ofNat (i + j) := (Int32.ofNat_add i j).symm
theorem own_nmul (i j : Nat) : Int32.ofNat i * Int32.ofNat j = Int32.ofNat (i * j) := (Int32.ofNat_mul i j).symm
theorem own_succ (i : Nat) : Int32.ofNat i + (1 : Int32) = Int32.ofNat (i + 1) := own_nadd i 1
theorem own_dbl (i : Nat) : (2 : Int32) * Int32.ofNat i = Int32.ofNat (2 * i) := own_nmul 2 i
theorem own_prd (i : Nat) : Int32.ofNat (i + 1) + (-1 : Int32) = Int32.ofNat i := by rw [← own_succ, Int32.add_assoc]; show Int32.ofNat i + 0 = _; rw [Int32.add_zero]
theorem own_sub1 (i : Nat) : Int32.ofNat (i + 1) - (1 : Int32) = Int32.ofNat i := by rw [← own_succ, Int32.add_sub_cancel]
theorem own_nge {i j : Nat} (hi : i < 2 ^ 31) (hj : j < 2 ^ 31) (h : ¬ Int32.ofNat i < Int32.ofNat j) : j ≤ i := Nat.le_of_not_lt fun z => h ((own_nlt hi hj).mpr z)
section OwnW
variable {p : Program} {l : Launch} {e : Env} {R : Room} {s : State} {m : MethodId} {args : Array Value} {below : List Frame} {meth : Method} {c : Code} {T : State} {cells slots : Nat} {Z : State} {a0 : Array Value} {h : Heap} {n0 : Nat} {G : State → Outcome → Prop} {Q : Option Value → Heap → Prop} {vm0 : Vm} {k0 kc ks : Nat} {Ts : List String}
/-- the end of a body that may have interned -/
def own_EndW (n0 : Nat) (s : State) (kc ks : Nat) (Q : Option Value → Heap → Prop) : State → Outcome → Prop := fun s₂ o => ∃ v L, o = .returned v ∧ (Q v s₂.heap ∧ Fr n0 L) ∧ ReturnedEndW s o s₂ L kc ks
theorem own_leaveW (A : own_At p l e R (s.setVm vm0) m args below meth c n0 T h cells slots) (hS : s.Since vm0 k0) (hk : k0 ≤ h.size) {v : Option Value} (hv : meth.sig.returnType = none → v = none) (hlk : meth.locks = false) (hc : cells ≤ kc) (hs : slots ≤ ks) (q : Q v h) {U : State}
    (st : ∀ locs, Stand p l e R (s.setVm vm0) m args below meth c T locs cells slots → ∀ fs, (∀ (f : JFrame) (acts : List Action), f.method = m → f.locked = none → f.entered = [] → (doReturn e (T.setTop f) acts v).1 = T.setFrames fs) → Steps p.tables e below U (T.setFrames fs)) : own_Go p.tables e below (own_EndW n0 s kc ks Q) U := by
  obtain ⟨locs, X, rfl, N⟩ := A
  obtain ⟨fs, hr, hrun, hended, e1, e2, e3, e4⟩ := X.leaveW hS hk hv hlk
  exact ⟨_, _, st locs X fs hr, hrun, hended, _, _, rfl, ⟨q, N⟩, e1, e2, e3, e4.mono hc hs⟩
theorem own_retNW (A : own_At p l e R (s.setVm vm0) m args below meth c n0 T h cells slots) (hx : p.tables.exec = Jvm.exec) {t : FieldType} (hret : meth.sig.returnType = some t) (ht : t = .boolean ∨ t = .byte ∨ t = .char ∨ t = .short) (hlk : meth.locks = false) (hc : cells ≤ kc) (hs : slots ≤ ks) (hS : s.Since vm0 k0) (hk : k0 ≤ h.size) {pc : Nat} {Ls : Array Slot} {z : Int32} {rest : List Value} (hd : decode c.code pc = .ok (.ireturn, 1)) (q : Q (some (.int (nar t z))) h) :
    own_Go p.tables e below (own_EndW n0 s kc ks Q) (T.setTop (mkF m pc Ls (.int z :: rest))) :=
  own_leaveW A hS hk (fun q => by rw [hret] at q; cases q) hlk hc hs q fun _ X _ hr => retN X hx hret ht hd hr
/-- a contract of a body that may intern: Ts are the texts that the run has loaded before -/
def own_MetW (l : Launch) (Z : State) (n0 : Nat) (y : MethodName) (bytes : ByteArray) (maxL : Nat) (ret : Option FieldType) (rm : Room) (as' : Array Value) (h0 : Heap) (Ts : List String) (Q : Option Value → Heap → Prop) : Prop :=
  ∀ ws, MetFree l y (head1 (Cond.code y bytes maxL ret :: ws) rm) (fun a U => a = as' ∧ Z.Warmed39 U.vm ∧ U.heap = h0 ∧ IB Z U.vm Ts) (fun _ _ _ _ _ => True) (fun _ U o U' => ∃ v L, o = .returned v ∧ (Q v U'.heap ∧ Fr n0 L) ∧ ReturnedEndW U o U' L rm.cells rm.slots)
theorem own_metW {y : MethodName} {bytes : ByteArray} {maxL : Nat} {ret : Option FieldType} {rm : Room} {as' : Array Value} {h0 : Heap} (hp : plainFor y = true)
    (body : ∀ (p : Program) (e : Env) (s : State) (m : MethodId) (below : List Frame) (meth : Method) (c : Code) (T : State), p.tables.exec = Jvm.exec → c.code = bytes → c.maxLocals = maxL → (s.setVm s.vm).vm.findClass y.cls = some m.cls → meth.name = y.name → meth.sig.returnType = ret → meth.locks = false → Z.Warmed39 (s.setVm s.vm).vm →
      own_At p l e rm (s.setVm s.vm) m as' below meth c n0 T h0 0 0 → s.heap = h0 → s.Since s.vm 0 → IB Z s.vm Ts → own_Go p.tables e below (own_EndW n0 s rm.cells rm.slots Q) (T.setTop (entryFrame m as' maxL))) : own_MetW l Z n0 y bytes maxL ret rm as' h0 Ts Q := by
  intro ws
  refine MetFree.of_bodySF hp hisR ?_
  intro p e s m args below meth c s₁ Bd hml0 hP hK
  obtain ⟨rfl, hZ, hh, hI⟩ := hP
  exact body p e s m below meth c s₁ Bd.exec Bd.bytes hml0 (findClass_of_methodNamed Bd.named) (name_of_methodNamed Bd.named Bd.method).1 Bd.returns Bd.notSynchronized hZ ⟨[], Stand.of_body Bd, by rw [← hh, Bd.state]; rfl, Fr.nil n0⟩ hh ((State.WarmedH.refl s).since 0) hI
theorem own_Arr.ofL {b : Addr} {ty : FieldType} {k : ClassId} {z : Int32} {xs : List Int32} {d : Value} (V : Arv Z h b k ty z (xs.map Value.int) d) (hl : z.toNatClampNeg = xs.length) : own_Arr Z h b ty z (fun j => xs.getD j.toNatClampNeg 0) := by
  obtain ⟨cl, A, -, S, M, H, -⟩ := V
  refine ⟨cl, A, S, M, fun j h0 h1 => ?_⟩
  have hj : j.toNatClampNeg < cl.slots.size := by
    have q := inb_of S ⟨h0, h1⟩
    exact Nat.lt_of_not_le fun z => q (Or.inr z)
  have q := H j.toNatClampNeg hj
  show _ = some (Value.int (xs.getD j.toNatClampNeg 0))
  rw [q, List.getD_eq_getElem?_getD, List.getElem?_map, List.getD_eq_getElem?_getD]
  rw [S, hl] at hj
  rw [List.getElem?_eq_getElem hj]
  rfl
/-- ldc of a String constant, cold or warm: what lies behind it -/
theorem own_ldcV (A : own_At p l e R (s.setVm vm0) m args below meth c n0 T h cells slots) (hx : p.tables.exec = Jvm.exec) (hZ : Z.Warmed39 (s.setVm vm0).vm) {own text : String} {index : Nat} (hown : (s.setVm vm0).vm.findClass own = some m.cls) (w : (Cond.stringLink own index text).before a0 Z = true) (wS : ∀ a ∈ Bundle.stringAtoms, a.before a0 Z = true)
    (hS : s.Since vm0 k0) (hk : k0 ≤ h.size) (hn0 : s.heap.size ≤ n0) (hkeep : ∀ (b : Addr) (cl : Cell), Z.heap[b]? = some cl → s.heap[b]? = some cl) (I : IB Z vm0 Ts) (hnot : text ∉ Ts) (hh : Jvm.Lit.constHeld Z own index) (hcw : Jvm.Lit.compactW.before a0 Z = true)
    {xs : List Int32} {z : Int32} (ht : (∀ c ∈ text.toList, c.toNat < 256) ∧ text.toList.map (fun c => Value.int (Jvm.Lit.byteI c.toNat.toUInt16)) = xs.map Value.int) (hz : ¬ z < 0) (hl : z.toNatClampNeg = xs.length)
    {g : JFrame} (hg : g.method = m) (hd : decode c.code g.pc = .ok (.ldc index, 2)) (n : Nat) (hn : 4 * text.toList.length ≤ n) (hbig : n ≤ 536870912) (hc : cells + 2 ≤ R.cells) (hl' : slots + (n + 4) ≤ R.slots)
    (k : ∀ T' h' a b vm1 k1, own_At p l e R (s.setVm vm1) m args below meth c n0 T' h' (cells + 2) (slots + (n + 4)) → Ext h h' → s.Since vm1 k1 → k1 ≤ h'.size → Z.Warmed39 (s.setVm vm1).vm → (s.setVm vm1).vm.findClass own = some m.cls → IB Z vm1 (text :: Ts) →
      Exa Z h' a "java/lang/String" → Fld Z h' a "java/lang/String" "coder" "B" (.int 0) → Fld Z h' a "java/lang/String" "value" "[B" (.ref b) → own_Arr Z h' b .byte z (fun j => xs.getD j.toNatClampNeg 0) → own_Go p.tables e below G (T'.setTop { g with pc := g.pc + 2, stack := .ref a :: g.stack })) : own_Go p.tables e below G (T.setTop g) := by
  obtain ⟨locs, X, eT, N⟩ := A
  obtain ⟨a, T', h', k1, b, kk, r1, r2, r3, r4, r5, r6, r7, r8, r9, r10, r11, r12, r13, r14, r15⟩ := ldcSV X hx hZ hown w wS eT hS hk (fun y hy => Nat.le_trans hn0 (N y hy)) hkeep I hnot hh hcw ht hz (by rw [List.length_map]; exact hl) hg hd hn hbig hc hl'
  exact own_go r15 (k T' h' a b T'.vm k1 ⟨_, r1, r2, N⟩ r3 r4 r5 r6 r7 r14 r8 r9 r10 (own_Arr.ofL r11 hl))
end OwnW
section OwnC
variable {p : Program} {l : Launch} {e : Env} {R : Room} {s : State} {m : MethodId} {args : Array Value} {below : List Frame} {meth : Method} {c : Code} {T : State} {cells slots : Nat} {Z : State} {a0 : Array Value} {h h0 : Heap} {n0 : Nat} {G : State → Outcome → Prop} {Q : Option Value → Heap → Prop} {vm0 : Vm} {k0 kc ks : Nat} {EL : List (String × Nat)}
/-- the end of a body that may have interned; what the table books of EL's entries is as it should be -/
def own_EndC (Z : State) (EL : List (String × Nat)) (n0 : Nat) (s : State) (kc ks : Nat) (Q : Option Value → Heap → Prop) : State → Outcome → Prop := fun s₂ o => ∃ v L, o = .returned v ∧ (Q v s₂.heap ∧ Fr n0 L) ∧ CHr Z EL s.vm s.heap s₂.vm s₂.heap ∧ ReturnedEndW s o s₂ L kc ks
theorem own_leaveC (A : own_At p l e R (s.setVm vm0) m args below meth c n0 T h cells slots) (hZ : Z.Warmed39 (s.setVm vm0).vm) (hEL : EW Z a0 EL) (hs0 : s.heap = h0) (C : CHr Z EL s.vm h0 vm0 h) (hS : s.Since vm0 k0) (hk : k0 ≤ h.size) {v : Option Value} (hv : meth.sig.returnType = none → v = none) (hlk : meth.locks = false) (hc : cells ≤ kc) (hs : slots ≤ ks) (q : Q v h) {U : State}
    (st : ∀ locs, Stand p l e R (s.setVm vm0) m args below meth c T locs cells slots → ∀ fs, (∀ (f : JFrame) (acts : List Action), f.method = m → f.locked = none → f.entered = [] → (doReturn e (T.setTop f) acts v).1 = T.setFrames fs) → Steps p.tables e below U (T.setFrames fs)) : own_Go p.tables e below (own_EndC Z EL n0 s kc ks Q) U := by
  obtain ⟨locs, X, rfl, N⟩ := A
  obtain ⟨fs, hr, hrun, hended, e1, e2, e3, e4⟩ := X.leaveW hS hk hv hlk
  refine ⟨_, _, st locs X fs hr, hrun, hended, _, _, rfl, ⟨q, N⟩, ?_, e1, e2, e3, e4.mono hc hs⟩
  rw [hs0]
  show CHr Z EL s.vm h0 T.vm T.heap
  exact C.trans (CHv.at X hZ hEL C.1)
theorem own_retNC (A : own_At p l e R (s.setVm vm0) m args below meth c n0 T h cells slots) (hx : p.tables.exec = Jvm.exec) {t : FieldType} (hret : meth.sig.returnType = some t) (ht : t = .boolean ∨ t = .byte ∨ t = .char ∨ t = .short) (hlk : meth.locks = false) (hc : cells ≤ kc) (hs : slots ≤ ks) (hZ : Z.Warmed39 (s.setVm vm0).vm) (hEL : EW Z a0 EL) (hs0 : s.heap = h0) (C : CHr Z EL s.vm h0 vm0 h) (hS : s.Since vm0 k0) (hk : k0 ≤ h.size) {pc : Nat} {Ls : Array Slot} {z : Int32} {rest : List Value} (hd : decode c.code pc = .ok (.ireturn, 1)) (q : Q (some (.int (nar t z))) h) :
    own_Go p.tables e below (own_EndC Z EL n0 s kc ks Q) (T.setTop (mkF m pc Ls (.int z :: rest))) :=
  own_leaveC A hZ hEL hs0 C hS hk (fun q => by rw [hret] at q; cases q) hlk hc hs q fun _ X _ hr => retN X hx hret ht hd hr
theorem own_retAC (A : own_At p l e R (s.setVm vm0) m args below meth c n0 T h cells slots) (hx : p.tables.exec = Jvm.exec) {t : FieldType} (hret : meth.sig.returnType = some t) (ht : t.isReference = true) (hlk : meth.locks = false) (hc : cells ≤ kc) (hs : slots ≤ ks) (hZ : Z.Warmed39 (s.setVm vm0).vm) (hEL : EW Z a0 EL) (hs0 : s.heap = h0) (C : CHr Z EL s.vm h0 vm0 h) (hS : s.Since vm0 k0) (hk : k0 ≤ h.size) {pc : Nat} {Ls : Array Slot} {w : Value} (hw : w.isRef = true) {rest : List Value} (hd : decode c.code pc = .ok (.areturn, 1)) (q : Q (some w) h) :
    own_Go p.tables e below (own_EndC Z EL n0 s kc ks Q) (T.setTop (mkF m pc Ls (w :: rest))) :=
  own_leaveC A hZ hEL hs0 C hS hk (fun q => by rw [hret] at q; cases q) hlk hc hs q fun _ X _ hr => retOut X hx hret (by cases t <;> first | rfl | cases ht) (Or.inr (Or.inr (Or.inr (Or.inr ⟨rfl, ht, hw⟩)))) hd hr
def own_MetC (l : Launch) (Z : State) (EL : List (String × Nat)) (n0 : Nat) (y : MethodName) (bytes : ByteArray) (maxL : Nat) (ret : Option FieldType) (rm : Room) (as' : Array Value) (h0 : Heap) (Q : Option Value → Heap → Prop) : Prop :=
  ∀ ws, MetFree l y (head1 (Cond.code y bytes maxL ret :: ws) rm) (fun a U => a = as' ∧ Z.Warmed39 U.vm ∧ U.heap = h0 ∧ CHv Z EL U.vm h0) (fun _ _ _ _ _ => True) (fun _ U o U' => ∃ v L, o = .returned v ∧ (Q v U'.heap ∧ Fr n0 L) ∧ CHr Z EL U.vm U.heap U'.vm U'.heap ∧ ReturnedEndW U o U' L rm.cells rm.slots)
theorem own_metC {y : MethodName} {bytes : ByteArray} {maxL : Nat} {ret : Option FieldType} {rm : Room} {as' : Array Value} {h0 : Heap} (hp : plainFor y = true)
    (body : ∀ (p : Program) (e : Env) (s : State) (m : MethodId) (below : List Frame) (meth : Method) (c : Code) (T : State), p.tables.exec = Jvm.exec → c.code = bytes → c.maxLocals = maxL → (s.setVm s.vm).vm.findClass y.cls = some m.cls → meth.name = y.name → meth.sig.returnType = ret → meth.locks = false → Z.Warmed39 (s.setVm s.vm).vm →
      own_At p l e rm (s.setVm s.vm) m as' below meth c n0 T h0 0 0 → s.heap = h0 → s.Since s.vm 0 → CHr Z EL s.vm h0 s.vm h0 → own_Go p.tables e below (own_EndC Z EL n0 s rm.cells rm.slots Q) (T.setTop (entryFrame m as' maxL))) : own_MetC l Z EL n0 y bytes maxL ret rm as' h0 Q := by
  intro ws
  refine MetFree.of_bodySF hp hisR ?_
  intro p e s m args below meth c s₁ Bd hml0 hP hK
  obtain ⟨rfl, hZ, hh, hI⟩ := hP
  exact body p e s m below meth c s₁ Bd.exec Bd.bytes hml0 (findClass_of_methodNamed Bd.named) (name_of_methodNamed Bd.named Bd.method).1 Bd.returns Bd.notSynchronized hZ ⟨[], Stand.of_body Bd, by rw [← hh, Bd.state]; rfl, Fr.nil n0⟩ hh ((State.WarmedH.refl s).since 0) (CHr.refl hI)
/-- ldc of a String constant of EL: what lies behind it -/
theorem own_ldcC (A : own_At p l e R (s.setVm vm0) m args below meth c n0 T h cells slots) (hx : p.tables.exec = Jvm.exec) (hZ : Z.Warmed39 (s.setVm vm0).vm) {own text : String} {index : Nat} (hown : (s.setVm vm0).vm.findClass own = some m.cls) (w : (Cond.stringLink own index text).before a0 Z = true) (wS : ∀ a ∈ Bundle.stringAtoms, a.before a0 Z = true)
    (hEL : EW Z a0 EL) (hmem : (own, index) ∈ EL) (C : CHr Z EL s.vm h0 vm0 h) (hS : s.Since vm0 k0) (hk : k0 ≤ h.size)
    {xs : List Int32} {z : Int32} (ht : (∀ c ∈ text.toList, c.toNat < 256) ∧ text.toList.map (fun c => Value.int (Jvm.Lit.byteI c.toNat.toUInt16)) = xs.map Value.int) (hz : ¬ z < 0) (hl : z.toNatClampNeg = xs.length)
    {g : JFrame} (hg : g.method = m) (hd : decode c.code g.pc = .ok (.ldc index, 2)) (n : Nat) (hn : 4 * text.toList.length ≤ n) (hbig : n ≤ 536870912) (hc : cells + 2 ≤ R.cells) (hl' : slots + (n + 4) ≤ R.slots)
    (k : ∀ T' h' a b vm1 k1, own_At p l e R (s.setVm vm1) m args below meth c n0 T' h' (cells + 2) (slots + (n + 4)) → Ext h h' → CHr Z EL vm0 h vm1 h' → s.Since vm1 k1 → k1 ≤ h'.size → Z.Warmed39 (s.setVm vm1).vm → (s.setVm vm1).vm.findClass own = some m.cls → (∀ x, Safe Z EL vm1 h' x → x ≠ a ∧ x ≠ b) →
      Exa Z h' a "java/lang/String" → Fld Z h' a "java/lang/String" "coder" "B" (.int 0) → Fld Z h' a "java/lang/String" "value" "[B" (.ref b) → own_Arr Z h' b .byte z (fun j => xs.getD j.toNatClampNeg 0) → own_Go p.tables e below G (T'.setTop { g with pc := g.pc + 2, stack := .ref a :: g.stack })) : own_Go p.tables e below G (T.setTop g) := by
  obtain ⟨locs, X, eT, N⟩ := A
  obtain ⟨a, T', h', k1, b, kk, r1, r2, r3, r4, r5, r6, r7, r8, r9, r10, r11, -, -, r14, -, r16, r15⟩ := ldcCH X hx hZ hown w wS eT hS hk hEL hmem C.1 ht hz (by rw [List.length_map]; exact hl) hg hd hn hbig hc hl'
  exact own_go r15 (k T' h' a b T'.vm k1 ⟨_, r1, r2, N⟩ r3 r14 r4 r5 r6 r7 r16 r8 r9 r10 (own_Arr.ofL r11 hl))
theorem own_callSC (A : own_At p l e R (s.setVm vm0) m args below meth c n0 T h cells slots) (hx : p.tables.exec = Jvm.exec) (hZ : Z.Warmed39 (s.setVm vm0).vm) {own : String} {index : Nat} {y : MethodName} {bytes : ByteArray} {maxL : Nat} {ret : Option FieldType} (hown : (s.setVm vm0).vm.findClass own = some m.cls)
    (w1 : (Cond.methodLink own index y).before a0 Z = true) (w2 : (Cond.static y).before a0 Z = true) (w3 : (Cond.initialized y.cls).before a0 Z = true) (w4 : (Cond.code y bytes maxL ret).before a0 Z = true) (hy : y.cls ≠ "java/lang/invoke/MethodHandle" ∧ y.cls ≠ "java/lang/invoke/VarHandle")
    (hEL : EW Z a0 EL) (C : CHr Z EL s.vm h0 vm0 h) (hS : s.Since vm0 k0) (hk : k0 ≤ h.size)
    {rm : Room} {argsL rest : List Value} (hM : own_MetC l Z EL n0 y bytes maxL ret rm argsL.toArray h Q) (W : Nat) (hfr : rm.frames + 1 ≤ R.frames) (hlo : W + (maxL + 11) + rm.locals ≤ R.locals) {g : JFrame} (hg : g.method = m) (hsize : g.locals.size = c.maxLocals)
    (hlen : ∀ sig, parseMethodDescriptor y.desc = some sig → argsL.length = sig.parameters.length) (hs : g.stack = argsL.reverse ++ rest) (hW : 2 * g.monitorRoom + (rest.map fun v => v.category).sum ≤ W) (hd : decode c.code g.pc = .ok (.invokestatic index, 3))
    (hc : cells + rm.cells ≤ R.cells) (hl : slots + rm.slots ≤ R.slots)
    (k : ∀ v T' h' vm1 k1, own_At p l e R (s.setVm vm1) m args below meth c n0 T' h' (cells + rm.cells) (slots + rm.slots) → Q v h' → CHr Z EL vm0 h vm1 h' → s.Since vm1 k1 → k1 ≤ h'.size → Z.Warmed39 (s.setVm vm1).vm → (s.setVm vm1).vm.findClass own = some m.cls → own_Go p.tables e below G (T'.setTop { g with pc := g.pc + 3, stack := v.toList ++ rest })) : own_Go p.tables e below G (T.setTop g) := by
  obtain ⟨locs, X, eT, N⟩ := A
  obtain ⟨v, _, ⟨T1, L1, k1, s1⟩, -, X1, hS1, hg1, ⟨Lc, ⟨hQ, N1⟩, l1, y1, z1, hC⟩, st⟩ := Jvm.RoadKit.callSS X hx (y := y) hown (mvT hZ w1) (mvT hZ w2) (mvT hZ w3) (mvT hZ w4) hy (backOfSH (Q := fun v h L => Q v h ∧ Fr n0 L) (W := W) (hM []) hZ w4 w3 hfr hlo hEL C.1) hg hsize (argsL := argsL) (rest := rest) hlen hs hW hd (fun _ _ => ⟨rfl, eT, hc, hl⟩)
  dsimp only [Pt.U, Pt.locs, Pt.cells, Pt.slots] at X1 hS1 hg1 l1 y1 z1 st hQ hC
  subst l1 y1 z1
  obtain ⟨r1, r2, r3, r4⟩ := rebS hS (eT ▸ hk) X1 hS1 hg1 hZ hown
  exact own_go (fun t k => st.trans k) (k v T1 T1.heap T1.vm _ ⟨_, r1, rfl, N.app N1⟩ hQ hC r2 (Nat.le_refl _) r3 r4)
theorem own_callVC (A : own_At p l e R (s.setVm vm0) m args below meth c n0 T h cells slots) (hx : p.tables.exec = Jvm.exec) (hZ : Z.Warmed39 (s.setVm vm0).vm) {own C' : String} {index : Nat} {y z : MethodName} {bytes : ByteArray} {maxL : Nat} {ret : Option FieldType} (hown : (s.setVm vm0).vm.findClass own = some m.cls)
    (w1 : (Cond.methodLink own index y).before a0 Z = true) (w2 : (Cond.declares y).before a0 Z = true) (w3 : (Cond.selects C' y z).before a0 Z = true) (w4 : (Cond.instanceMethod z).before a0 Z = true) (w5 : (Cond.initialized z.cls).before a0 Z = true) (w6 : (Cond.code z bytes maxL ret).before a0 Z = true) (nf : NotFace (s.setVm vm0) y)
    (hy : y.cls ≠ "java/lang/invoke/MethodHandle" ∧ y.cls ≠ "java/lang/invoke/VarHandle") (hEL : EW Z a0 EL) (C : CHr Z EL s.vm h0 vm0 h) (hS : s.Since vm0 k0) (hk : k0 ≤ h.size)
    {rm : Room} {b : Addr} {argsL rest : List Value} (E : Exa Z h b C') (hM : own_MetC l Z EL n0 z bytes maxL ret rm (.ref b :: argsL).toArray h Q) (W : Nat) (hfr : rm.frames + 1 ≤ R.frames) (hlo : W + (maxL + 11) + rm.locals ≤ R.locals) {g : JFrame} (hg : g.method = m) (hsize : g.locals.size = c.maxLocals)
    (hlen : ∀ sig, parseMethodDescriptor y.desc = some sig → argsL.length = sig.parameters.length) (hs : g.stack = argsL.reverse ++ .ref b :: rest) (hW : 2 * g.monitorRoom + (rest.map fun v => v.category).sum ≤ W) (hd : decode c.code g.pc = .ok (.invokevirtual index, 3))
    (hc : cells + rm.cells ≤ R.cells) (hl : slots + rm.slots ≤ R.slots)
    (k : ∀ v T' h' vm1 k1, own_At p l e R (s.setVm vm1) m args below meth c n0 T' h' (cells + rm.cells) (slots + rm.slots) → Q v h' → CHr Z EL vm0 h vm1 h' → s.Since vm1 k1 → k1 ≤ h'.size → Z.Warmed39 (s.setVm vm1).vm → (s.setVm vm1).vm.findClass own = some m.cls → own_Go p.tables e below G (T'.setTop { g with pc := g.pc + 3, stack := v.toList ++ rest })) : own_Go p.tables e below G (T.setTop g) := by
  obtain ⟨locs, X, eT, N⟩ := A
  obtain ⟨cq, kq, qa, qb, qc⟩ := isOf hZ eT E
  obtain ⟨v, _, ⟨T1, L1, k1, s1⟩, -, X1, hS1, hg1, ⟨Lc, ⟨hQ, N1⟩, l1, y1, z1, hC⟩, st⟩ := X.virtualBackS hx (y := y) (z := z) hown (mvT hZ w1) (mvT hZ w2) nf (mvT hZ w3) (mvT hZ w4) hy (backOfSH (Q := fun v h L => Q v h ∧ Fr n0 L) (W := W) (hM []) hZ w6 w5 hfr hlo hEL C.1) qa qc hg hsize (Steps.refl _) (argsL := argsL) (rest := rest) hlen hs hW hd (fun _ _ => ⟨rfl, eT, hc, hl⟩)
  dsimp only [Pt.U, Pt.locs, Pt.cells, Pt.slots] at X1 hS1 hg1 l1 y1 z1 st hQ hC
  subst l1 y1 z1
  obtain ⟨r1, r2, r3, r4⟩ := rebS hS (eT ▸ hk) X1 hS1 hg1 hZ hown
  exact own_go (fun t k => st.trans k) (k v T1 T1.heap T1.vm _ ⟨_, r1, rfl, N.app N1⟩ hQ hC r2 (Nat.le_refl _) r3 r4)
end OwnC
section OwnLitC
variable {p : Program} {l : Launch} {e : Env} {R : Room} {s : State} {m : MethodId} {args : Array Value} {below : List Frame} {meth : Method} {c : Code} {T : State} {cells slots : Nat} {Z : State} {a0 : Array Value} {h h0 : Heap} {n0 : Nat} {G : State → Outcome → Prop} {vm0 : Vm} {k0 : Nat} {EL : List (String × Nat)}
/-- ldc of a String constant of EL: what lies behind it, and what the table books -/
theorem own_ldcL (A : own_At p l e R (s.setVm vm0) m args below meth c n0 T h cells slots) (hx : p.tables.exec = Jvm.exec) (hZ : Z.Warmed39 (s.setVm vm0).vm) {own text : String} {index : Nat} (hown : (s.setVm vm0).vm.findClass own = some m.cls) (w : (Cond.stringLink own index text).before a0 Z = true) (wS : ∀ a ∈ Bundle.stringAtoms, a.before a0 Z = true)
    (hEL : EW Z a0 EL) (hmem : (own, index) ∈ EL) (C : CHr Z EL s.vm h0 vm0 h) (hS : s.Since vm0 k0) (hk : k0 ≤ h.size)
    {xs : List Int32} {z : Int32} (ht : (∀ c ∈ text.toList, c.toNat < 256) ∧ text.toList.map (fun c => Value.int (Jvm.Lit.byteI c.toNat.toUInt16)) = xs.map Value.int) (hz : ¬ z < 0) (hl : z.toNatClampNeg = xs.length)
    {g : JFrame} (hg : g.method = m) (hd : decode c.code g.pc = .ok (.ldc index, 2)) (n : Nat) (hn : 4 * text.toList.length ≤ n) (hbig : n ≤ 536870912) (hc : cells + 2 ≤ R.cells) (hl' : slots + (n + 4) ≤ R.slots)
    (k : ∀ T' h' a b vm1 k1, own_At p l e R (s.setVm vm1) m args below meth c n0 T' h' (cells + 2) (slots + (n + 4)) → Ext h h' → CHr Z EL vm0 h vm1 h' → s.Since vm1 k1 → k1 ≤ h'.size → Z.Warmed39 (s.setVm vm1).vm → (s.setVm vm1).vm.findClass own = some m.cls → (∀ x, Safe Z EL vm1 h' x → x ≠ a ∧ x ≠ b) → Lit (s.setVm vm1) own index a →
      Exa Z h' a "java/lang/String" → Fld Z h' a "java/lang/String" "coder" "B" (.int 0) → Fld Z h' a "java/lang/String" "value" "[B" (.ref b) → own_Arr Z h' b .byte z (fun j => xs.getD j.toNatClampNeg 0) → own_Go p.tables e below G (T'.setTop { g with pc := g.pc + 2, stack := .ref a :: g.stack })) : own_Go p.tables e below G (T.setTop g) := by
  obtain ⟨locs, X, eT, N⟩ := A
  obtain ⟨a, T', h', k1, b, kk, r1, r2, r3, r4, r5, r6, r7, r8, r9, r10, r11, -, -, r14, rL, r16, r15⟩ := ldcCH X hx hZ hown w wS eT hS hk hEL hmem C.1 ht hz (by rw [List.length_map]; exact hl) hg hd hn hbig hc hl'
  exact own_go r15 (k T' h' a b T'.vm k1 ⟨_, r1, r2, N⟩ r3 r14 r4 r5 r6 r7 r16 rL r8 r9 r10 (own_Arr.ofL r11 hl))
/-- a second load of an entry: the same object, and nothing moves -/
theorem own_ldcA (A : own_At p l e R (s.setVm vm0) m args below meth c n0 T h cells slots) (hx : p.tables.exec = Jvm.exec) (hZ : Z.Warmed39 (s.setVm vm0).vm) {own text : String} {index : Nat} (hown : (s.setVm vm0).vm.findClass own = some m.cls) (w : (Cond.stringLink own index text).before a0 Z = true) {a : Addr} (L : Lit (s.setVm vm0) own index a)
    {g : JFrame} (hg : g.method = m) (hd : decode c.code g.pc = .ok (.ldc index, 2)) (k : own_Go p.tables e below G (T.setTop { g with pc := g.pc + 2, stack := .ref a :: g.stack })) : own_Go p.tables e below G (T.setTop g) := by
  obtain ⟨locs, X, eT, N⟩ := A
  exact own_go (ldcAgain X hx hZ hown w L hg hd) k
end OwnLitC
section OwnStr
variable {p : Program} {l : Launch} {e : Env} {R : Room} {s : State} {args : Array Value} {below : List Frame} {Z : State} {a0 : Array Value} {h h' : Heap} {n0 : Nat} {a b x : Addr} {ty : FieldType} {N : Int32} {f : Int32 → Int32}
theorem own_ofN {j : Int32} (hj : ¬ j < 0) : Int32.ofNat j.toNatClampNeg = j := (back32 hj).1
theorem own_toN {k : Nat} (hk : k < 2 ^ 31) : (Int32.ofNat k).toNatClampNeg = k := by
  rw [Int32.toNatClampNeg, own_nI hk]
  exact Int.toNat_natCast _
def own_lst (f : Int32 → Int32) (n : Nat) : List Int32 := (List.range n).map fun i => f (Int32.ofNat i)
theorem own_lst_len (f : Int32 → Int32) (n : Nat) : (own_lst f n).length = n := by simp [own_lst]
theorem own_lst_at (f : Int32 → Int32) (n k : Nat) (hk : k < n) (g : Int32 → Value) (d : Value) : ((own_lst f n).map g).getD k d = g (f (Int32.ofNat k)) := by
  rw [List.getD_eq_getElem?_getD, own_lst, List.map_map, List.getElem?_map, List.getElem?_range hk]
  rfl
theorem own_lst_mem (f : Int32 → Int32) (n : Nat) {c : Int32} (hc : c ∈ own_lst f n) : ∃ k, k < n ∧ c = f (Int32.ofNat k) := by
  obtain ⟨k, hk, e⟩ := List.mem_map.mp hc
  exact ⟨k, List.mem_range.mp hk, e.symm⟩
theorem own_Arr.arv {n : Nat} (F : own_Arr Z h a ty (Int32.ofNat n) f) (hn : n < 2 ^ 31) (hf : ∀ k, k < n → fits ty (.int (f (Int32.ofNat k))) = true) : ∃ k, Arv Z h a k ty (Int32.ofNat n) ((own_lst f n).map Value.int) (.int 0) := by
  obtain ⟨cl, A, S, M, H⟩ := F
  have S' : cl.slots.size = n := by rw [S, own_toN hn]
  refine ⟨cl.cls, cl, A, rfl, S, M, fun k hk => ?_, fun k hk => ?_⟩
  · have q := H (Int32.ofNat k) (own_nn (by omega)) ((own_nlt (by omega) hn).mpr (by omega))
    rw [own_toN (by omega)] at q
    rw [q, own_lst_at f n k (by omega)]
  · rw [own_lst_at f n k (by omega)]
    exact hf k (by omega)
theorem own_Arr.ofArv {n : Nat} {k : ClassId} {g : Int32 → Int32} {d : Value} (V : Arv Z h a k ty (Int32.ofNat n) (((own_lst f n).map g).map Value.int) d) (hn : n < 2 ^ 31) : own_Arr Z h a ty (Int32.ofNat n) (fun j => g (f j)) := by
  obtain ⟨cl, A, -, S, M, H, -⟩ := V
  refine ⟨cl, A, S, M, fun j h0 h1 => ?_⟩
  have hj : j.toNatClampNeg < n := by
    have q := inb_of S ⟨h0, h1⟩
    rw [S, own_toN hn] at q
    exact Nat.lt_of_not_le fun z => q (Or.inr z)
  have q := H j.toNatClampNeg (by rw [S, own_toN hn]; exact hj)
  rw [List.map_map, own_lst_at f n _ hj] at q
  rw [q, own_ofN h0]
  rfl
theorem own_fitC {z : Int32} (h0 : ¬ z < 0) (h1 : ¬ (255 : Int32) < z) : fits .char (.int z) = true := by
  have e1 : (255 : Int32).toInt = 255 := rfl
  have e0 : (0 : Int32).toInt = 0 := rfl
  have e2 : (65535 : Int32).toInt = 65535 := rfl
  rw [Int32.lt_iff_toInt_lt] at h0 h1
  simp only [fits, Bool.and_eq_true, decide_eq_true_eq]
  exact ⟨Int32.le_iff_toInt_le.mpr (by omega), Int32.le_iff_toInt_le.mpr (by omega)⟩
end OwnStr
section OwnRef
variable {p : Program} {l : Launch} {e : Env} {R : Room} {s : State} {m : MethodId} {args : Array Value} {below : List Frame} {meth : Method} {c : Code} {T : State} {cells slots : Nat} {Z : State} {a0 : Array Value} {h h' : Heap} {n0 : Nat} {G : State → Outcome → Prop} {a b : Addr} {n j : Int32} {f : Int32 → Int32} {C : String}
/-- an array of references to objects of C: its length alone is told -/
def own_ArrR (Z : State) (h : Heap) (a : Addr) (C : String) (n : Int32) : Prop := ∃ cl : Cell, Arr Z h a cl (.object C) ∧ cl.slots.size = n.toNatClampNeg ∧ ¬ n < 0 ∧ Ovr Z cl.cls C
theorem own_ArrR.lt (F : own_ArrR Z h a C n) : a < h.size := by obtain ⟨_, A, -⟩ := F; exact A.lt
theorem own_ArrR.ext (F : own_ArrR Z h a C n) (E : Ext h h') : own_ArrR Z h' a C n := by obtain ⟨c, A, r⟩ := F; exact ⟨c, A.ext E, r⟩
theorem own_ArrR.other {sl : Nat} {v : Value} (F : own_ArrR Z h b C n) (W : Wr h h' a sl v) (q : b ≠ a) : own_ArrR Z h' b C n := by obtain ⟨c, A, r⟩ := F; exact ⟨c, A.other W q, r⟩
theorem own_ArrR.keep {ws : List Addr} (F : own_ArrR Z h a C n) (K : Keep h h' ws) (q : a ∉ ws) : own_ArrR Z h' a C n := by obtain ⟨c, A, r⟩ := F; exact ⟨c, ⟨K.2.1 a c A.1 q, A.2⟩, r⟩
theorem own_newR (A : own_At p l e R s m args below meth c n0 T h cells slots) (hx : p.tables.exec = Jvm.exec) (hZ : Z.Warmed39 s.vm) {own : String} {index : Nat} (hown : s.vm.findClass own = some m.cls) (w1 : (Cond.classLink own index C).before a0 Z = true) (w2 : (Cond.arrayOver (.object C)).before a0 Z = true)
    {g : JFrame} (hg : g.method = m) (hd : decode c.code g.pc = .ok (.anewarray index, 3)) {rest : List Value} (hs : g.stack = .int n :: rest) (hn : ¬ n < 0) (cap : Nat) (hcap : n.toNatClampNeg ≤ cap) (hb : cap * 8 ≤ 536870912) (hc : cells + 1 ≤ R.cells) (hl : slots + cap ≤ R.slots)
    (kk : ∀ T' h' a, a = h.size → own_At p l e R s m args below meth c n0 T' h' (cells + 1) (slots + cap) → Ext h h' → own_ArrR Z h' a C n → own_Go p.tables e below G (T'.setTop { g with pc := g.pc + 3, stack := .ref a :: rest })) : own_Go p.tables e below G (T.setTop g) := by
  obtain ⟨locs, X, eT, N⟩ := A
  obtain ⟨T1, h1, k1, X1, e1, E1, A1, O1, st⟩ := newR X hx hZ hown w1 w2 eT hg hd hs hn hcap hb hc hl
  exact own_go st (kk T1 h1 h.size rfl ⟨_, X1, e1, N⟩ E1 ⟨_, A1, sz_new _ _ _, hn, O1⟩)
theorem own_stR (A : own_At p l e R s m args below meth c n0 T h cells slots) (hx : p.tables.exec = Jvm.exec) (hZ : Z.Warmed39 s.vm) (F : own_ArrR Z h a C n) (hj : ¬ j < 0 ∧ j < n) (I : Ins Z h b C true) (q : n0 ≤ a) {g : JFrame} (hg : g.method = m) {rest : List Value} (hs : g.stack = .ref b :: .int j :: .ref a :: rest) (hd : decode c.code g.pc = .ok (.aastore, 1))
    (k : ∀ T' h', own_At p l e R s m args below meth c n0 T' h' cells slots → Wr h h' a j.toNatClampNeg (.ref b) → own_ArrR Z h' a C n → own_Go p.tables e below G (T'.setTop { g with pc := g.pc + 1, stack := rest })) : own_Go p.tables e below G (T.setTop g) := by
  obtain ⟨locs, X, eT, N⟩ := A
  obtain ⟨c1, A1, S1, M1, O1⟩ := id F
  obtain ⟨T1, h1, X1, e1, W1, st⟩ := stR X hx hZ eT A1 (inb_of S1 hj) rfl (Sto.of A1 O1 I) hg hs hd
  exact own_go st (k T1 h1 ⟨_, X1, e1, Fr.snoc X1 N q⟩ W1 ⟨_, A1.same W1, by rw [sz_set]; exact S1, M1, O1⟩)
theorem own_lenR (A : own_At p l e R s m args below meth c n0 T h cells slots) (hx : p.tables.exec = Jvm.exec) (hZ : Z.Warmed39 s.vm) (F : own_ArrR Z h a C n) {g : JFrame} (hg : g.method = m) {rest : List Value} (hs : g.stack = .ref a :: rest) (hd : decode c.code g.pc = .ok (.arraylength, 1))
    (k : own_Go p.tables e below G (T.setTop { g with pc := g.pc + 1, stack := .int n :: rest })) : own_Go p.tables e below G (T.setTop g) := by
  obtain ⟨locs, X, eT, N⟩ := A
  obtain ⟨c1, A1, S1, M1, H1⟩ := F
  rw [← len_of S1 M1] at k
  exact own_go (fun t k => X.arraylength hx (by rw [eT]; exact A1.1) (State.isArrayOf_alike hZ.alike A1.2.1) hg hs hd t k) k
theorem own_cast (A : own_At p l e R s m args below meth c n0 T h cells slots) (hx : p.tables.exec = Jvm.exec) (hZ : Z.Warmed39 s.vm) {own K : String} {index : Nat} (hown : s.vm.findClass own = some m.cls) (w : (Cond.classLink own index K).before a0 Z = true) (F : Ins Z h a K true)
    {g : JFrame} (hg : g.method = m) {rest : List Value} (hs : g.stack = .ref a :: rest) (hd : decode c.code g.pc = .ok (.checkcast index, 3))
    (k : ∀ T', own_At p l e R s m args below meth c n0 T' h cells slots → own_Go p.tables e below G (T'.setTop { g with pc := g.pc + 3 })) : own_Go p.tables e below G (T.setTop g) := by
  obtain ⟨locs, X, eT, N⟩ := A
  obtain ⟨T1, X1, e1, st⟩ := castY X hx hZ hown w eT F hg hs hd
  exact own_go st (k T1 ⟨_, X1, e1, N⟩)
theorem own_cloneB (A : own_At p l e R s m args below meth c n0 T h cells slots) (hx : p.tables.exec = Jvm.exec) (hZ : Z.Warmed39 s.vm) {own : String} {index : Nat} (hown : s.vm.findClass own = some m.cls)
    (w1 : (Cond.methodLink own index ⟨"[B", "clone", "()Ljava/lang/Object;"⟩).before a0 Z = true) (w2 : (Cond.sameMethod "[B" "java/lang/Object" "clone" "()Ljava/lang/Object;").before a0 Z = true) (w3 : (Cond.native ⟨"java/lang/Object", "clone", "()Ljava/lang/Object;"⟩).before a0 Z = true)
    (w4 : (Cond.instanceMethod ⟨"java/lang/Object", "clone", "()Ljava/lang/Object;"⟩).before a0 Z = true) (w5 : (Cond.selects "[B" ⟨"[B", "clone", "()Ljava/lang/Object;"⟩ ⟨"java/lang/Object", "clone", "()Ljava/lang/Object;"⟩).before a0 Z = true) (w6 : (Cond.castable "[B" "java/lang/Cloneable").before a0 Z = true)
    (F : own_Arr Z h a .byte n f) (E : Exa Z h a "[B") (hfit : ∀ j, ¬ j < 0 → j < n → fits .byte (.int (f j)) = true) {g : JFrame} (hg : g.method = m) (hsize : g.locals.size = c.maxLocals) {rest : List Value} (hs : g.stack = .ref a :: rest) (hd : decode c.code g.pc = .ok (.invokevirtual index, 3))
    (hf : 1 ≤ R.frames) (W : Nat) (hW : 2 * g.monitorRoom + (rest.map fun v => v.category).sum ≤ W) (hl : W + 14 ≤ R.locals) (cap : Nat) (hcap : n.toNatClampNeg ≤ cap) (hc : cells + 1 ≤ R.cells) (hsl : slots + cap ≤ R.slots)
    (k : ∀ T' h' b, b = h.size → own_At p l e R s m args below meth c n0 T' h' (cells + 1) (slots + cap) → Ext h h' → own_Arr Z h' b .byte n f → Exa Z h' b "[B" → own_Go p.tables e below G (T'.setTop { g with pc := g.pc + 3, stack := .ref b :: rest })) : own_Go p.tables e below G (T.setTop g) := by
  obtain ⟨locs, X, eT, N⟩ := A
  obtain ⟨c1, A1, S1, M1, H1⟩ := F
  have hn31 : n.toNatClampNeg < 2 ^ 31 := by rw [Int32.toNatClampNeg]; have := rng32 n; omega
  have FC : FitC Z c1 := fitC_of A1 fun i hi v hv => by
    rw [S1] at hi
    have e1 : (Int32.ofNat i).toNatClampNeg = i := own_toN (by omega)
    have e2 : Int32.ofNat n.toNatClampNeg = n := own_ofN M1
    have q := H1 (Int32.ofNat i) (own_nn (by omega)) (by rw [← e2]; exact (own_nlt (by omega) hn31).mpr hi)
    rw [e1] at q
    cases q.symm.trans hv
    exact hfit _ (own_nn (by omega)) (by rw [← e2]; exact (own_nlt (by omega) hn31).mpr hi)
  obtain ⟨T1, h1, X1, e1, E1, B1, Y1, st⟩ := cloneA X hx hZ hown w1 w2 w3 w4 w5 w6 eT A1 E FC hg hsize hs hd hf hW hl (cap := cap) (by rw [S1]; exact hcap) hc hsl
  exact own_go st (k T1 h1 h.size rfl ⟨_, X1, e1, N⟩ E1 ⟨_, B1, S1, M1, H1⟩ Y1)
theorem own_cpB (A : own_At p l e R s m args below meth c n0 T h cells slots) (hx : p.tables.exec = Jvm.exec) (hZ : Z.Warmed39 s.vm) {own : String} {index : Nat} (hown : s.vm.findClass own = some m.cls)
    (w1 : (Cond.methodLink own index Jvm.Stand.acN).before a0 Z = true) (w2 : (Cond.native Jvm.Stand.acN).before a0 Z = true) (w3 : (Cond.static Jvm.Stand.acN).before a0 Z = true) (w4 : (Cond.initialized "java/lang/System").before a0 Z = true)
    {na nb : Nat} {fa fb : Int32 → Int32} {sp dp nn : Int32} (Va : own_Arr Z h a .byte (Int32.ofNat na) fa) (Vb : own_Arr Z h b .byte (Int32.ofNat nb) fb) (ha : na < 2 ^ 31) (hb : nb < 2 ^ 31) (fa' : ∀ k, k < na → fits .byte (.int (fa (Int32.ofNat k))) = true) (fb' : ∀ k, k < nb → fits .byte (.int (fb (Int32.ofNat k))) = true)
    (h1 : ¬ sp < 0) (h2 : ¬ dp < 0) (h3 : ¬ nn < 0) (h4 : sp.toNatClampNeg + nn.toNatClampNeg ≤ na) (h5 : dp.toNatClampNeg + nn.toNatClampNeg ≤ nb) (ge : n0 ≤ b)
    {g : JFrame} (hg : g.method = m) (hsize : g.locals.size = c.maxLocals) {rest : List Value} (hs : g.stack = .int nn :: .int dp :: .ref b :: .int sp :: .ref a :: rest) (hd : decode c.code g.pc = .ok (.invokestatic index, 3))
    (hf : 1 ≤ R.frames) (W : Nat) (hW : 2 * g.monitorRoom + (rest.map fun v => v.category).sum ≤ W) (hlo : W + (nativeFrameWords "java/lang/System" "arraycopy" 5 + 11) ≤ R.locals)
    (k : ∀ T' h', own_At p l e R s m args below meth c n0 T' h' cells slots → Keep h h' [b] → own_Go p.tables e below G (T'.setTop { g with pc := g.pc + 3, stack := rest })) : own_Go p.tables e below G (T.setTop g) := by
  obtain ⟨locs, X, eT, N⟩ := A
  obtain ⟨ka, A1⟩ := Va.arv ha fa'
  obtain ⟨kb, B1⟩ := Vb.arv hb fb'
  obtain ⟨T1, h1', L, X1, e1, N1, K1, -, st⟩ := cpA X hx hZ hown w1 w2 w3 w4 eT A1 B1 (Or.inl ⟨rfl, rfl⟩) h1 h2 h3 (by rw [own_toN ha]; exact h4) (by rw [own_toN hb]; exact h5) rfl (by rw [List.length_map, own_lst_len]; exact h5) N ge hg hsize hs hd hf hW hlo
  exact own_go st (k T1 h1' ⟨_, X1, e1, N1⟩ K1)
end OwnRef
section OwnLit
open Jvm.Free.SB Jvm.Free.SBG
variable {p : Program} {l : Launch} {e : Env} {R : Room} {s : State} {m : MethodId} {args : Array Value} {below : List Frame} {meth : Method} {c : Code} {T : State} {cells slots : Nat} {Z : State} {a0 : Array Value} {h : Heap} {n0 : Nat} {G : State → Outcome → Prop} {vm0 : Vm} {k0 : Nat} {Ts : List String}
/-- what a String of the intern table is, said of the case's start Z: with the class of its bytes -/
theorem own_slZ {W : State} {lo hi : Nat} {a : Addr} {units : Array UInt16} {xs : List Int32} {z : Int32} (hal : Z.vm.Alike W.vm) (hin : SlIn lo hi W a units) (hlat : units.all (· < 256) = true) (hu : units.toList.map (fun u => Jvm.Lit.byteI u) = xs) (hz : ¬ z < 0) (hl : z.toNatClampNeg = xs.length) :
    ∃ b, Exa Z W.heap a "java/lang/String" ∧ Fld Z W.heap a "java/lang/String" "coder" "B" (.int 0) ∧ Fld Z W.heap a "java/lang/String" "value" "[B" (.ref b) ∧ Exa Z W.heap b "[B" ∧ own_Arr Z W.heap b .byte z (fun j => xs.getD j.toNatClampNeg 0) := by
  obtain ⟨q, cS, rfl, ⟨⟨s1, s2, s3, ⟨cv, kv, iv, s4, s4'⟩, ⟨cc, kc, ic, s5, s5'⟩, s6, s7, s8, s9, s10, s11, s12, -, -, -, -⟩, hfS, hcS⟩, ⟨kS, k1, k2, k3⟩, hB, hbyt, -⟩ := hin
  obtain ⟨kv', z4⟩ := ff_back hal s4
  obtain ⟨kc', z5⟩ := ff_back hal s5
  have fS : Z.vm.findClass "java/lang/String" = some q.sC.cls := by rw [← hal.findClass, hcS]; exact hfS
  have fB : Z.vm.findClass "[B" = some q.SA.cls := by rw [← hal.findClass]; exact hB
  obtain ⟨kz, hkz, -⟩ := Vm.findClass_spec fS
  obtain ⟨kz', hkz', ekz⟩ := hal.2.2 _ _ hkz
  obtain ⟨kb, hkb, -⟩ := Vm.findClass_spec fB
  obtain ⟨kb', hkb', ekb⟩ := hal.2.2 _ _ hkb
  obtain ⟨ns, k9, hk9, comp, hki⟩ := s11
  cases hk9.symm.trans hkb'
  have hk' : W.vm.classes[q.sC.cls]? = some kS := by rw [hcS]; exact k1
  cases hk'.symm.trans hkz'
  have kkd : kb.kind = .array comp .byte := by rw [ekb] at hki; exact hki
  have hsl : q.SA.slots = units.map fun u => Value.int (Jvm.Lit.byteI u) := by rw [hbyt, SBG.stringBytes_lat hlat]; rfl
  have hst : q.SA.vm.isStatics = false := by
    cases hv : q.SA.vm <;> first | rfl | exact absurd hv (ns _)
  have hsz : q.SA.slots.size = z.toNatClampNeg := by rw [hl, ← hu, hsl]; simp
  refine ⟨q.sd, ⟨q.sC, kz, s1, fS, hkz, s3, fun _ => by rw [k3, ekz]⟩, ⟨q.sC, cc, kc', ic, q.fSC, s1, z5, s7, s2, s3, by rw [← hal.assignable]; exact s5', s9⟩, ⟨q.sC, cv, kv', iv, q.fSV, s1, z4, s6, s2, s3, by rw [← hal.assignable]; exact s4', s8⟩,
    ⟨q.SA, kb, s10, fB, hkb, hst, fun o => by rw [kkd] at o; cases o⟩, q.SA, ⟨s10, ⟨ns, kb, hkb, comp, kkd⟩, s12⟩, hsz, hz, fun j h0 h1 => ?_⟩
  have hj : j.toNatClampNeg < q.SA.slots.size := Nat.lt_of_not_le fun w => inb_of hsz ⟨h0, h1⟩ (Or.inr w)
  have hju : j.toNatClampNeg < units.size := by rw [hsl, Array.size_map] at hj; exact hj
  show _ = some (Value.int (xs.getD j.toNatClampNeg 0))
  rw [hsl, ← hu]
  simp [hju, List.getD_eq_getElem?_getD]
theorem own_ldcB (A : own_At p l e R (s.setVm vm0) m args below meth c n0 T h cells slots) (hx : p.tables.exec = Jvm.exec) (hZ : Z.Warmed39 (s.setVm vm0).vm) {own text : String} {index : Nat} (hown : (s.setVm vm0).vm.findClass own = some m.cls) (w : (Cond.stringLink own index text).before a0 Z = true) (wS : ∀ a ∈ Bundle.stringAtoms, a.before a0 Z = true)
    (hS : s.Since vm0 k0) (hk : k0 ≤ h.size) (hn0 : s.heap.size ≤ n0) (hkeep : ∀ (b : Addr) (cl : Cell), Z.heap[b]? = some cl → s.heap[b]? = some cl) (I : IB Z vm0 Ts) (hnot : text ∉ Ts) (hh : Jvm.Lit.constHeld Z own index) (hcw : Jvm.Lit.compactW.before a0 Z = true)
    {xs : List Int32} {z : Int32} (ht : (∀ c ∈ text.toList, c.toNat < 256) ∧ text.toList.map (fun c => Jvm.Lit.byteI c.toNat.toUInt16) = xs) (hz : ¬ z < 0) (hl : z.toNatClampNeg = xs.length)
    {g : JFrame} (hg : g.method = m) (hd : decode c.code g.pc = .ok (.ldc index, 2)) (n : Nat) (hn : 4 * text.toList.length ≤ n) (hbig : n ≤ 536870912) (hc : cells + 2 ≤ R.cells) (hl' : slots + (n + 4) ≤ R.slots)
    (k : ∀ T' h' a b vm1 k1, own_At p l e R (s.setVm vm1) m args below meth c n0 T' h' (cells + 2) (slots + (n + 4)) → Ext h h' → s.Since vm1 k1 → k1 ≤ h'.size → Z.Warmed39 (s.setVm vm1).vm → (s.setVm vm1).vm.findClass own = some m.cls → IB Z vm1 (text :: Ts) →
      Exa Z h' a "java/lang/String" → Fld Z h' a "java/lang/String" "coder" "B" (.int 0) → Fld Z h' a "java/lang/String" "value" "[B" (.ref b) → Exa Z h' b "[B" → own_Arr Z h' b .byte z (fun j => xs.getD j.toNatClampNeg 0) → own_Go p.tables e below G (T'.setTop { g with pc := g.pc + 2, stack := .ref a :: g.stack })) : own_Go p.tables e below G (T.setTop g) := by
  obtain ⟨locs, X, eT, N⟩ := A
  have wi : (Cond.instantiable "java/lang/String" 4).before a0 Z = true := wS _ (by simp [Bundle.stringAtoms, Bundle.sN])
  have wa : (Cond.arrayClass .byte).before a0 Z = true := wS _ (by simp [Bundle.stringAtoms])
  have hH : ConstHeldL (s.setVm vm0) own index := heldCarry hZ w I hnot hkeep (heldStart hh w ht.1 hcw wa wi)
  have N' : Fr s.heap.size locs := fun y hy => Nat.le_trans hn0 (N y hy)
  obtain ⟨a, T', X', hS', -, hb, -, hint, ⟨units, htext, hin⟩, st⟩ := X.ldcColdF (oldF X N') hx (own := own) hown (mvS hZ w) (fun d hd => by
    have q := wS d hd
    simp only [Bundle.stringAtoms, List.mem_cons, List.not_mem_nil, or_false] at hd
    rcases hd with rfl | rfl | rfl | rfl | rfl | rfl | rfl
    · exact mv (s := s.setVm vm0) hZ q
    · exact mv (s := s.setVm vm0) hZ q
    · exact mvA (s := s.setVm vm0) hZ q
    · exact mv (s := s.setVm vm0) hZ q
    · exact mv (s := s.setVm vm0) hZ q
    · exact mv (s := s.setVm vm0) hZ q
    · exact mv (s := s.setVm vm0) hZ q) hH (fun units hu => Jvm.ClassFile.lat_of_text hu ht.1) hg hd hn hbig hc hl'
  subst eT
  have E := ext_of hb
  have hW : Z.Warmed39 T'.vm := State.Warmed39.trans (t := s.setVm vm0) hZ hS'.1
  obtain ⟨b, r1, r2, r3, r4, r5⟩ := own_slZ (xs := xs) (z := z) hW.alike hin (Jvm.ClassFile.lat_of_text htext ht.1) (by rw [← ht.2, Jvm.ClassFile.units_of_text htext ht.1, List.map_map]; rfl) hz hl
  have hTi : T.vm.interned = vm0.interned := X.warmed.interned_eq
  exact own_go st (k T' T'.heap a b T'.vm _ ⟨_, X', rfl, N⟩ E (hS.trans hS' (Nat.le_trans hk E.1)) (Nat.le_refl _) hW (by rw [show (s.setVm T'.vm).vm = T'.vm from rfl, hS'.1.alike.findClass]; exact hown) (I.step (by rw [← hTi]; exact hint)) r1 r2 r3 r4 r5)
end OwnLit
section OwnHand
variable {p : Program} {l : Launch} {e : Env} {R : Room} {s : State} {m : MethodId} {args : Array Value} {below : List Frame} {meth : Method} {c : Code} {T : State} {cells slots : Nat} {Z : State} {a0 : Array Value} {h : Heap} {n0 : Nat} {G : State → Outcome → Prop} {Q : Option Value → Heap → Prop}
/-- own_Met, of a body with an exception table whose walk throws nothing -/
def own_MetH (l : Launch) (Z : State) (n0 : Nat) (y : MethodName) (bytes : ByteArray) (maxL : Nat) (ret : Option FieldType) (hs : List (Nat × Nat × Nat × Nat)) (rm : Room) (as' : Array Value) (h0 : Heap) (Q : Option Value → Heap → Prop) : Prop :=
  ∀ ws, MetFree l y (head1 (Cond.codeWith y bytes maxL ret hs :: ws) rm) (fun a U => a = as' ∧ Z.Warmed39 U.vm ∧ U.heap = h0) (fun _ _ _ _ _ => True) (fun _ U o U' => ∃ v L, o = .returned v ∧ (Q v U'.heap ∧ Fr n0 L) ∧ FrameEnd U o U' L rm.cells rm.slots)
theorem own_metH {y : MethodName} {bytes : ByteArray} {maxL : Nat} {ret : Option FieldType} {hs : List (Nat × Nat × Nat × Nat)} {rm : Room} {as' : Array Value} {h0 : Heap} (hp : plainFor y = true)
    (body : ∀ (p : Program) (e : Env) (s : State) (m : MethodId) (below : List Frame) (meth : Method) (c : Code) (T : State), p.tables.exec = Jvm.exec → c.code = bytes → c.maxLocals = maxL → s.vm.findClass y.cls = some m.cls → meth.name = y.name → meth.sig.returnType = ret → meth.locks = false → Z.Warmed39 s.vm →
      own_At p l e rm s m as' below meth c n0 T h0 0 0 → own_Go p.tables e below (own_End n0 s rm.cells rm.slots Q) (T.setTop (entryFrame m as' maxL))) : own_MetH l Z n0 y bytes maxL ret hs rm as' h0 Q := by
  intro ws
  refine MetFree.of_bodySF hp hisWith ?_
  intro p e s m args below meth c s₁ Bd hml0 hP hK
  obtain ⟨rfl, hZ, hh⟩ := hP
  exact body p e s m below meth c s₁ Bd.exec Bd.bytes hml0 (findClass_of_methodNamed Bd.named) (name_of_methodNamed Bd.named Bd.method).1 Bd.returns Bd.notSynchronized hZ ⟨[], Stand.of_body Bd, by rw [← hh, Bd.state]; rfl, Fr.nil n0⟩
theorem own_callIH (A : own_At p l e R s m args below meth c n0 T h cells slots) (hx : p.tables.exec = Jvm.exec) (hZ : Z.Warmed39 s.vm) {own : String} {index : Nat} {y : MethodName} (hy1 : y.name = "<init>") {bytes : ByteArray} {maxL : Nat} {hs' : List (Nat × Nat × Nat × Nat)} (hown : s.vm.findClass own = some m.cls)
    (w1 : (Cond.methodLink own index y).before a0 Z = true) (w4 : (Cond.instanceMethod y).before a0 Z = true) (w5 : (Cond.initialized y.cls).before a0 Z = true) (w6 : (Cond.codeWith y bytes maxL none hs').before a0 Z = true)
    (hy : y.cls ≠ "java/lang/invoke/MethodHandle" ∧ y.cls ≠ "java/lang/invoke/VarHandle")
    {rm : Room} {b : Addr} {argsL rest : List Value} (hM : own_MetH l Z n0 y bytes maxL none hs' rm (.ref b :: argsL).toArray h Q) (W : Nat) (hfr : rm.frames + 1 ≤ R.frames) (hlo : W + (maxL + 11) + rm.locals ≤ R.locals) {g : JFrame} (hg : g.method = m) (hsize : g.locals.size = c.maxLocals)
    (hlen : ∀ sig, parseMethodDescriptor y.desc = some sig → argsL.length = sig.parameters.length) (hs : g.stack = argsL.reverse ++ .ref b :: rest) (hW : 2 * g.monitorRoom + (rest.map fun v => v.category).sum ≤ W) (hd : decode c.code g.pc = .ok (.invokespecial index, 3))
    (hc : cells + rm.cells ≤ R.cells) (hl : slots + rm.slots ≤ R.slots)
    (k : ∀ v T' h', own_At p l e R s m args below meth c n0 T' h' (cells + rm.cells) (slots + rm.slots) → Q v h' → own_Go p.tables e below G (T'.setTop { g with pc := g.pc + 3, stack := v.toList ++ rest })) : own_Go p.tables e below G (T.setTop g) := by
  obtain ⟨locs, X, eT, N⟩ := A
  obtain ⟨v, _, ⟨T1, L1, k1, s1⟩, -, X1, ⟨Lc, ⟨hQ, N1⟩, l1, y1, z1⟩, st⟩ := X.specialBackH hx (y := y) hy1 hown (mvT hZ w1) (mvT hZ w4) (mvT hZ w6) hy (backOfWith (Q := fun v h L => Q v h ∧ Fr n0 L) (W := W) (hM []) hZ w6 w5 hfr hlo) hg hsize (Steps.refl _) (a := b) (argsL := argsL) (rest := rest) hlen hs hW hd (fun _ _ => ⟨rfl, eT, hc, hl⟩)
  dsimp only [Pt.U, Pt.locs, Pt.cells, Pt.slots] at X1 l1 y1 z1 st hQ
  subst l1 y1 z1
  exact own_go (fun t k => st.trans k) (k v T1 T1.heap ⟨_, X1, rfl, N.app N1⟩ hQ)
end OwnHand
section OwnPriv
variable {p : Program} {l : Launch} {e : Env} {R : Room} {s : State} {m : MethodId} {args : Array Value} {below : List Frame} {meth : Method} {c : Code} {T : State} {cells slots : Nat} {Z : State} {a0 : Array Value} {h : Heap} {n0 : Nat} {G : State → Outcome → Prop} {Q : Option Value → Heap → Prop}
/-- invokevirtual of a private method; w3: any word 'selects' that lands in its class (so the class is no interface) -/
theorem own_callP (A : own_At p l e R s m args below meth c n0 T h cells slots) (hx : p.tables.exec = Jvm.exec) (hZ : Z.Warmed39 s.vm) {own C D : String} {index : Nat} {y x' y' : MethodName} {bytes : ByteArray} {maxL : Nat} {ret : Option FieldType} (hown : s.vm.findClass own = some m.cls)
    (w1 : (Cond.methodLink own index y).before a0 Z = true) (w2 : (Cond.instanceMethod y).before a0 Z = true) (wp : (Cond.privateMethod y).before a0 Z = true) (w3 : (Cond.selects D x' y').before a0 Z = true) (hcls : y'.cls = y.cls) (w5 : (Cond.initialized y.cls).before a0 Z = true) (w6 : (Cond.code y bytes maxL ret).before a0 Z = true)
    (hy : y.cls ≠ "java/lang/invoke/MethodHandle" ∧ y.cls ≠ "java/lang/invoke/VarHandle")
    {rm : Room} {b : Addr} {argsL rest : List Value} (E : Exa Z h b C) (hM : own_Met l Z n0 y bytes maxL ret rm (.ref b :: argsL).toArray h Q) (W : Nat) (hfr : rm.frames + 1 ≤ R.frames) (hlo : W + (maxL + 11) + rm.locals ≤ R.locals) {g : JFrame} (hg : g.method = m) (hsize : g.locals.size = c.maxLocals)
    (hlen : ∀ sig, parseMethodDescriptor y.desc = some sig → argsL.length = sig.parameters.length) (hs : g.stack = argsL.reverse ++ .ref b :: rest) (hW : 2 * g.monitorRoom + (rest.map fun v => v.category).sum ≤ W) (hd : decode c.code g.pc = .ok (.invokevirtual index, 3))
    (hc : cells + rm.cells ≤ R.cells) (hl : slots + rm.slots ≤ R.slots)
    (k : ∀ v T' h', own_At p l e R s m args below meth c n0 T' h' (cells + rm.cells) (slots + rm.slots) → Q v h' → own_Go p.tables e below G (T'.setTop { g with pc := g.pc + 3, stack := v.toList ++ rest })) : own_Go p.tables e below G (T.setTop g) := by
  obtain ⟨locs, X, eT, N⟩ := A
  obtain ⟨cell, kc, h1, -, -, h4, -⟩ := E
  have hp : s.PrivateAt y := Cond.privateMethod_at (mvP (args := args) hZ wp)
  have hsel : (Cond.selects y.cls y y).before args s = true := by
    obtain ⟨c2, r2, m2, -, -, q3, -, kP, hkP, hkPi⟩ := Cond.selects_spec (mvT (args := args) hZ w3)
    exact selects_self_of_private (c := m2.cls) (k := kP) (by rw [← hcls]; exact findClass_of_methodNamed q3) hkP hkPi hp (mvT hZ w2) hy
  obtain ⟨v, _, ⟨T1, L1, k1, s1⟩, -, X1, ⟨Lc, ⟨hQ, N1⟩, l1, y1, z1⟩, st⟩ := X.privateBack hx (y := y) hown (mvT hZ w1) (mvT hZ w2) hsel hp (mvT hZ w6) hy (backOf (Q := fun v h L => Q v h ∧ Fr n0 L) (W := W) (hM []) hZ w6 w5 hfr hlo) hg hsize (Steps.refl _) (a := b) (cell := cell) (by rw [eT]; exact h1) (fun q e => by rw [e] at h4; cases h4) (argsL := argsL) (rest := rest) hlen hs hW hd (fun _ _ => ⟨rfl, eT, hc, hl⟩)
  dsimp only [Pt.U, Pt.locs, Pt.cells, Pt.slots] at X1 l1 y1 z1 st hQ
  subst l1 y1 z1
  exact own_go (fun t k => st.trans k) (k v T1 T1.heap ⟨_, X1, rfl, N.app N1⟩ hQ)
end OwnPriv
section OwnSb
variable {p : Program} {l : Launch} {e : Env} {R : Room} {s : State} {m : MethodId} {args : Array Value} {below : List Frame} {meth : Method} {c : Code} {T : State} {cells slots : Nat} {Z : State} {a0 : Array Value} {h : Heap} {n0 : Nat} {G : State → Outcome → Prop} {Q : Option Value → Heap → Prop}
theorem own_same_self {D : String} {y x' y' : MethodName} (w2 : (Cond.instanceMethod y).before a0 Z = true) (w3 : (Cond.selects D x' y').before a0 Z = true) (hcls : y'.cls = y.cls) (hy : y.cls ≠ "java/lang/invoke/MethodHandle" ∧ y.cls ≠ "java/lang/invoke/VarHandle") : (Cond.sameMethod y.cls y.cls y.name y.desc).before a0 Z = true := by
  obtain ⟨c2, r2, m2, -, -, q3, -, kP, hkP, hkPi⟩ := Cond.selects_spec w3
  obtain ⟨mk, methM, hnamed, hmethM, -, -⟩ := Cond.instanceMethod_spec w2
  have hfound : Z.methodFound? y.cls y.name y.desc = some mk := State.methodFound?_of_named hnamed hy
  have hc : Z.vm.findClass y.cls = some mk.cls := findClass_of_methodNamed hnamed
  have hc2 : Z.vm.findClass y'.cls = some m2.cls := findClass_of_methodNamed q3
  rw [hcls, hc] at hc2
  have em : mk.cls = m2.cls := Option.some.inj hc2
  have hn : Z.methodNamed? ⟨y.cls, y.name, y.desc⟩ = some mk := hnamed
  rw [← em] at hkP
  simp [Cond.before, Cond.holds, Cond.value, hc, hfound, hn, hkP, hkPi]
theorem own_notFace {D : String} {y x' y' : MethodName} (w3 : (Cond.selects D x' y').before args s = true) (hcls : y'.cls = y.cls) : NotFace s y := by
  intro r0 hn
  obtain ⟨c2, r2, m2, -, -, q3, -, kP, hkP, hkPi⟩ := Cond.selects_spec w3
  have hc : s.vm.findClass y.cls = some r0.cls := findClass_of_methodNamed hn
  have hc2 : s.vm.findClass y'.cls = some m2.cls := findClass_of_methodNamed q3
  rw [hcls, hc] at hc2
  rw [Option.some.inj hc2]
  exact ⟨kP, hkP, hkPi⟩
/-- invokespecial of the superclass's method -/
theorem own_callU (A : own_At p l e R s m args below meth c n0 T h cells slots) (hx : p.tables.exec = Jvm.exec) (hZ : Z.Warmed39 s.vm) {own K D : String} {index : Nat} {y x' y' : MethodName} {bytes : ByteArray} {maxL : Nat} {ret : Option FieldType} (hown : s.vm.findClass own = some m.cls)
    (w1 : (Cond.methodLink own index y).before a0 Z = true) (w2 : (Cond.instanceMethod y).before a0 Z = true) (w3 : (Cond.selects D x' y').before a0 Z = true) (hcls : y'.cls = y.cls) (w4 : (Cond.superclass own y.cls).before a0 Z = true) (hn : y.name ≠ "<init>") (w5 : (Cond.initialized y.cls).before a0 Z = true) (w6 : (Cond.code y bytes maxL ret).before a0 Z = true)
    (hy : y.cls ≠ "java/lang/invoke/MethodHandle" ∧ y.cls ≠ "java/lang/invoke/VarHandle")
    {rm : Room} {b : Addr} {argsL rest : List Value} (I : Ins Z h b K true) (hM : own_Met l Z n0 y bytes maxL ret rm (.ref b :: argsL).toArray h Q) (W : Nat) (hfr : rm.frames + 1 ≤ R.frames) (hlo : W + (maxL + 11) + rm.locals ≤ R.locals) {g : JFrame} (hg : g.method = m) (hsize : g.locals.size = c.maxLocals)
    (hlen : ∀ sig, parseMethodDescriptor y.desc = some sig → argsL.length = sig.parameters.length) (hs : g.stack = argsL.reverse ++ .ref b :: rest) (hW : 2 * g.monitorRoom + (rest.map fun v => v.category).sum ≤ W) (hd : decode c.code g.pc = .ok (.invokespecial index, 3))
    (hc : cells + rm.cells ≤ R.cells) (hl : slots + rm.slots ≤ R.slots)
    (k : ∀ v T' h', own_At p l e R s m args below meth c n0 T' h' (cells + rm.cells) (slots + rm.slots) → Q v h' → own_Go p.tables e below G (T'.setTop { g with pc := g.pc + 3, stack := v.toList ++ rest })) : own_Go p.tables e below G (T.setTop g) := by
  obtain ⟨locs, X, eT, N⟩ := A
  obtain ⟨v, _, ⟨T1, L1, k1, s1⟩, -, X1, ⟨Lc, ⟨hQ, N1⟩, l1, y1, z1⟩, st⟩ := superBack X hx hZ (y := y) hown w1 (own_same_self w2 w3 hcls hy) w2 w4 hn (backOf (Q := fun v h L => Q v h ∧ Fr n0 L) (W := W) (hM []) hZ w6 w5 hfr hlo) eT I hg hsize w6 (argsL := argsL) (rest := rest) hlen hs hW hd (fun _ _ => ⟨rfl, eT, hc, hl⟩)
  dsimp only [Pt.U, Pt.locs, Pt.cells, Pt.slots] at X1 l1 y1 z1 st hQ
  subst l1 y1 z1
  exact own_go (fun t k => st.trans k) (k v T1 T1.heap ⟨_, X1, rfl, N.app N1⟩ hQ)
theorem own_Arr.safe {a : Addr} {ty : FieldType} {n : Int32} {f : Int32 → Int32} {vm : Vm} {EL : List (String × Nat)} (hal : Z.vm.Alike vm) (F : own_Arr Z h a ty n f) (ht : ty ≠ .byte) : Safe Z EL vm h a := by obtain ⟨cl, A, -⟩ := F; exact Safe.arr hal A ht
/-- the array begins with these -/
def own_Pre (f : Int32 → Int32) (xs : List Int32) : Prop := ∀ k, k < xs.length → f (Int32.ofNat k) = xs.getD k 0
/-- the array's first n places hold bytes -/
def own_Byt (f : Int32 → Int32) (n : Nat) : Prop := ∀ k, k < n → fits .byte (.int (f (Int32.ofNat k))) = true
/-- what a copy of nn places leaves -/
def own_cpf (fa : Int32 → Int32) (sp dp nn : Nat) (fb : Int32 → Int32) (j : Int32) : Int32 := if dp ≤ j.toNatClampNeg ∧ j.toNatClampNeg < dp + nn then fa (Int32.ofNat (sp + (j.toNatClampNeg - dp))) else fb j
theorem own_cpL {a b : Addr} (A : own_At p l e R s m args below meth c n0 T h cells slots) (hx : p.tables.exec = Jvm.exec) (hZ : Z.Warmed39 s.vm) {own : String} {index : Nat} (hown : s.vm.findClass own = some m.cls)
    (w1 : (Cond.methodLink own index Jvm.Stand.acN).before a0 Z = true) (w2 : (Cond.native Jvm.Stand.acN).before a0 Z = true) (w3 : (Cond.static Jvm.Stand.acN).before a0 Z = true) (w4 : (Cond.initialized "java/lang/System").before a0 Z = true)
    {na nb sp dp nn : Nat} {fa fb : Int32 → Int32} (Va : own_Arr Z h a .byte (Int32.ofNat na) fa) (Vb : own_Arr Z h b .byte (Int32.ofNat nb) fb) (ha : na < 2 ^ 31) (hb : nb < 2 ^ 31) (fa' : own_Byt fa na) (fb' : own_Byt fb nb)
    (h4 : sp + nn ≤ na) (h5 : dp + nn ≤ nb) (ge : n0 ≤ b)
    {g : JFrame} (hg : g.method = m) (hsize : g.locals.size = c.maxLocals) {rest : List Value} (hs : g.stack = .int (Int32.ofNat nn) :: .int (Int32.ofNat dp) :: .ref b :: .int (Int32.ofNat sp) :: .ref a :: rest) (hd : decode c.code g.pc = .ok (.invokestatic index, 3))
    (hf : 1 ≤ R.frames) (W : Nat) (hW : 2 * g.monitorRoom + (rest.map fun v => v.category).sum ≤ W) (hlo : W + (nativeFrameWords "java/lang/System" "arraycopy" 5 + 11) ≤ R.locals)
    (k : ∀ T' h', own_At p l e R s m args below meth c n0 T' h' cells slots → Keep h h' [b] → own_Arr Z h' b .byte (Int32.ofNat nb) (own_cpf fa sp dp nn fb) → own_Go p.tables e below G (T'.setTop { g with pc := g.pc + 3, stack := rest })) : own_Go p.tables e below G (T.setTop g) := by
  obtain ⟨locs, X, eT, N⟩ := A
  obtain ⟨ka, A1⟩ := Va.arv ha fa'
  obtain ⟨kb, B1⟩ := Vb.arv hb fb'
  have en : (Int32.ofNat nn).toNatClampNeg = nn := own_toN (by omega)
  have ed : (Int32.ofNat dp).toNatClampNeg = dp := own_toN (by omega)
  have es : (Int32.ofNat sp).toNatClampNeg = sp := own_toN (by omega)
  obtain ⟨T1, h1', L, X1, e1, N1, K1, V1, st⟩ := cpA X hx hZ hown w1 w2 w3 w4 eT A1 B1 (Or.inl ⟨rfl, rfl⟩) (own_nn (by omega)) (own_nn (by omega)) (own_nn (by omega)) (by rw [es, en, own_toN ha]; exact h4) (by rw [ed, en, own_toN hb]; exact h5) rfl (by rw [List.length_map, own_lst_len, ed, en]; exact h5) N ge hg hsize hs hd hf hW hlo
  refine own_go st (k T1 h1' ⟨_, X1, e1, N1⟩ K1 ?_)
  obtain ⟨cl, A2, -, S2, M2, H2, -⟩ := V1
  refine ⟨cl, A2, S2, M2, fun j j0 j1 => ?_⟩
  have hj : j.toNatClampNeg < nb := by
    have q := inb_of S2 ⟨j0, j1⟩
    rw [S2, own_toN hb] at q
    exact Nat.lt_of_not_le fun z => q (Or.inr z)
  have q := H2 j.toNatClampNeg (by rw [S2, own_toN hb]; exact hj)
  rw [en, ed, es] at q
  rw [q]
  have ej : Int32.ofNat j.toNatClampNeg = j := own_ofN j0
  congr 1
  unfold own_cpf
  rw [List.getD_eq_getElem?_getD]
  by_cases c1 : j.toNatClampNeg < dp
  · rw [if_neg (by omega), List.append_assoc, List.getElem?_append_left (by simp [own_lst_len]; omega), List.getElem?_take_of_lt c1, ← List.getD_eq_getElem?_getD, own_lst_at fb nb _ (by omega), ej]
  · by_cases c2 : j.toNatClampNeg < dp + nn
    · rw [if_pos ⟨by omega, c2⟩, List.append_assoc, List.getElem?_append_right (by simp [own_lst_len]; omega), List.getElem?_append_left (by simp [own_lst_len]; omega)]
      have e3 : (List.take dp ((own_lst fb nb).map Value.int)).length = dp := by simp [own_lst_len]; omega
      rw [e3, List.getElem?_map, List.getElem?_range (by omega)]
      show ((own_lst fa na).map Value.int).getD (sp + (j.toNatClampNeg - dp)) (.int 0) = _
      rw [own_lst_at fa na _ (by omega)]
    · rw [if_neg (by omega), List.append_assoc, List.getElem?_append_right (by simp [own_lst_len]; omega), List.getElem?_append_right (by simp [own_lst_len]; omega), List.getElem?_drop]
      have e3 : (List.take dp ((own_lst fb nb).map Value.int)).length = dp := by simp [own_lst_len]; omega
      rw [e3, List.length_map, List.length_range, show dp + nn + (j.toNatClampNeg - dp - nn) = j.toNatClampNeg by omega, ← List.getD_eq_getElem?_getD, own_lst_at fb nb _ (by omega), ej]
theorem own_Pre.app {fa fb : Int32 → Int32} {xs ys : List Int32} (hp : own_Pre fb ys) (hq : own_Pre fa xs) (hb : ys.length + xs.length < 2 ^ 31) : own_Pre (own_cpf fa 0 ys.length xs.length fb) (ys ++ xs) := by
  intro k hk
  rw [List.length_append] at hk
  unfold own_cpf
  rw [own_toN (by omega), List.getD_eq_getElem?_getD]
  by_cases c1 : k < ys.length
  · rw [if_neg (by omega), hp k c1, List.getElem?_append_left c1, List.getD_eq_getElem?_getD]
  · rw [if_pos ⟨by omega, by omega⟩, Nat.zero_add, hq _ (by omega), List.getElem?_append_right (by omega), List.getD_eq_getElem?_getD]
theorem own_Byt.cp {fa fb : Int32 → Int32} {na nb sp dp nn : Nat} (hp : own_Byt fb nb) (hq : own_Byt fa na) (h4 : sp + nn ≤ na) (hb : nb < 2 ^ 31) : own_Byt (own_cpf fa sp dp nn fb) nb := by
  intro k hk
  unfold own_cpf
  rw [own_toN (by omega)]
  split
  · exact hq _ (by omega)
  · exact hp k hk
end OwnSb
section OwnInst
variable {p : Program} {l : Launch} {e : Env} {R : Room} {s : State} {m : MethodId} {args : Array Value} {below : List Frame} {meth : Method} {c : Code} {T : State} {cells slots : Nat} {Z : State} {a0 : Array Value} {h : Heap} {n0 : Nat} {G : State → Outcome → Prop} {a : Addr}
/-- below Object, below A, below B: none of them is K, a class whose objects can be made -/
theorem own_notSub {O A B K : String} {n : Nat} (w : (Cond.noSuperclass O).before a0 Z = true) (wa : (Cond.superclass A O).before a0 Z = true) (wb : (Cond.superclass B A).before a0 Z = true) (wk : (Cond.instantiable K n).before a0 Z = true) (h1 : O ≠ K) (h2 : A ≠ K) (h3 : B ≠ K) : ∃ c t, Z.vm.findClass B = some c ∧ Z.vm.findClass K = some t ∧ Z.vm.assignable c t = false := by
  obtain ⟨t, k', g0, g2, g5, g6, -, -⟩ := Cond.instantiable_spec wk
  obtain ⟨co, ko, o1, o2, o3, -, -⟩ := Cond.noSuperclass_spec w
  have ne0 := ids_ne o1 g0 h1
  have N0 : NS Z O K := ⟨co, t, o1, g0, fun fuel => by
    cases fuel with
    | zero => rfl
    | succ f => simp [Vm.isSubclassAux, ne0, o2, o3]⟩
  have N2 : NS Z B K := NS.step wb (NS.step wa N0 h2) h3
  obtain ⟨cb, t', b0, t0, n3⟩ := N2
  cases g0.symm.trans t0
  obtain ⟨q, k, kp, q1, q2, q3, q4, q5, -, q7⟩ := Cond.superclass_spec b0 wb
  have ne := ids_ne b0 g0 h3
  have g7 : k'.isInterface = false := by simp only [Bool.or_eq_false_iff] at g6; exact g6.1
  refine ⟨cb, t, b0, g0, ?_⟩
  show Z.vm.assignableAux (255 + 1) cb t = false
  simp [Vm.assignableAux, ne, q2, g2, q5, g5, g7, Vm.isSubclass, n3]
theorem own_instN (A : own_At p l e R s m args below meth c n0 T h cells slots) (hx : p.tables.exec = Jvm.exec) (hZ : Z.Warmed39 s.vm) {own K C : String} {index : Nat} (hown : s.vm.findClass own = some m.cls) (w : (Cond.classLink own index K).before a0 Z = true) (E : Exa Z h a C) (F : ∃ c t, Z.vm.findClass C = some c ∧ Z.vm.findClass K = some t ∧ Z.vm.assignable c t = false)
    {g : JFrame} (hg : g.method = m) {rest : List Value} (hs : g.stack = .ref a :: rest) (hd : decode c.code g.pc = .ok (.instanceof index, 3)) (k : ∀ T', own_At p l e R s m args below meth c n0 T' h cells slots → own_Go p.tables e below G (T'.setTop { g with pc := g.pc + 3, stack := .int 0 :: rest })) : own_Go p.tables e below G (T.setTop g) := by
  obtain ⟨locs, X, eT, N⟩ := A
  obtain ⟨T1, X1, e1, st⟩ := instNo X hx hZ hown w eT E F hg hs hd
  exact own_go st (k T1 ⟨_, X1, e1, N⟩)
theorem own_instY (A : own_At p l e R s m args below meth c n0 T h cells slots) (hx : p.tables.exec = Jvm.exec) (hZ : Z.Warmed39 s.vm) {own K : String} {index : Nat} (hown : s.vm.findClass own = some m.cls) (w : (Cond.classLink own index K).before a0 Z = true) (F : Ins Z h a K true)
    {g : JFrame} (hg : g.method = m) {rest : List Value} (hs : g.stack = .ref a :: rest) (hd : decode c.code g.pc = .ok (.instanceof index, 3)) (k : ∀ T', own_At p l e R s m args below meth c n0 T' h cells slots → own_Go p.tables e below G (T'.setTop { g with pc := g.pc + 3, stack := .int 1 :: rest })) : own_Go p.tables e below G (T.setTop g) := by
  obtain ⟨locs, X, eT, N⟩ := A
  obtain ⟨T1, X1, e1, st⟩ := instY X hx hZ hown w eT F hg hs hd
  exact own_go st (k T1 ⟨_, X1, e1, N⟩)
end OwnInst
section OwnNewE
variable {p : Program} {l : Launch} {e : Env} {R : Room} {s : State} {m : MethodId} {args : Array Value} {below : List Frame} {meth : Method} {c : Code} {T : State} {cells slots : Nat} {Z : State} {a0 : Array Value} {h h' : Heap} {n0 : Nat} {G : State → Outcome → Prop} {a b : Addr} {n j : Int32}
theorem own_At.mono (A : own_At p l e R s m args below meth c n0 T h cells slots) {cells' slots' : Nat} (hc : cells ≤ cells') (hs : slots ≤ slots') : own_At p l e R s m args below meth c n0 T h cells' slots' := by
  obtain ⟨locs, X, eT, N⟩ := A
  exact ⟨locs, X.mono hc hs, eT, N⟩
/-- newarray of a kind of ints, with the class of what it makes -/
theorem own_newPE (A : own_At p l e R s m args below meth c n0 T h cells slots) (hx : p.tables.exec = Jvm.exec) (hZ : Z.Warmed39 s.vm) {aty : ArrayType} (w : (Cond.arrayClass (newarray.typeOf aty)).before a0 Z = true) (hty : defaultValue (newarray.typeOf aty) = .int 0) {g : JFrame} (hg : g.method = m) (hd : decode c.code g.pc = .ok (.newarray aty, 2)) {rest : List Value} (hs : g.stack = .int n :: rest)
    (hn : ¬ n < 0) (cap : Nat) (hcap : n.toNatClampNeg ≤ cap) {ad : String} (had : "[" ++ (newarray.typeOf aty).toString = ad) (hb : cap * 8 ≤ 536870912) (hc : cells + 1 ≤ R.cells) (hl : slots + cap ≤ R.slots)
    (kk : ∀ T' h' a, a = h.size → own_At p l e R s m args below meth c n0 T' h' (cells + 1) (slots + cap) → Ext h h' → own_Arr Z h' a (newarray.typeOf aty) n (fun _ => 0) → Exa Z h' a ad → own_Go p.tables e below G (T'.setTop { g with pc := g.pc + 2, stack := .ref a :: rest })) : own_Go p.tables e below G (T.setTop g) := by
  obtain ⟨locs, X, eT, N⟩ := A
  obtain ⟨T1, h1, k1, X1, e1, E1, A1, Ex, st⟩ := newPE X hx hZ w eT hg hd hs hn hcap hb hc hl had
  refine own_go st (kk T1 h1 h.size rfl ⟨_, X1, e1, N⟩ E1 ⟨_, A1, sz_new _ _ _, hn, fun i hi hin => ?_⟩ Ex)
  have q := inb_of (c := newA k1 (newarray.typeOf aty) n) (sz_new _ _ _) ⟨hi, hin⟩
  rw [sz_new] at q
  rw [get_new q, hty]
end OwnNewE
theorem own_shr0 (x : Int32) : x >>> ((0 : Int32) &&& 31) = x := by rw [show (0 : Int32) &&& 31 = 0 from rfl]; apply Int32.toBitVec_inj.mp; simp
theorem own_shl0 (x : Int32) : x <<< ((0 : Int32) &&& 31) = x := by rw [show (0 : Int32) &&& 31 = 0 from rfl]; apply Int32.toBitVec_inj.mp; simp
theorem own_cap16 (a b cap : Nat) (h : a + b ≤ cap) (hc : cap < 2 ^ 29) : ¬ (0 : Int32) < (Int32.ofNat (a + b) - (Int32.ofNat cap)) := by
  have h1 := c_isub (Int32.ofNat (a + b)) (Int32.ofNat cap)
  have h2 := rng32 (Int32.ofNat (a + b) - (Int32.ofNat cap))
  rw [own_nI (by omega), own_nI (by omega)] at h1
  have e0 : (0 : Int32).toInt = 0 := rfl
  rw [Int32.lt_iff_toInt_lt]
  omega
theorem own_sub0 (x : Int32) : x - (0 : Int32) = x := Int32.sub_zero x
theorem ef_6 (m : MethodId) (r0 : Addr) : entryFrame m #[(.ref r0)] 1 = mkF m 0 #[.val (.ref r0)] [] := by first | (simp [entryFrame, mkF, argsToLocals, Value.category]; done) | rfl
theorem pn_6 : plainName "java/lang/String" = true := by first | (simp [plainName, overriddenIn]; done) | decide +kernel
theorem d6_0 : decode jdk_42_method_152_code 0 = .ok (.getstatic 38, 3) := by decide +kernel
theorem d6_3 : decode jdk_42_method_152_code 3 = .ok (.ifCond .eq 10, 3) := by decide +kernel
theorem d6_6 : decode jdk_42_method_152_code 6 = .ok (.aload_n 0, 1) := by decide +kernel
theorem d6_7 : decode jdk_42_method_152_code 7 = .ok (.getfield 15, 3) := by decide +kernel
theorem d6_10 : decode jdk_42_method_152_code 10 = .ok (.goto 4, 3) := by decide +kernel
theorem d6_14 : decode jdk_42_method_152_code 14 = .ok (.ireturn, 1) := by decide +kernel
set_option maxRecDepth 65536 in
set_option maxHeartbeats 40000000 in
theorem rm6 (l : Launch) (Z : State) (a0 : Array Value) (hw : ∀ d ∈ tables_1, d.before a0 Z = true) (r0 : Addr) (z_C : Int32) (h0 : Heap) (n0 : Nat) (S_C0 : Sta Z h0 "java/lang/String" "COMPACT_STRINGS" "Z" (.int z_C)) (hz : ¬ z_C = 0) (Fc : Fld Z h0 r0 "java/lang/String" "coder" "B" (.int (0 : Int32))) :
    own_Met l Z n0 (⟨"java/lang/String", "coder", "()B"⟩ : MethodName) jdk_42_method_152_code 1 (some .byte) ({ frames := 0, cells := 0, slots := 0, locals := 0 } : Room) #[(.ref r0)] h0 (fun v h => v = some (.int 0) ∧ h0 = h) := by
  refine own_met (plainFor_of_name pn_6) ?_
  intro p e s m below meth c T0 hx hby hml hown hnm hret hlk hZ A0
  rw [ef_6]
  show own_Go _ _ _ _ (T0.setTop (mkF m 0 #[.val (.ref r0)] []))
  refine own_getS A0 hx hZ hown (host := "") (Or.inl (hw _ (List.mem_of_getElem? (i := 38) rfl))) Via.refl S_C0 rfl (hb hby d6_0) (fun T1 A2 => ?_)
  show own_Go _ _ _ _ (T1.setTop (mkF m 3 #[.val (.ref r0)] [(.int z_C)]))
  have hc3 : ¬ (z_C = (0 : Int32)) := hz
  refine own_go (fun t_ k_ => XS.ifNo A2.here hx rfl (hb hby d6_3) rfl ((if0 _ _).trans (feq hc3).1) k_) ?_
  show own_Go _ _ _ _ (T1.setTop (mkF m 6 #[.val (.ref r0)] []))
  refine own_go (fun t_ k_ => XS.aloadN A2.here hx rfl (hb hby d6_6) rfl rfl k_) ?_
  show own_Go _ _ _ _ (T1.setTop (mkF m 7 #[.val (.ref r0)] [(.ref r0)]))
  refine own_getF A2 hx hZ hown (host := "") (Or.inl (hw _ (List.mem_of_getElem? (i := 39) rfl))) Via.refl Fc rfl rfl (hb hby d6_7) (fun T4 A5 => ?_)
  show own_Go _ _ _ _ (T4.setTop (mkF m 10 #[.val (.ref r0)] [(.int (0 : Int32))]))
  refine own_go (fun t_ k_ => XS.goto A5.here hx rfl (pc0 := 10) (pc' := 14) rfl (hb hby d6_10) (by decide) (by decide) k_) ?_
  show own_Go _ _ _ _ (T4.setTop (mkF m 14 #[.val (.ref r0)] [(.int (0 : Int32))]))
  refine own_retN A5 hx (t := .byte) hret (by simp) hlk (by decide) (by decide) (hb hby d6_14) ?_
  exact ⟨rfl, rfl⟩
theorem ef_5 (m : MethodId) (r0 : Addr) : entryFrame m #[(.ref r0)] 1 = mkF m 0 #[.val (.ref r0)] [] := by first | (simp [entryFrame, mkF, argsToLocals, Value.category]; done) | rfl
theorem d5_0 : decode jdk_42_method_54_code 0 = .ok (.aload_n 0, 1) := by decide +kernel
theorem d5_1 : decode jdk_42_method_54_code 1 = .ok (.getfield 9, 3) := by decide +kernel
theorem d5_4 : decode jdk_42_method_54_code 4 = .ok (.arraylength, 1) := by decide +kernel
theorem d5_5 : decode jdk_42_method_54_code 5 = .ok (.aload_n 0, 1) := by decide +kernel
theorem d5_6 : decode jdk_42_method_54_code 6 = .ok (.invokevirtual 335, 3) := by decide +kernel
theorem pd___B : parseMethodDescriptor "()B" = some ⟨[], some .byte⟩ := by decide +kernel
theorem d5_9 : decode jdk_42_method_54_code 9 = .ok (.ishr, 1) := by decide +kernel
theorem d5_10 : decode jdk_42_method_54_code 10 = .ok (.ireturn, 1) := by decide +kernel
set_option maxRecDepth 65536 in
set_option maxHeartbeats 40000000 in
theorem rm5 (l : Launch) (Z : State) (a0 : Array Value) (hw : ∀ d ∈ tables_1, d.before a0 Z = true) (r0 : Addr) (z_C : Int32) (t0 : Addr) (f : Int32 → Int32) (xs : List Int32) (h0 : Heap) (n0 : Nat) (S_C0 : Sta Z h0 "java/lang/String" "COMPACT_STRINGS" "Z" (.int z_C)) (hz : ¬ z_C = 0) (Es : Exa Z h0 r0 "java/lang/String") (Fcs : Fld Z h0 r0 "java/lang/String" "coder" "B" (.int (0 : Int32))) (Fvs : Fld Z h0 r0 "java/lang/String" "value" "[B" (.ref t0)) (Vs : own_Arr Z h0 t0 .byte (Int32.ofNat xs.length) f) :
    own_Met l Z n0 (⟨"java/lang/String", "length", "()I"⟩ : MethodName) jdk_42_method_54_code 1 (some .int) ({ frames := 1, cells := 0, slots := 0, locals := 13 } : Room) #[(.ref r0)] h0 (fun v h => v = some (.int (Int32.ofNat xs.length)) ∧ h0 = h) := by
  refine own_met (plainFor_of_name pn_6) ?_
  intro p e s m below meth c T0 hx hby hml hown hnm hret hlk hZ A0
  rw [ef_5]
  show own_Go _ _ _ _ (T0.setTop (mkF m 0 #[.val (.ref r0)] []))
  refine own_go (fun t_ k_ => XS.aloadN A0.here hx rfl (hb hby d5_0) rfl rfl k_) ?_
  show own_Go _ _ _ _ (T0.setTop (mkF m 1 #[.val (.ref r0)] [(.ref r0)]))
  refine own_getF A0 hx hZ hown (host := "") (Or.inl (hw _ (List.mem_of_getElem? (i := 32) rfl))) Via.refl Fvs rfl rfl (hb hby d5_1) (fun T1 A2 => ?_)
  show own_Go _ _ _ _ (T1.setTop (mkF m 4 #[.val (.ref r0)] [(.ref t0)]))
  refine own_len A2 hx hZ Vs rfl rfl (hb hby d5_4) ?_
  show own_Go _ _ _ _ (T1.setTop (mkF m 5 #[.val (.ref r0)] [(.int (Int32.ofNat xs.length))]))
  refine own_go (fun t_ k_ => XS.aloadN A2.here hx rfl (hb hby d5_5) rfl rfl k_) ?_
  show own_Go _ _ _ _ (T1.setTop (mkF m 6 #[.val (.ref r0)] [(.ref r0), (.int (Int32.ofNat xs.length))]))
  refine own_callV A2 hx hZ (y := (⟨"java/lang/String", "coder", "()B"⟩ : MethodName)) (z := (⟨"java/lang/String", "coder", "()B"⟩ : MethodName)) hown (hw _ (List.mem_of_getElem? (i := 33) rfl)) (hw _ (List.mem_of_getElem? (i := 34) rfl)) (hw _ (List.mem_of_getElem? (i := 36) rfl)) (hw _ (List.mem_of_getElem? (i := 35) rfl)) (hw _ (List.mem_of_getElem? (i := 8) rfl)) (hw _ (List.mem_of_getElem? (i := 37) rfl)) (notFace_of_selects (args := #[]) (mvT hZ (hw _ (List.mem_of_getElem? (i := 36) rfl)))) (by decide) (b := r0) (argsL := []) (rest := [(.int (Int32.ofNat xs.length))]) Es (rm6 l Z a0 hw r0 z_C h0 n0 S_C0 hz Fcs) 1 (by decide) (by decide) rfl (by rw [hml]; rfl) (lenOf pd___B rfl) rfl (by show 2 * 0 + _ ≤ _; exact Nat.le_of_eq rfl) (hb hby d5_6) (by decide) (by decide) (fun v6 T3 h5 A4 hQ7 => ?_)
  obtain ⟨rfl, rfl⟩ := hQ7
  show own_Go _ _ _ _ (T3.setTop (mkF m 9 #[.val (.ref r0)] [(.int (0 : Int32)), (.int (Int32.ofNat xs.length))]))
  refine own_go (fun t_ k_ => XS.ishr A4.here hx rfl (hb hby d5_9) rfl k_) ?_
  show own_Go _ _ _ _ (T3.setTop (mkF m 10 #[.val (.ref r0)] [(.int ((Int32.ofNat xs.length) >>> ((0 : Int32) &&& 31)))]))
  rw [own_shr0]
  show own_Go _ _ _ _ (T3.setTop (mkF m 10 #[.val (.ref r0)] [(.int (Int32.ofNat xs.length))]))
  refine own_retI A4 hx hret hlk (by decide) (by decide) (hb hby d5_10) ?_
  exact ⟨rfl, rfl⟩
theorem ef_10 (m : MethodId) (r0 : Addr) (p1 : Int32) : entryFrame m #[(.ref r0), (.int p1)] 3 = mkF m 0 #[.val (.ref r0), .val (.int p1), .unset] [] := by first | (simp [entryFrame, mkF, argsToLocals, Value.category]; done) | rfl
theorem pn_10 : plainName "java/lang/AbstractStringBuilder" = true := by first | (simp [plainName, overriddenIn]; done) | decide +kernel
theorem d10_0 : decode jdk_68_method_9_code 0 = .ok (.aload_n 0, 1) := by decide +kernel
theorem d10_1 : decode jdk_68_method_9_code 1 = .ok (.getfield 15, 3) := by decide +kernel
theorem d10_4 : decode jdk_68_method_9_code 4 = .ok (.arraylength, 1) := by decide +kernel
theorem d10_5 : decode jdk_68_method_9_code 5 = .ok (.aload_n 0, 1) := by decide +kernel
theorem d10_6 : decode jdk_68_method_9_code 6 = .ok (.getfield 22, 3) := by decide +kernel
theorem d10_9 : decode jdk_68_method_9_code 9 = .ok (.ishr, 1) := by decide +kernel
theorem d10_10 : decode jdk_68_method_9_code 10 = .ok (.istore_n 2, 1) := by decide +kernel
theorem d10_11 : decode jdk_68_method_9_code 11 = .ok (.iload_n 1, 1) := by decide +kernel
theorem d10_12 : decode jdk_68_method_9_code 12 = .ok (.iload_n 2, 1) := by decide +kernel
theorem d10_13 : decode jdk_68_method_9_code 13 = .ok (.isub, 1) := by decide +kernel
theorem d10_14 : decode jdk_68_method_9_code 14 = .ok (.ifCond .le 24, 3) := by decide +kernel
theorem d10_38 : decode jdk_68_method_9_code 38 = .ok (.return_, 1) := by decide +kernel
set_option maxRecDepth 65536 in
set_option maxHeartbeats 40000000 in
theorem rm10 (l : Launch) (Z : State) (a0 : Array Value) (hw : ∀ d ∈ tables_1, d.before a0 Z = true) (r0 : Addr) (p1 : Int32) (v0 : Addr) (g : Int32 → Int32) (pc_ : Int32) (cap : Nat) (h0 : Heap) (n0 : Nat) (Eb : Exa Z h0 r0 "java/lang/StringBuilder") (Fbv : Fld Z h0 r0 "java/lang/AbstractStringBuilder" "value" "[B" (.ref v0)) (Fbc : Fld Z h0 r0 "java/lang/AbstractStringBuilder" "coder" "B" (.int (0 : Int32))) (Fbn : Fld Z h0 r0 "java/lang/AbstractStringBuilder" "count" "I" (.int pc_)) (Fbm : Fld Z h0 r0 "java/lang/AbstractStringBuilder" "maybeLatin1" "Z" (.int (0 : Int32))) (Vb : own_Arr Z h0 v0 .byte (Int32.ofNat cap) g) (hcb : cap < 2 ^ 29) (hcap : ¬ (0 : Int32) < (p1 - (Int32.ofNat cap))) :
    own_Met l Z n0 (⟨"java/lang/AbstractStringBuilder", "ensureCapacityInternal", "(I)V"⟩ : MethodName) jdk_68_method_9_code 3 none ({ frames := 0, cells := 0, slots := 0, locals := 0 } : Room) #[(.ref r0), (.int p1)] h0 (fun v h => v = none ∧ h0 = h) := by
  refine own_met (plainFor_of_name pn_10) ?_
  intro p e s m below meth c T0 hx hby hml hown hnm hret hlk hZ A0
  rw [ef_10]
  show own_Go _ _ _ _ (T0.setTop (mkF m 0 #[.val (.ref r0), .val (.int p1), .unset] []))
  refine own_go (fun t_ k_ => XS.aloadN A0.here hx rfl (hb hby d10_0) rfl rfl k_) ?_
  show own_Go _ _ _ _ (T0.setTop (mkF m 1 #[.val (.ref r0), .val (.int p1), .unset] [(.ref r0)]))
  refine own_getF A0 hx hZ hown (host := "") (Or.inl (hw _ (List.mem_of_getElem? (i := 44) rfl))) Via.refl Fbv rfl rfl (hb hby d10_1) (fun T1 A2 => ?_)
  show own_Go _ _ _ _ (T1.setTop (mkF m 4 #[.val (.ref r0), .val (.int p1), .unset] [(.ref v0)]))
  refine own_len A2 hx hZ Vb rfl rfl (hb hby d10_4) ?_
  show own_Go _ _ _ _ (T1.setTop (mkF m 5 #[.val (.ref r0), .val (.int p1), .unset] [(.int (Int32.ofNat cap))]))
  refine own_go (fun t_ k_ => XS.aloadN A2.here hx rfl (hb hby d10_5) rfl rfl k_) ?_
  show own_Go _ _ _ _ (T1.setTop (mkF m 6 #[.val (.ref r0), .val (.int p1), .unset] [(.ref r0), (.int (Int32.ofNat cap))]))
  refine own_getF A2 hx hZ hown (host := "") (Or.inl (hw _ (List.mem_of_getElem? (i := 42) rfl))) Via.refl Fbc rfl rfl (hb hby d10_6) (fun T3 A4 => ?_)
  show own_Go _ _ _ _ (T3.setTop (mkF m 9 #[.val (.ref r0), .val (.int p1), .unset] [(.int (0 : Int32)), (.int (Int32.ofNat cap))]))
  refine own_go (fun t_ k_ => XS.ishr A4.here hx rfl (hb hby d10_9) rfl k_) ?_
  show own_Go _ _ _ _ (T3.setTop (mkF m 10 #[.val (.ref r0), .val (.int p1), .unset] [(.int ((Int32.ofNat cap) >>> ((0 : Int32) &&& 31)))]))
  rw [own_shr0]
  show own_Go _ _ _ _ (T3.setTop (mkF m 10 #[.val (.ref r0), .val (.int p1), .unset] [(.int (Int32.ofNat cap))]))
  refine own_go (fun t_ k_ => XS.istoreN A4.here hx rfl (hb hby d10_10) rfl (l' := #[.val (.ref r0), .val (.int p1), .val (.int (Int32.ofNat cap))]) rfl k_) ?_
  show own_Go _ _ _ _ (T3.setTop (mkF m 11 #[.val (.ref r0), .val (.int p1), .val (.int (Int32.ofNat cap))] []))
  refine own_go (fun t_ k_ => XS.iloadN A4.here hx rfl (hb hby d10_11) rfl k_) ?_
  show own_Go _ _ _ _ (T3.setTop (mkF m 12 #[.val (.ref r0), .val (.int p1), .val (.int (Int32.ofNat cap))] [(.int p1)]))
  refine own_go (fun t_ k_ => XS.iloadN A4.here hx rfl (hb hby d10_12) rfl k_) ?_
  show own_Go _ _ _ _ (T3.setTop (mkF m 13 #[.val (.ref r0), .val (.int p1), .val (.int (Int32.ofNat cap))] [(.int (Int32.ofNat cap)), (.int p1)]))
  refine own_go (fun t_ k_ => XS.isub A4.here hx rfl (hb hby d10_13) rfl k_) ?_
  show own_Go _ _ _ _ (T3.setTop (mkF m 14 #[.val (.ref r0), .val (.int p1), .val (.int (Int32.ofNat cap))] [(.int (p1 - (Int32.ofNat cap)))]))
  have hc5 : ¬ ((0 : Int32) < (p1 - (Int32.ofNat cap))) := hcap
  refine own_go (fun t_ k_ => XS.ifYes A4.here hx rfl (pc0 := 14) (pc' := 38) rfl (hb hby d10_14) rfl ((if0 _ _).trans (flt hc5).2.2.2) (by decide) (by decide) k_) ?_
  show own_Go _ _ _ _ (T3.setTop (mkF m 38 #[.val (.ref r0), .val (.int p1), .val (.int (Int32.ofNat cap))] []))
  refine own_retV A4 hx hret hlk (by decide) (by decide) (hb hby d10_38) ?_
  exact ⟨rfl, rfl⟩
theorem ef_12 (m : MethodId) (r0 : Addr) (r1 : Addr) : entryFrame m #[(.ref r0), (.ref r1)] 2 = mkF m 0 #[.val (.ref r0), .val (.ref r1)] [] := by first | (simp [entryFrame, mkF, argsToLocals, Value.category]; done) | rfl
theorem d12_0 : decode jdk_68_method_71_code 0 = .ok (.getstatic 18, 3) := by decide +kernel
theorem d12_3 : decode jdk_68_method_71_code 3 = .ok (.ifCond .eq 18, 3) := by decide +kernel
theorem d12_6 : decode jdk_68_method_71_code 6 = .ok (.aload_n 0, 1) := by decide +kernel
theorem d12_7 : decode jdk_68_method_71_code 7 = .ok (.getfield 22, 3) := by decide +kernel
theorem d12_10 : decode jdk_68_method_71_code 10 = .ok (.aload_n 1, 1) := by decide +kernel
theorem d12_11 : decode jdk_68_method_71_code 11 = .ok (.invokevirtual 40, 3) := by decide +kernel
theorem d12_14 : decode jdk_68_method_71_code 14 = .ok (.if_icmp .eq 7, 3) := by decide +kernel
theorem d12_21 : decode jdk_68_method_71_code 21 = .ok (.return_, 1) := by decide +kernel
set_option maxRecDepth 65536 in
set_option maxHeartbeats 40000000 in
theorem rm12 (l : Launch) (Z : State) (a0 : Array Value) (hw : ∀ d ∈ tables_1, d.before a0 Z = true) (r0 : Addr) (r1 : Addr) (z_C : Int32) (h0 : Heap) (n0 : Nat) (S_C0 : Sta Z h0 "java/lang/String" "COMPACT_STRINGS" "Z" (.int z_C)) (hz : ¬ z_C = 0) (Fbc : Fld Z h0 r0 "java/lang/AbstractStringBuilder" "coder" "B" (.int (0 : Int32))) (E1 : Exa Z h0 r1 "java/lang/String") (Fc1 : Fld Z h0 r1 "java/lang/String" "coder" "B" (.int (0 : Int32))) :
    own_Met l Z n0 (⟨"java/lang/AbstractStringBuilder", "inflateIfNeededFor", "(Ljava/lang/String;)V"⟩ : MethodName) jdk_68_method_71_code 2 none ({ frames := 1, cells := 0, slots := 0, locals := 13 } : Room) #[(.ref r0), (.ref r1)] h0 (fun v h => v = none ∧ h0 = h) := by
  refine own_met (plainFor_of_name pn_10) ?_
  intro p e s m below meth c T0 hx hby hml hown hnm hret hlk hZ A0
  rw [ef_12]
  show own_Go _ _ _ _ (T0.setTop (mkF m 0 #[.val (.ref r0), .val (.ref r1)] []))
  refine own_getS A0 hx hZ hown (host := "") (Or.inl (hw _ (List.mem_of_getElem? (i := 77) rfl))) Via.refl S_C0 rfl (hb hby d12_0) (fun T1 A2 => ?_)
  show own_Go _ _ _ _ (T1.setTop (mkF m 3 #[.val (.ref r0), .val (.ref r1)] [(.int z_C)]))
  have hc3 : ¬ (z_C = (0 : Int32)) := hz
  refine own_go (fun t_ k_ => XS.ifNo A2.here hx rfl (hb hby d12_3) rfl ((if0 _ _).trans (feq hc3).1) k_) ?_
  show own_Go _ _ _ _ (T1.setTop (mkF m 6 #[.val (.ref r0), .val (.ref r1)] []))
  refine own_go (fun t_ k_ => XS.aloadN A2.here hx rfl (hb hby d12_6) rfl rfl k_) ?_
  show own_Go _ _ _ _ (T1.setTop (mkF m 7 #[.val (.ref r0), .val (.ref r1)] [(.ref r0)]))
  refine own_getF A2 hx hZ hown (host := "") (Or.inl (hw _ (List.mem_of_getElem? (i := 42) rfl))) Via.refl Fbc rfl rfl (hb hby d12_7) (fun T4 A5 => ?_)
  show own_Go _ _ _ _ (T4.setTop (mkF m 10 #[.val (.ref r0), .val (.ref r1)] [(.int (0 : Int32))]))
  refine own_go (fun t_ k_ => XS.aloadN A5.here hx rfl (hb hby d12_10) rfl rfl k_) ?_
  show own_Go _ _ _ _ (T4.setTop (mkF m 11 #[.val (.ref r0), .val (.ref r1)] [(.ref r1), (.int (0 : Int32))]))
  refine own_callV A5 hx hZ (y := (⟨"java/lang/String", "coder", "()B"⟩ : MethodName)) (z := (⟨"java/lang/String", "coder", "()B"⟩ : MethodName)) hown (hw _ (List.mem_of_getElem? (i := 41) rfl)) (hw _ (List.mem_of_getElem? (i := 34) rfl)) (hw _ (List.mem_of_getElem? (i := 36) rfl)) (hw _ (List.mem_of_getElem? (i := 35) rfl)) (hw _ (List.mem_of_getElem? (i := 8) rfl)) (hw _ (List.mem_of_getElem? (i := 37) rfl)) (notFace_of_selects (args := #[]) (mvT hZ (hw _ (List.mem_of_getElem? (i := 36) rfl)))) (by decide) (b := r1) (argsL := []) (rest := [(.int (0 : Int32))]) E1 (rm6 l Z a0 hw r1 z_C h0 n0 S_C0 hz Fc1) 1 (by decide) (by decide) rfl (by rw [hml]; rfl) (lenOf pd___B rfl) rfl (by show 2 * 0 + _ ≤ _; exact Nat.le_of_eq rfl) (hb hby d12_11) (by decide) (by decide) (fun v9 T6 h8 A7 hQ10 => ?_)
  obtain ⟨rfl, rfl⟩ := hQ10
  show own_Go _ _ _ _ (T6.setTop (mkF m 14 #[.val (.ref r0), .val (.ref r1)] [(.int (0 : Int32)), (.int (0 : Int32))]))
  have hc11 : (0 : Int32) = (0 : Int32) := (by decide)
  refine own_go (fun t_ k_ => XS.icmpYes A7.here hx rfl (pc0 := 14) (pc' := 21) rfl (hb hby d12_14) rfl (teq hc11).1 (by decide) (by decide) k_) ?_
  show own_Go _ _ _ _ (T6.setTop (mkF m 21 #[.val (.ref r0), .val (.ref r1)] []))
  refine own_retV A7 hx hret hlk (by decide) (by decide) (hb hby d12_21) ?_
  exact ⟨rfl, rfl⟩
theorem ef_13 (m : MethodId) (r0 : Addr) (r1 : Addr) (y2 : Int32) (y3 : Int32) : entryFrame m #[(.ref r0), (.ref r1), (.int y2), (.int y3)] 4 = mkF m 0 #[.val (.ref r0), .val (.ref r1), .val (.int y2), .val (.int y3)] [] := by first | (simp [entryFrame, mkF, argsToLocals, Value.category]; done) | rfl
theorem d13_0 : decode jdk_42_method_147_code 0 = .ok (.aload_n 0, 1) := by decide +kernel
theorem d13_1 : decode jdk_42_method_147_code 1 = .ok (.invokevirtual 335, 3) := by decide +kernel
theorem d13_4 : decode jdk_42_method_147_code 4 = .ok (.iload_n 3, 1) := by decide +kernel
theorem d13_5 : decode jdk_42_method_147_code 5 = .ok (.if_icmp .ne 23, 3) := by decide +kernel
theorem d13_8 : decode jdk_42_method_147_code 8 = .ok (.aload_n 0, 1) := by decide +kernel
theorem d13_9 : decode jdk_42_method_147_code 9 = .ok (.getfield 9, 3) := by decide +kernel
theorem d13_12 : decode jdk_42_method_147_code 12 = .ok (.iconst 0, 1) := by decide +kernel
theorem d13_13 : decode jdk_42_method_147_code 13 = .ok (.aload_n 1, 1) := by decide +kernel
theorem d13_14 : decode jdk_42_method_147_code 14 = .ok (.iload_n 2, 1) := by decide +kernel
theorem d13_15 : decode jdk_42_method_147_code 15 = .ok (.iload_n 3, 1) := by decide +kernel
theorem d13_16 : decode jdk_42_method_147_code 16 = .ok (.ishl, 1) := by decide +kernel
theorem d13_17 : decode jdk_42_method_147_code 17 = .ok (.aload_n 0, 1) := by decide +kernel
theorem d13_18 : decode jdk_42_method_147_code 18 = .ok (.getfield 9, 3) := by decide +kernel
theorem d13_21 : decode jdk_42_method_147_code 21 = .ok (.arraylength, 1) := by decide +kernel
theorem d13_22 : decode jdk_42_method_147_code 22 = .ok (.invokestatic 212, 3) := by decide +kernel
theorem d13_25 : decode jdk_42_method_147_code 25 = .ok (.goto 18, 3) := by decide +kernel
theorem d13_43 : decode jdk_42_method_147_code 43 = .ok (.return_, 1) := by decide +kernel
set_option maxRecDepth 65536 in
set_option maxHeartbeats 40000000 in
theorem rm13 (l : Launch) (Z : State) (a0 : Array Value) (hw : ∀ d ∈ tables_1, d.before a0 Z = true) (r0 : Addr) (r1 : Addr) (z_C : Int32) (t0 : Addr) (f : Int32 → Int32) (xs : List Int32) (g : Int32 → Int32) (dp : Nat) (cap : Nat) (h0 : Heap) (n0 : Nat) (S_C0 : Sta Z h0 "java/lang/String" "COMPACT_STRINGS" "Z" (.int z_C)) (hz : ¬ z_C = 0) (Es : Exa Z h0 r0 "java/lang/String") (Fcs : Fld Z h0 r0 "java/lang/String" "coder" "B" (.int (0 : Int32))) (Fvs : Fld Z h0 r0 "java/lang/String" "value" "[B" (.ref t0)) (Vs : own_Arr Z h0 t0 .byte (Int32.ofNat xs.length) f) (Vb : own_Arr Z h0 r1 .byte (Int32.ofNat cap) g) (g1 : n0 ≤ r1) (ne_t0_r1 : t0 ≠ r1) (ne_r0_r1 : r0 ≠ r1) (Bs : own_Byt f xs.length) (Bb : own_Byt g cap) (hfit : dp + xs.length ≤ cap) (hcb : cap < 2 ^ 29) :
    own_Met l Z n0 (⟨"java/lang/String", "getBytes", "([BIB)V"⟩ : MethodName) jdk_42_method_147_code 4 none ({ frames := 1, cells := 0, slots := 0, locals := 40 } : Room) #[(.ref r0), (.ref r1), (.int (Int32.ofNat dp)), (.int (0 : Int32))] h0 (fun v h => v = none ∧ Keep h0 h [r1] ∧ own_Arr Z h r1 .byte (Int32.ofNat cap) (own_cpf f 0 dp xs.length g)) := by
  refine own_met (plainFor_of_name pn_6) ?_
  intro p e s m below meth c T0 hx hby hml hown hnm hret hlk hZ A0
  rw [ef_13]
  show own_Go _ _ _ _ (T0.setTop (mkF m 0 #[.val (.ref r0), .val (.ref r1), .val (.int (Int32.ofNat dp)), .val (.int (0 : Int32))] []))
  refine own_go (fun t_ k_ => XS.aloadN A0.here hx rfl (hb hby d13_0) rfl rfl k_) ?_
  show own_Go _ _ _ _ (T0.setTop (mkF m 1 #[.val (.ref r0), .val (.ref r1), .val (.int (Int32.ofNat dp)), .val (.int (0 : Int32))] [(.ref r0)]))
  refine own_callV A0 hx hZ (y := (⟨"java/lang/String", "coder", "()B"⟩ : MethodName)) (z := (⟨"java/lang/String", "coder", "()B"⟩ : MethodName)) hown (hw _ (List.mem_of_getElem? (i := 33) rfl)) (hw _ (List.mem_of_getElem? (i := 34) rfl)) (hw _ (List.mem_of_getElem? (i := 36) rfl)) (hw _ (List.mem_of_getElem? (i := 35) rfl)) (hw _ (List.mem_of_getElem? (i := 8) rfl)) (hw _ (List.mem_of_getElem? (i := 37) rfl)) (notFace_of_selects (args := #[]) (mvT hZ (hw _ (List.mem_of_getElem? (i := 36) rfl)))) (by decide) (b := r0) (argsL := []) (rest := []) Es (rm6 l Z a0 hw r0 z_C h0 n0 S_C0 hz Fcs) 0 (by decide) (by decide) rfl (by rw [hml]; rfl) (lenOf pd___B rfl) rfl (by show 2 * 0 + _ ≤ _; exact Nat.le_of_eq rfl) (hb hby d13_1) (by decide) (by decide) (fun v4 T1 h3 A2 hQ5 => ?_)
  obtain ⟨rfl, rfl⟩ := hQ5
  show own_Go _ _ _ _ (T1.setTop (mkF m 4 #[.val (.ref r0), .val (.ref r1), .val (.int (Int32.ofNat dp)), .val (.int (0 : Int32))] [(.int (0 : Int32))]))
  refine own_go (fun t_ k_ => XS.iloadN A2.here hx rfl (hb hby d13_4) rfl k_) ?_
  show own_Go _ _ _ _ (T1.setTop (mkF m 5 #[.val (.ref r0), .val (.ref r1), .val (.int (Int32.ofNat dp)), .val (.int (0 : Int32))] [(.int (0 : Int32)), (.int (0 : Int32))]))
  have hc6 : (0 : Int32) = (0 : Int32) := (by decide)
  refine own_go (fun t_ k_ => XS.icmpNo A2.here hx rfl (hb hby d13_5) rfl (teq hc6).2 k_) ?_
  show own_Go _ _ _ _ (T1.setTop (mkF m 8 #[.val (.ref r0), .val (.ref r1), .val (.int (Int32.ofNat dp)), .val (.int (0 : Int32))] []))
  refine own_go (fun t_ k_ => XS.aloadN A2.here hx rfl (hb hby d13_8) rfl rfl k_) ?_
  show own_Go _ _ _ _ (T1.setTop (mkF m 9 #[.val (.ref r0), .val (.ref r1), .val (.int (Int32.ofNat dp)), .val (.int (0 : Int32))] [(.ref r0)]))
  refine own_getF A2 hx hZ hown (host := "") (Or.inl (hw _ (List.mem_of_getElem? (i := 32) rfl))) Via.refl Fvs rfl rfl (hb hby d13_9) (fun T7 A8 => ?_)
  show own_Go _ _ _ _ (T7.setTop (mkF m 12 #[.val (.ref r0), .val (.ref r1), .val (.int (Int32.ofNat dp)), .val (.int (0 : Int32))] [(.ref t0)]))
  refine own_go (fun t_ k_ => XS.iconst A8.here hx rfl (hb hby d13_12) k_) ?_
  show own_Go _ _ _ _ (T7.setTop (mkF m 13 #[.val (.ref r0), .val (.ref r1), .val (.int (Int32.ofNat dp)), .val (.int (0 : Int32))] [(.int (0 : Int32)), (.ref t0)]))
  refine own_go (fun t_ k_ => XS.aloadN A8.here hx rfl (hb hby d13_13) rfl rfl k_) ?_
  show own_Go _ _ _ _ (T7.setTop (mkF m 14 #[.val (.ref r0), .val (.ref r1), .val (.int (Int32.ofNat dp)), .val (.int (0 : Int32))] [(.ref r1), (.int (0 : Int32)), (.ref t0)]))
  refine own_go (fun t_ k_ => XS.iloadN A8.here hx rfl (hb hby d13_14) rfl k_) ?_
  show own_Go _ _ _ _ (T7.setTop (mkF m 15 #[.val (.ref r0), .val (.ref r1), .val (.int (Int32.ofNat dp)), .val (.int (0 : Int32))] [(.int (Int32.ofNat dp)), (.ref r1), (.int (0 : Int32)), (.ref t0)]))
  refine own_go (fun t_ k_ => XS.iloadN A8.here hx rfl (hb hby d13_15) rfl k_) ?_
  show own_Go _ _ _ _ (T7.setTop (mkF m 16 #[.val (.ref r0), .val (.ref r1), .val (.int (Int32.ofNat dp)), .val (.int (0 : Int32))] [(.int (0 : Int32)), (.int (Int32.ofNat dp)), (.ref r1), (.int (0 : Int32)), (.ref t0)]))
  refine own_go (fun t_ k_ => XS.ishl A8.here hx rfl (hb hby d13_16) rfl k_) ?_
  show own_Go _ _ _ _ (T7.setTop (mkF m 17 #[.val (.ref r0), .val (.ref r1), .val (.int (Int32.ofNat dp)), .val (.int (0 : Int32))] [(.int ((Int32.ofNat dp) <<< ((0 : Int32) &&& 31))), (.ref r1), (.int (0 : Int32)), (.ref t0)]))
  rw [own_shl0]
  show own_Go _ _ _ _ (T7.setTop (mkF m 17 #[.val (.ref r0), .val (.ref r1), .val (.int (Int32.ofNat dp)), .val (.int (0 : Int32))] [(.int (Int32.ofNat dp)), (.ref r1), (.int (0 : Int32)), (.ref t0)]))
  refine own_go (fun t_ k_ => XS.aloadN A8.here hx rfl (hb hby d13_17) rfl rfl k_) ?_
  show own_Go _ _ _ _ (T7.setTop (mkF m 18 #[.val (.ref r0), .val (.ref r1), .val (.int (Int32.ofNat dp)), .val (.int (0 : Int32))] [(.ref r0), (.int (Int32.ofNat dp)), (.ref r1), (.int (0 : Int32)), (.ref t0)]))
  refine own_getF A8 hx hZ hown (host := "") (Or.inl (hw _ (List.mem_of_getElem? (i := 32) rfl))) Via.refl Fvs rfl rfl (hb hby d13_18) (fun T9 A10 => ?_)
  show own_Go _ _ _ _ (T9.setTop (mkF m 21 #[.val (.ref r0), .val (.ref r1), .val (.int (Int32.ofNat dp)), .val (.int (0 : Int32))] [(.ref t0), (.int (Int32.ofNat dp)), (.ref r1), (.int (0 : Int32)), (.ref t0)]))
  refine own_len A10 hx hZ Vs rfl rfl (hb hby d13_21) ?_
  show own_Go _ _ _ _ (T9.setTop (mkF m 22 #[.val (.ref r0), .val (.ref r1), .val (.int (Int32.ofNat dp)), .val (.int (0 : Int32))] [(.int (Int32.ofNat xs.length)), (.int (Int32.ofNat dp)), (.ref r1), (.int (0 : Int32)), (.ref t0)]))
  refine own_cpL A10 hx hZ hown (hw _ (List.mem_of_getElem? (i := 83) rfl)) (hw _ (List.mem_of_getElem? (i := 86) rfl)) (hw _ (List.mem_of_getElem? (i := 84) rfl)) (hw _ (List.mem_of_getElem? (i := 85) rfl)) (na := xs.length) (nb := cap) (sp := 0) (dp := dp) (nn := xs.length) Vs Vb (by omega) (by omega) Bs Bb (by omega) hfit g1 rfl (by rw [hml]; rfl) (rest := []) rfl (hb hby d13_22) (by decide) 0 (by show 2 * 0 + _ ≤ _; exact Nat.le_of_eq rfl) (by decide +kernel) (fun T11 h13 A12 K14 V15 => ?_)
  have E16 : Exa Z h13 r0 "java/lang/String" := Es.keep K14
  have F17 : Fld Z h13 r0 "java/lang/String" "coder" "B" (.int (0 : Int32)) := Fcs.keep K14 (ninS ne_r0_r1 nin0)
  have F18 : Fld Z h13 r0 "java/lang/String" "value" "[B" (.ref t0) := Fvs.keep K14 (ninS ne_r0_r1 nin0)
  have V19 : own_Arr Z h13 t0 .byte (Int32.ofNat xs.length) f := Vs.keep K14 (ninS ne_t0_r1 nin0)
  have K20 : Keep h0 h13 [r1] := (Keep.refl h0 [r1]).trans K14 (allS (Or.inl (List.mem_of_getElem? (i := 0) rfl)) all0)
  show own_Go _ _ _ _ (T11.setTop (mkF m 25 #[.val (.ref r0), .val (.ref r1), .val (.int (Int32.ofNat dp)), .val (.int (0 : Int32))] []))
  refine own_go (fun t_ k_ => XS.goto A12.here hx rfl (pc0 := 25) (pc' := 43) rfl (hb hby d13_25) (by decide) (by decide) k_) ?_
  show own_Go _ _ _ _ (T11.setTop (mkF m 43 #[.val (.ref r0), .val (.ref r1), .val (.int (Int32.ofNat dp)), .val (.int (0 : Int32))] []))
  refine own_retV A12 hx hret hlk (by decide) (by decide) (hb hby d13_43) ?_
  exact ⟨rfl, K20, V15⟩
theorem ef_11 (m : MethodId) (r0 : Addr) (y1 : Int32) (r2 : Addr) : entryFrame m #[(.ref r0), (.int y1), (.ref r2)] 3 = mkF m 0 #[.val (.ref r0), .val (.int y1), .val (.ref r2)] [] := by first | (simp [entryFrame, mkF, argsToLocals, Value.category]; done) | rfl
theorem d11_0 : decode jdk_68_method_73_code 0 = .ok (.aload_n 0, 1) := by decide +kernel
theorem d11_1 : decode jdk_68_method_73_code 1 = .ok (.aload_n 2, 1) := by decide +kernel
theorem d11_2 : decode jdk_68_method_73_code 2 = .ok (.invokevirtual 397, 3) := by decide +kernel
theorem pd__Ljava_lang_String__V : parseMethodDescriptor "(Ljava/lang/String;)V" = some ⟨[(.object "java/lang/String")], none⟩ := by decide +kernel
theorem d11_5 : decode jdk_68_method_73_code 5 = .ok (.aload_n 2, 1) := by decide +kernel
theorem d11_6 : decode jdk_68_method_73_code 6 = .ok (.aload_n 0, 1) := by decide +kernel
theorem d11_7 : decode jdk_68_method_73_code 7 = .ok (.getfield 15, 3) := by decide +kernel
theorem d11_10 : decode jdk_68_method_73_code 10 = .ok (.iload_n 1, 1) := by decide +kernel
theorem d11_11 : decode jdk_68_method_73_code 11 = .ok (.aload_n 0, 1) := by decide +kernel
theorem d11_12 : decode jdk_68_method_73_code 12 = .ok (.getfield 22, 3) := by decide +kernel
theorem d11_15 : decode jdk_68_method_73_code 15 = .ok (.invokevirtual 399, 3) := by decide +kernel
theorem pd___BIB_V : parseMethodDescriptor "([BIB)V" = some ⟨[(.array .byte), .int, .byte], none⟩ := by decide +kernel
theorem d11_18 : decode jdk_68_method_73_code 18 = .ok (.return_, 1) := by decide +kernel
set_option maxRecDepth 65536 in
set_option maxHeartbeats 40000000 in
theorem rm11 (l : Launch) (Z : State) (a0 : Array Value) (hw : ∀ d ∈ tables_1, d.before a0 Z = true) (r0 : Addr) (r2 : Addr) (z_C : Int32) (t0 : Addr) (f : Int32 → Int32) (xs : List Int32) (g : Int32 → Int32) (dp : Nat) (cap : Nat) (v0 : Addr) (cn : Int32) (h0 : Heap) (n0 : Nat) (S_C0 : Sta Z h0 "java/lang/String" "COMPACT_STRINGS" "Z" (.int z_C)) (hz : ¬ z_C = 0) (Eb : Exa Z h0 r0 "java/lang/StringBuilder") (Fbv : Fld Z h0 r0 "java/lang/AbstractStringBuilder" "value" "[B" (.ref v0)) (Fbc : Fld Z h0 r0 "java/lang/AbstractStringBuilder" "coder" "B" (.int (0 : Int32))) (Fbn : Fld Z h0 r0 "java/lang/AbstractStringBuilder" "count" "I" (.int cn)) (Fbm : Fld Z h0 r0 "java/lang/AbstractStringBuilder" "maybeLatin1" "Z" (.int (0 : Int32))) (Vb : own_Arr Z h0 v0 .byte (Int32.ofNat cap) g) (hcb : cap < 2 ^ 29) (Es : Exa Z h0 r2 "java/lang/String") (Fcs : Fld Z h0 r2 "java/lang/String" "coder" "B" (.int (0 : Int32))) (Fvs : Fld Z h0 r2 "java/lang/String" "value" "[B" (.ref t0)) (Vs : own_Arr Z h0 t0 .byte (Int32.ofNat xs.length) f) (gv : n0 ≤ v0) (ne_v0_r0 : v0 ≠ r0) (ne_v0_r2 : v0 ≠ r2) (ne_v0_t0 : v0 ≠ t0) (Bs : own_Byt f xs.length) (Bb : own_Byt g cap) (hfit : dp + xs.length ≤ cap) :
    own_Met l Z n0 (⟨"java/lang/AbstractStringBuilder", "putStringAt", "(ILjava/lang/String;)V"⟩ : MethodName) jdk_68_method_73_code 3 none ({ frames := 2, cells := 0, slots := 0, locals := 55 } : Room) #[(.ref r0), (.int (Int32.ofNat dp)), (.ref r2)] h0 (fun v h => v = none ∧ Keep h0 h [v0] ∧ own_Arr Z h v0 .byte (Int32.ofNat cap) (own_cpf f 0 dp xs.length g)) := by
  refine own_met (plainFor_of_name pn_10) ?_
  intro p e s m below meth c T0 hx hby hml hown hnm hret hlk hZ A0
  rw [ef_11]
  show own_Go _ _ _ _ (T0.setTop (mkF m 0 #[.val (.ref r0), .val (.int (Int32.ofNat dp)), .val (.ref r2)] []))
  refine own_go (fun t_ k_ => XS.aloadN A0.here hx rfl (hb hby d11_0) rfl rfl k_) ?_
  show own_Go _ _ _ _ (T0.setTop (mkF m 1 #[.val (.ref r0), .val (.int (Int32.ofNat dp)), .val (.ref r2)] [(.ref r0)]))
  refine own_go (fun t_ k_ => XS.aloadN A0.here hx rfl (hb hby d11_1) rfl rfl k_) ?_
  show own_Go _ _ _ _ (T0.setTop (mkF m 2 #[.val (.ref r0), .val (.int (Int32.ofNat dp)), .val (.ref r2)] [(.ref r2), (.ref r0)]))
  refine own_callP A0 hx hZ (y := (⟨"java/lang/AbstractStringBuilder", "inflateIfNeededFor", "(Ljava/lang/String;)V"⟩ : MethodName)) hown (hw _ (List.mem_of_getElem? (i := 72) rfl)) (hw _ (List.mem_of_getElem? (i := 73) rfl)) (hw _ (List.mem_of_getElem? (i := 74) rfl)) (hw _ (List.mem_of_getElem? (i := 65) rfl)) rfl (hw _ (List.mem_of_getElem? (i := 22) rfl)) (hw _ (List.mem_of_getElem? (i := 76) rfl)) (by decide) (b := r0) (argsL := [(.ref r2)]) (rest := []) Eb (rm12 l Z a0 hw r0 r2 z_C h0 n0 S_C0 hz Fbc Es Fcs) 0 (by decide) (by decide) rfl (by rw [hml]; rfl) (lenOf pd__Ljava_lang_String__V rfl) rfl (by show 2 * 0 + _ ≤ _; exact Nat.le_of_eq rfl) (hb hby d11_2) (by decide) (by decide) (fun v4 T1 h3 A2 hQ5 => ?_)
  obtain ⟨rfl, rfl⟩ := hQ5
  show own_Go _ _ _ _ (T1.setTop (mkF m 5 #[.val (.ref r0), .val (.int (Int32.ofNat dp)), .val (.ref r2)] []))
  refine own_go (fun t_ k_ => XS.aloadN A2.here hx rfl (hb hby d11_5) rfl rfl k_) ?_
  show own_Go _ _ _ _ (T1.setTop (mkF m 6 #[.val (.ref r0), .val (.int (Int32.ofNat dp)), .val (.ref r2)] [(.ref r2)]))
  refine own_go (fun t_ k_ => XS.aloadN A2.here hx rfl (hb hby d11_6) rfl rfl k_) ?_
  show own_Go _ _ _ _ (T1.setTop (mkF m 7 #[.val (.ref r0), .val (.int (Int32.ofNat dp)), .val (.ref r2)] [(.ref r0), (.ref r2)]))
  refine own_getF A2 hx hZ hown (host := "") (Or.inl (hw _ (List.mem_of_getElem? (i := 44) rfl))) Via.refl Fbv rfl rfl (hb hby d11_7) (fun T6 A7 => ?_)
  show own_Go _ _ _ _ (T6.setTop (mkF m 10 #[.val (.ref r0), .val (.int (Int32.ofNat dp)), .val (.ref r2)] [(.ref v0), (.ref r2)]))
  refine own_go (fun t_ k_ => XS.iloadN A7.here hx rfl (hb hby d11_10) rfl k_) ?_
  show own_Go _ _ _ _ (T6.setTop (mkF m 11 #[.val (.ref r0), .val (.int (Int32.ofNat dp)), .val (.ref r2)] [(.int (Int32.ofNat dp)), (.ref v0), (.ref r2)]))
  refine own_go (fun t_ k_ => XS.aloadN A7.here hx rfl (hb hby d11_11) rfl rfl k_) ?_
  show own_Go _ _ _ _ (T6.setTop (mkF m 12 #[.val (.ref r0), .val (.int (Int32.ofNat dp)), .val (.ref r2)] [(.ref r0), (.int (Int32.ofNat dp)), (.ref v0), (.ref r2)]))
  refine own_getF A7 hx hZ hown (host := "") (Or.inl (hw _ (List.mem_of_getElem? (i := 42) rfl))) Via.refl Fbc rfl rfl (hb hby d11_12) (fun T8 A9 => ?_)
  show own_Go _ _ _ _ (T8.setTop (mkF m 15 #[.val (.ref r0), .val (.int (Int32.ofNat dp)), .val (.ref r2)] [(.int (0 : Int32)), (.int (Int32.ofNat dp)), (.ref v0), (.ref r2)]))
  refine own_callV A9 hx hZ (y := (⟨"java/lang/String", "getBytes", "([BIB)V"⟩ : MethodName)) (z := (⟨"java/lang/String", "getBytes", "([BIB)V"⟩ : MethodName)) hown (hw _ (List.mem_of_getElem? (i := 78) rfl)) (hw _ (List.mem_of_getElem? (i := 79) rfl)) (hw _ (List.mem_of_getElem? (i := 81) rfl)) (hw _ (List.mem_of_getElem? (i := 80) rfl)) (hw _ (List.mem_of_getElem? (i := 8) rfl)) (hw _ (List.mem_of_getElem? (i := 82) rfl)) (notFace_of_selects (args := #[]) (mvT hZ (hw _ (List.mem_of_getElem? (i := 81) rfl)))) (by decide) (b := r2) (argsL := [(.ref v0), (.int (Int32.ofNat dp)), (.int (0 : Int32))]) (rest := []) Es (rm13 l Z a0 hw r2 v0 z_C t0 f xs g dp cap h0 n0 S_C0 hz Es Fcs Fvs Vs Vb gv (Ne.symm ne_v0_t0) (Ne.symm ne_v0_r2) Bs Bb hfit hcb) 0 (by decide) (by decide) rfl (by rw [hml]; rfl) (lenOf pd___BIB_V rfl) rfl (by show 2 * 0 + _ ≤ _; exact Nat.le_of_eq rfl) (hb hby d11_15) (by decide) (by decide) (fun v13 T10 h12 A11 hQ14 => ?_)
  obtain ⟨rfl, K15, V16⟩ := hQ14
  have E17 : Exa Z h12 r0 "java/lang/StringBuilder" := Eb.keep K15
  have F18 : Fld Z h12 r0 "java/lang/AbstractStringBuilder" "value" "[B" (.ref v0) := Fbv.keep K15 (ninS (Ne.symm ne_v0_r0) nin0)
  have F19 : Fld Z h12 r0 "java/lang/AbstractStringBuilder" "coder" "B" (.int (0 : Int32)) := Fbc.keep K15 (ninS (Ne.symm ne_v0_r0) nin0)
  have F20 : Fld Z h12 r0 "java/lang/AbstractStringBuilder" "count" "I" (.int cn) := Fbn.keep K15 (ninS (Ne.symm ne_v0_r0) nin0)
  have F21 : Fld Z h12 r0 "java/lang/AbstractStringBuilder" "maybeLatin1" "Z" (.int (0 : Int32)) := Fbm.keep K15 (ninS (Ne.symm ne_v0_r0) nin0)
  have E22 : Exa Z h12 r2 "java/lang/String" := Es.keep K15
  have F23 : Fld Z h12 r2 "java/lang/String" "coder" "B" (.int (0 : Int32)) := Fcs.keep K15 (ninS (Ne.symm ne_v0_r2) nin0)
  have F24 : Fld Z h12 r2 "java/lang/String" "value" "[B" (.ref t0) := Fvs.keep K15 (ninS (Ne.symm ne_v0_r2) nin0)
  have V25 : own_Arr Z h12 t0 .byte (Int32.ofNat xs.length) f := Vs.keep K15 (ninS (Ne.symm ne_v0_t0) nin0)
  have K26 : Keep h0 h12 [v0] := (Keep.refl h0 [v0]).trans K15 (allS (Or.inl (List.mem_of_getElem? (i := 0) rfl)) all0)
  show own_Go _ _ _ _ (T10.setTop (mkF m 18 #[.val (.ref r0), .val (.int (Int32.ofNat dp)), .val (.ref r2)] []))
  refine own_retV A11 hx hret hlk (by decide) (by decide) (hb hby d11_18) ?_
  exact ⟨rfl, K26, V16⟩
theorem ef_9 (m : MethodId) (r0 : Addr) (r1 : Addr) : entryFrame m #[(.ref r0), (.ref r1)] 3 = mkF m 0 #[.val (.ref r0), .val (.ref r1), .unset] [] := by first | (simp [entryFrame, mkF, argsToLocals, Value.category]; done) | rfl
theorem d9_0 : decode jdk_68_method_22_code 0 = .ok (.aload_n 1, 1) := by decide +kernel
theorem d9_1 : decode jdk_68_method_22_code 1 = .ok (.ifnonnull 8, 3) := by decide +kernel
theorem d9_9 : decode jdk_68_method_22_code 9 = .ok (.aload_n 1, 1) := by decide +kernel
theorem d9_10 : decode jdk_68_method_22_code 10 = .ok (.invokevirtual 32, 3) := by decide +kernel
theorem pd___I : parseMethodDescriptor "()I" = some ⟨[], some .int⟩ := by decide +kernel
theorem d9_13 : decode jdk_68_method_22_code 13 = .ok (.istore_n 2, 1) := by decide +kernel
theorem d9_14 : decode jdk_68_method_22_code 14 = .ok (.aload_n 0, 1) := by decide +kernel
theorem d9_15 : decode jdk_68_method_22_code 15 = .ok (.aload_n 0, 1) := by decide +kernel
theorem d9_16 : decode jdk_68_method_22_code 16 = .ok (.getfield 79, 3) := by decide +kernel
theorem d9_19 : decode jdk_68_method_22_code 19 = .ok (.iload_n 2, 1) := by decide +kernel
theorem d9_20 : decode jdk_68_method_22_code 20 = .ok (.iadd, 1) := by decide +kernel
theorem d9_21 : decode jdk_68_method_22_code 21 = .ok (.invokevirtual 100, 3) := by decide +kernel
theorem pd__I_V : parseMethodDescriptor "(I)V" = some ⟨[.int], none⟩ := by decide +kernel
theorem d9_24 : decode jdk_68_method_22_code 24 = .ok (.aload_n 0, 1) := by decide +kernel
theorem d9_25 : decode jdk_68_method_22_code 25 = .ok (.aload_n 0, 1) := by decide +kernel
theorem d9_26 : decode jdk_68_method_22_code 26 = .ok (.getfield 79, 3) := by decide +kernel
theorem d9_29 : decode jdk_68_method_22_code 29 = .ok (.aload_n 1, 1) := by decide +kernel
theorem d9_30 : decode jdk_68_method_22_code 30 = .ok (.invokevirtual 208, 3) := by decide +kernel
theorem pd__ILjava_lang_String__V : parseMethodDescriptor "(ILjava/lang/String;)V" = some ⟨[.int, (.object "java/lang/String")], none⟩ := by decide +kernel
theorem d9_33 : decode jdk_68_method_22_code 33 = .ok (.aload_n 0, 1) := by decide +kernel
theorem d9_34 : decode jdk_68_method_22_code 34 = .ok (.dup, 1) := by decide +kernel
theorem d9_35 : decode jdk_68_method_22_code 35 = .ok (.getfield 79, 3) := by decide +kernel
theorem d9_38 : decode jdk_68_method_22_code 38 = .ok (.iload_n 2, 1) := by decide +kernel
theorem d9_39 : decode jdk_68_method_22_code 39 = .ok (.iadd, 1) := by decide +kernel
theorem d9_40 : decode jdk_68_method_22_code 40 = .ok (.putfield 79, 3) := by decide +kernel
theorem d9_43 : decode jdk_68_method_22_code 43 = .ok (.aload_n 0, 1) := by decide +kernel
theorem d9_44 : decode jdk_68_method_22_code 44 = .ok (.areturn, 1) := by decide +kernel
set_option maxRecDepth 65536 in
set_option maxHeartbeats 40000000 in
theorem rm9 (l : Launch) (Z : State) (a0 : Array Value) (hw : ∀ d ∈ tables_1, d.before a0 Z = true) (r0 : Addr) (r1 : Addr) (z_C : Int32) (t0 : Addr) (f : Int32 → Int32) (xs : List Int32) (g : Int32 → Int32) (dp : Nat) (cap : Nat) (v0 : Addr) (h0 : Heap) (n0 : Nat) (S_C0 : Sta Z h0 "java/lang/String" "COMPACT_STRINGS" "Z" (.int z_C)) (hz : ¬ z_C = 0) (Eb : Exa Z h0 r0 "java/lang/StringBuilder") (Fbv : Fld Z h0 r0 "java/lang/AbstractStringBuilder" "value" "[B" (.ref v0)) (Fbc : Fld Z h0 r0 "java/lang/AbstractStringBuilder" "coder" "B" (.int (0 : Int32))) (Fbn : Fld Z h0 r0 "java/lang/AbstractStringBuilder" "count" "I" (.int (Int32.ofNat dp))) (Fbm : Fld Z h0 r0 "java/lang/AbstractStringBuilder" "maybeLatin1" "Z" (.int (0 : Int32))) (Vb : own_Arr Z h0 v0 .byte (Int32.ofNat cap) g) (hcb : cap < 2 ^ 29) (Es : Exa Z h0 r1 "java/lang/String") (Fcs : Fld Z h0 r1 "java/lang/String" "coder" "B" (.int (0 : Int32))) (Fvs : Fld Z h0 r1 "java/lang/String" "value" "[B" (.ref t0)) (Vs : own_Arr Z h0 t0 .byte (Int32.ofNat xs.length) f) (gv : n0 ≤ v0) (g0 : n0 ≤ r0) (ne_v0_r0 : v0 ≠ r0) (ne_v0_r1 : v0 ≠ r1) (ne_v0_t0 : v0 ≠ t0) (ne_r0_r1 : r0 ≠ r1) (ne_r0_t0 : r0 ≠ t0) (Bs : own_Byt f xs.length) (Bb : own_Byt g cap) (hfit : dp + xs.length ≤ cap) :
    own_Met l Z n0 (⟨"java/lang/AbstractStringBuilder", "append", "(Ljava/lang/String;)Ljava/lang/AbstractStringBuilder;"⟩ : MethodName) jdk_68_method_22_code 3 (some (.object "java/lang/AbstractStringBuilder")) ({ frames := 3, cells := 0, slots := 0, locals := 69 } : Room) #[(.ref r0), (.ref r1)] h0 (fun v h => v = some (.ref r0) ∧ Keep h0 h [r0, v0] ∧ Fld Z h r0 "java/lang/AbstractStringBuilder" "value" "[B" (.ref v0) ∧ Fld Z h r0 "java/lang/AbstractStringBuilder" "coder" "B" (.int (0 : Int32)) ∧ Fld Z h r0 "java/lang/AbstractStringBuilder" "count" "I" (.int (Int32.ofNat (dp + xs.length))) ∧ Fld Z h r0 "java/lang/AbstractStringBuilder" "maybeLatin1" "Z" (.int (0 : Int32)) ∧ own_Arr Z h v0 .byte (Int32.ofNat cap) (own_cpf f 0 dp xs.length g)) := by
  refine own_met (plainFor_of_name pn_10) ?_
  intro p e s m below meth c T0 hx hby hml hown hnm hret hlk hZ A0
  rw [ef_9]
  show own_Go _ _ _ _ (T0.setTop (mkF m 0 #[.val (.ref r0), .val (.ref r1), .unset] []))
  refine own_go (fun t_ k_ => XS.aloadN A0.here hx rfl (hb hby d9_0) rfl rfl k_) ?_
  show own_Go _ _ _ _ (T0.setTop (mkF m 1 #[.val (.ref r0), .val (.ref r1), .unset] [(.ref r1)]))
  refine own_go (fun t_ k_ => XS.ifnonnullYes A0.here hx rfl (pc0 := 1) (pc' := 9) rfl (hb hby d9_1) rfl (by decide) (by decide) k_) ?_
  show own_Go _ _ _ _ (T0.setTop (mkF m 9 #[.val (.ref r0), .val (.ref r1), .unset] []))
  refine own_go (fun t_ k_ => XS.aloadN A0.here hx rfl (hb hby d9_9) rfl rfl k_) ?_
  show own_Go _ _ _ _ (T0.setTop (mkF m 10 #[.val (.ref r0), .val (.ref r1), .unset] [(.ref r1)]))
  refine own_callV A0 hx hZ (y := (⟨"java/lang/String", "length", "()I"⟩ : MethodName)) (z := (⟨"java/lang/String", "length", "()I"⟩ : MethodName)) hown (hw _ (List.mem_of_getElem? (i := 27) rfl)) (hw _ (List.mem_of_getElem? (i := 28) rfl)) (hw _ (List.mem_of_getElem? (i := 30) rfl)) (hw _ (List.mem_of_getElem? (i := 29) rfl)) (hw _ (List.mem_of_getElem? (i := 8) rfl)) (hw _ (List.mem_of_getElem? (i := 31) rfl)) (notFace_of_selects (args := #[]) (mvT hZ (hw _ (List.mem_of_getElem? (i := 30) rfl)))) (by decide) (b := r1) (argsL := []) (rest := []) Es (rm5 l Z a0 hw r1 z_C t0 f xs h0 n0 S_C0 hz Es Fcs Fvs Vs) 0 (by decide) (by decide) rfl (by rw [hml]; rfl) (lenOf pd___I rfl) rfl (by show 2 * 0 + _ ≤ _; exact Nat.le_of_eq rfl) (hb hby d9_10) (by decide) (by decide) (fun v4 T1 h3 A2 hQ5 => ?_)
  obtain ⟨rfl, rfl⟩ := hQ5
  show own_Go _ _ _ _ (T1.setTop (mkF m 13 #[.val (.ref r0), .val (.ref r1), .unset] [(.int (Int32.ofNat xs.length))]))
  refine own_go (fun t_ k_ => XS.istoreN A2.here hx rfl (hb hby d9_13) rfl (l' := #[.val (.ref r0), .val (.ref r1), .val (.int (Int32.ofNat xs.length))]) rfl k_) ?_
  show own_Go _ _ _ _ (T1.setTop (mkF m 14 #[.val (.ref r0), .val (.ref r1), .val (.int (Int32.ofNat xs.length))] []))
  refine own_go (fun t_ k_ => XS.aloadN A2.here hx rfl (hb hby d9_14) rfl rfl k_) ?_
  show own_Go _ _ _ _ (T1.setTop (mkF m 15 #[.val (.ref r0), .val (.ref r1), .val (.int (Int32.ofNat xs.length))] [(.ref r0)]))
  refine own_go (fun t_ k_ => XS.aloadN A2.here hx rfl (hb hby d9_15) rfl rfl k_) ?_
  show own_Go _ _ _ _ (T1.setTop (mkF m 16 #[.val (.ref r0), .val (.ref r1), .val (.int (Int32.ofNat xs.length))] [(.ref r0), (.ref r0)]))
  refine own_getF A2 hx hZ hown (host := "") (Or.inl (hw _ (List.mem_of_getElem? (i := 60) rfl))) Via.refl Fbn rfl rfl (hb hby d9_16) (fun T6 A7 => ?_)
  show own_Go _ _ _ _ (T6.setTop (mkF m 19 #[.val (.ref r0), .val (.ref r1), .val (.int (Int32.ofNat xs.length))] [(.int (Int32.ofNat dp)), (.ref r0)]))
  refine own_go (fun t_ k_ => XS.iloadN A7.here hx rfl (hb hby d9_19) rfl k_) ?_
  show own_Go _ _ _ _ (T6.setTop (mkF m 20 #[.val (.ref r0), .val (.ref r1), .val (.int (Int32.ofNat xs.length))] [(.int (Int32.ofNat xs.length)), (.int (Int32.ofNat dp)), (.ref r0)]))
  refine own_go (fun t_ k_ => XS.iadd A7.here hx rfl (hb hby d9_20) rfl k_) ?_
  show own_Go _ _ _ _ (T6.setTop (mkF m 21 #[.val (.ref r0), .val (.ref r1), .val (.int (Int32.ofNat xs.length))] [(.int ((Int32.ofNat dp) + (Int32.ofNat xs.length))), (.ref r0)]))
  rw [own_nadd]
  show own_Go _ _ _ _ (T6.setTop (mkF m 21 #[.val (.ref r0), .val (.ref r1), .val (.int (Int32.ofNat xs.length))] [(.int (Int32.ofNat (dp + xs.length))), (.ref r0)]))
  refine own_callP A7 hx hZ (y := (⟨"java/lang/AbstractStringBuilder", "ensureCapacityInternal", "(I)V"⟩ : MethodName)) hown (hw _ (List.mem_of_getElem? (i := 62) rfl)) (hw _ (List.mem_of_getElem? (i := 63) rfl)) (hw _ (List.mem_of_getElem? (i := 64) rfl)) (hw _ (List.mem_of_getElem? (i := 65) rfl)) rfl (hw _ (List.mem_of_getElem? (i := 22) rfl)) (hw _ (List.mem_of_getElem? (i := 66) rfl)) (by decide) (b := r0) (argsL := [(.int (Int32.ofNat (dp + xs.length)))]) (rest := []) Eb (rm10 l Z a0 hw r0 (Int32.ofNat (dp + xs.length)) v0 g (Int32.ofNat dp) cap h0 n0 Eb Fbv Fbc Fbn Fbm Vb hcb (own_cap16 dp xs.length cap hfit hcb)) 0 (by decide) (by decide) rfl (by rw [hml]; rfl) (lenOf pd__I_V rfl) rfl (by show 2 * 0 + _ ≤ _; exact Nat.le_of_eq rfl) (hb hby d9_21) (by decide) (by decide) (fun v11 T8 h10 A9 hQ12 => ?_)
  obtain ⟨rfl, rfl⟩ := hQ12
  show own_Go _ _ _ _ (T8.setTop (mkF m 24 #[.val (.ref r0), .val (.ref r1), .val (.int (Int32.ofNat xs.length))] []))
  refine own_go (fun t_ k_ => XS.aloadN A9.here hx rfl (hb hby d9_24) rfl rfl k_) ?_
  show own_Go _ _ _ _ (T8.setTop (mkF m 25 #[.val (.ref r0), .val (.ref r1), .val (.int (Int32.ofNat xs.length))] [(.ref r0)]))
  refine own_go (fun t_ k_ => XS.aloadN A9.here hx rfl (hb hby d9_25) rfl rfl k_) ?_
  show own_Go _ _ _ _ (T8.setTop (mkF m 26 #[.val (.ref r0), .val (.ref r1), .val (.int (Int32.ofNat xs.length))] [(.ref r0), (.ref r0)]))
  refine own_getF A9 hx hZ hown (host := "") (Or.inl (hw _ (List.mem_of_getElem? (i := 60) rfl))) Via.refl Fbn rfl rfl (hb hby d9_26) (fun T13 A14 => ?_)
  show own_Go _ _ _ _ (T13.setTop (mkF m 29 #[.val (.ref r0), .val (.ref r1), .val (.int (Int32.ofNat xs.length))] [(.int (Int32.ofNat dp)), (.ref r0)]))
  refine own_go (fun t_ k_ => XS.aloadN A14.here hx rfl (hb hby d9_29) rfl rfl k_) ?_
  show own_Go _ _ _ _ (T13.setTop (mkF m 30 #[.val (.ref r0), .val (.ref r1), .val (.int (Int32.ofNat xs.length))] [(.ref r1), (.int (Int32.ofNat dp)), (.ref r0)]))
  refine own_callP A14 hx hZ (y := (⟨"java/lang/AbstractStringBuilder", "putStringAt", "(ILjava/lang/String;)V"⟩ : MethodName)) hown (hw _ (List.mem_of_getElem? (i := 67) rfl)) (hw _ (List.mem_of_getElem? (i := 68) rfl)) (hw _ (List.mem_of_getElem? (i := 69) rfl)) (hw _ (List.mem_of_getElem? (i := 65) rfl)) rfl (hw _ (List.mem_of_getElem? (i := 22) rfl)) (hw _ (List.mem_of_getElem? (i := 71) rfl)) (by decide) (b := r0) (argsL := [(.int (Int32.ofNat dp)), (.ref r1)]) (rest := []) Eb (rm11 l Z a0 hw r0 r1 z_C t0 f xs g dp cap v0 (Int32.ofNat dp) h0 n0 S_C0 hz Eb Fbv Fbc Fbn Fbm Vb hcb Es Fcs Fvs Vs gv ne_v0_r0 ne_v0_r1 ne_v0_t0 Bs Bb hfit) 0 (by decide) (by decide) rfl (by rw [hml]; rfl) (lenOf pd__ILjava_lang_String__V rfl) rfl (by show 2 * 0 + _ ≤ _; exact Nat.le_of_eq rfl) (hb hby d9_30) (by decide) (by decide) (fun v18 T15 h17 A16 hQ19 => ?_)
  obtain ⟨rfl, K20, V21⟩ := hQ19
  have E22 : Exa Z h17 r0 "java/lang/StringBuilder" := Eb.keep K20
  have F23 : Fld Z h17 r0 "java/lang/AbstractStringBuilder" "value" "[B" (.ref v0) := Fbv.keep K20 (ninS (Ne.symm ne_v0_r0) nin0)
  have F24 : Fld Z h17 r0 "java/lang/AbstractStringBuilder" "coder" "B" (.int (0 : Int32)) := Fbc.keep K20 (ninS (Ne.symm ne_v0_r0) nin0)
  have F25 : Fld Z h17 r0 "java/lang/AbstractStringBuilder" "count" "I" (.int (Int32.ofNat dp)) := Fbn.keep K20 (ninS (Ne.symm ne_v0_r0) nin0)
  have F26 : Fld Z h17 r0 "java/lang/AbstractStringBuilder" "maybeLatin1" "Z" (.int (0 : Int32)) := Fbm.keep K20 (ninS (Ne.symm ne_v0_r0) nin0)
  have E27 : Exa Z h17 r1 "java/lang/String" := Es.keep K20
  have F28 : Fld Z h17 r1 "java/lang/String" "coder" "B" (.int (0 : Int32)) := Fcs.keep K20 (ninS (Ne.symm ne_v0_r1) nin0)
  have F29 : Fld Z h17 r1 "java/lang/String" "value" "[B" (.ref t0) := Fvs.keep K20 (ninS (Ne.symm ne_v0_r1) nin0)
  have V30 : own_Arr Z h17 t0 .byte (Int32.ofNat xs.length) f := Vs.keep K20 (ninS (Ne.symm ne_v0_t0) nin0)
  have K31 : Keep h0 h17 [r0, v0] := (Keep.refl h0 [r0, v0]).trans K20 (allS (Or.inl (List.mem_of_getElem? (i := 1) rfl)) all0)
  show own_Go _ _ _ _ (T15.setTop (mkF m 33 #[.val (.ref r0), .val (.ref r1), .val (.int (Int32.ofNat xs.length))] []))
  refine own_go (fun t_ k_ => XS.aloadN A16.here hx rfl (hb hby d9_33) rfl rfl k_) ?_
  show own_Go _ _ _ _ (T15.setTop (mkF m 34 #[.val (.ref r0), .val (.ref r1), .val (.int (Int32.ofNat xs.length))] [(.ref r0)]))
  refine own_go (fun t_ k_ => XS.dup A16.here hx rfl (hb hby d9_34) rfl rfl k_) ?_
  show own_Go _ _ _ _ (T15.setTop (mkF m 35 #[.val (.ref r0), .val (.ref r1), .val (.int (Int32.ofNat xs.length))] [(.ref r0), (.ref r0)]))
  refine own_getF A16 hx hZ hown (host := "") (Or.inl (hw _ (List.mem_of_getElem? (i := 60) rfl))) Via.refl F25 rfl rfl (hb hby d9_35) (fun T32 A33 => ?_)
  show own_Go _ _ _ _ (T32.setTop (mkF m 38 #[.val (.ref r0), .val (.ref r1), .val (.int (Int32.ofNat xs.length))] [(.int (Int32.ofNat dp)), (.ref r0)]))
  refine own_go (fun t_ k_ => XS.iloadN A33.here hx rfl (hb hby d9_38) rfl k_) ?_
  show own_Go _ _ _ _ (T32.setTop (mkF m 39 #[.val (.ref r0), .val (.ref r1), .val (.int (Int32.ofNat xs.length))] [(.int (Int32.ofNat xs.length)), (.int (Int32.ofNat dp)), (.ref r0)]))
  refine own_go (fun t_ k_ => XS.iadd A33.here hx rfl (hb hby d9_39) rfl k_) ?_
  show own_Go _ _ _ _ (T32.setTop (mkF m 40 #[.val (.ref r0), .val (.ref r1), .val (.int (Int32.ofNat xs.length))] [(.int ((Int32.ofNat dp) + (Int32.ofNat xs.length))), (.ref r0)]))
  rw [own_nadd]
  show own_Go _ _ _ _ (T32.setTop (mkF m 40 #[.val (.ref r0), .val (.ref r1), .val (.int (Int32.ofNat xs.length))] [(.int (Int32.ofNat (dp + xs.length))), (.ref r0)]))
  refine own_putF A33 hx hZ hown (host := "") (Or.inl (hw _ (List.mem_of_getElem? (i := 60) rfl))) Via.refl F25 E22 (Or.inl (hw _ (List.mem_of_getElem? (i := 61) rfl))) (hw _ (List.mem_of_getElem? (i := 5) rfl)) (ty := .int) (by decide) rfl rfl g0 rfl rfl (hb hby d9_40) (fun T34 h36 A35 W37 => ?_)
  have E38 : Exa Z h36 r0 "java/lang/StringBuilder" := E22.wr W37
  have F39 : Fld Z h36 r0 "java/lang/AbstractStringBuilder" "value" "[B" (.ref v0) := F23.other W37 (Or.inr (slot_ne (Or.inl (hw _ (List.mem_of_getElem? (i := 45) rfl))) (Or.inl (hw _ (List.mem_of_getElem? (i := 61) rfl))) (by decide) (t := (.array .byte)) (t' := .int) (by decide) (by decide)))
  have F40 : Fld Z h36 r0 "java/lang/AbstractStringBuilder" "coder" "B" (.int (0 : Int32)) := F24.other W37 (Or.inr (slot_ne (Or.inl (hw _ (List.mem_of_getElem? (i := 43) rfl))) (Or.inl (hw _ (List.mem_of_getElem? (i := 61) rfl))) (by decide) (t := .byte) (t' := .int) (by decide) (by decide)))
  have F41 : Fld Z h36 r0 "java/lang/AbstractStringBuilder" "count" "I" (.int (Int32.ofNat (dp + xs.length))) := F25.same W37
  have F42 : Fld Z h36 r0 "java/lang/AbstractStringBuilder" "maybeLatin1" "Z" (.int (0 : Int32)) := F26.other W37 (Or.inr (slot_ne (Or.inl (hw _ (List.mem_of_getElem? (i := 201) rfl))) (Or.inl (hw _ (List.mem_of_getElem? (i := 61) rfl))) (by decide) (t := .boolean) (t' := .int) (by decide) (by decide)))
  have E43 : Exa Z h36 r1 "java/lang/String" := E27.wr W37
  have F44 : Fld Z h36 r1 "java/lang/String" "coder" "B" (.int (0 : Int32)) := F28.other W37 (Or.inl (Ne.symm ne_r0_r1))
  have F45 : Fld Z h36 r1 "java/lang/String" "value" "[B" (.ref t0) := F29.other W37 (Or.inl (Ne.symm ne_r0_r1))
  have V46 : own_Arr Z h36 t0 .byte (Int32.ofNat xs.length) f := V30.other W37 (Ne.symm ne_r0_t0)
  have K47 : Keep h0 h36 [r0, v0] := K31.wr W37 (Or.inl (List.mem_of_getElem? (i := 0) rfl))
  have V48 : own_Arr Z h36 v0 .byte (Int32.ofNat cap) (own_cpf f 0 dp xs.length g) := V21.other W37 ne_v0_r0
  show own_Go _ _ _ _ (T34.setTop (mkF m 43 #[.val (.ref r0), .val (.ref r1), .val (.int (Int32.ofNat xs.length))] []))
  refine own_go (fun t_ k_ => XS.aloadN A35.here hx rfl (hb hby d9_43) rfl rfl k_) ?_
  show own_Go _ _ _ _ (T34.setTop (mkF m 44 #[.val (.ref r0), .val (.ref r1), .val (.int (Int32.ofNat xs.length))] [(.ref r0)]))
  refine own_retA A35 hx hret rfl hlk (by decide) (by decide) rfl (hb hby d9_44) ?_
  exact ⟨rfl, K47, F39, F40, F41, F42, V48⟩
theorem ef_8 (m : MethodId) (r0 : Addr) (r1 : Addr) : entryFrame m #[(.ref r0), (.ref r1)] 2 = mkF m 0 #[.val (.ref r0), .val (.ref r1)] [] := by first | (simp [entryFrame, mkF, argsToLocals, Value.category]; done) | rfl
theorem pn_8 : plainName "java/lang/StringBuilder" = true := by first | (simp [plainName, overriddenIn]; done) | decide +kernel
theorem d8_0 : decode jdk_67_method_7_code 0 = .ok (.aload_n 0, 1) := by decide +kernel
theorem d8_1 : decode jdk_67_method_7_code 1 = .ok (.aload_n 1, 1) := by decide +kernel
theorem d8_2 : decode jdk_67_method_7_code 2 = .ok (.invokespecial 29, 3) := by decide +kernel
theorem pd__Ljava_lang_String__Ljava_lang_AbstractStringBuilder_ : parseMethodDescriptor "(Ljava/lang/String;)Ljava/lang/AbstractStringBuilder;" = some ⟨[(.object "java/lang/String")], some (.object "java/lang/AbstractStringBuilder")⟩ := by decide +kernel
theorem d8_5 : decode jdk_67_method_7_code 5 = .ok (.pop, 1) := by decide +kernel
theorem d8_6 : decode jdk_67_method_7_code 6 = .ok (.aload_n 0, 1) := by decide +kernel
theorem d8_7 : decode jdk_67_method_7_code 7 = .ok (.areturn, 1) := by decide +kernel
set_option maxRecDepth 65536 in
set_option maxHeartbeats 40000000 in
theorem rm8 (l : Launch) (Z : State) (a0 : Array Value) (hw : ∀ d ∈ tables_1, d.before a0 Z = true) (r0 : Addr) (r1 : Addr) (z_C : Int32) (t0 : Addr) (f : Int32 → Int32) (xs : List Int32) (g : Int32 → Int32) (dp : Nat) (cap : Nat) (v0 : Addr) (h0 : Heap) (n0 : Nat) (S_C0 : Sta Z h0 "java/lang/String" "COMPACT_STRINGS" "Z" (.int z_C)) (hz : ¬ z_C = 0) (Eb : Exa Z h0 r0 "java/lang/StringBuilder") (Fbv : Fld Z h0 r0 "java/lang/AbstractStringBuilder" "value" "[B" (.ref v0)) (Fbc : Fld Z h0 r0 "java/lang/AbstractStringBuilder" "coder" "B" (.int (0 : Int32))) (Fbn : Fld Z h0 r0 "java/lang/AbstractStringBuilder" "count" "I" (.int (Int32.ofNat dp))) (Fbm : Fld Z h0 r0 "java/lang/AbstractStringBuilder" "maybeLatin1" "Z" (.int (0 : Int32))) (Vb : own_Arr Z h0 v0 .byte (Int32.ofNat cap) g) (hcb : cap < 2 ^ 29) (Es : Exa Z h0 r1 "java/lang/String") (Fcs : Fld Z h0 r1 "java/lang/String" "coder" "B" (.int (0 : Int32))) (Fvs : Fld Z h0 r1 "java/lang/String" "value" "[B" (.ref t0)) (Vs : own_Arr Z h0 t0 .byte (Int32.ofNat xs.length) f) (gv : n0 ≤ v0) (g0 : n0 ≤ r0) (ne_v0_r0 : v0 ≠ r0) (ne_v0_r1 : v0 ≠ r1) (ne_v0_t0 : v0 ≠ t0) (ne_r0_r1 : r0 ≠ r1) (ne_r0_t0 : r0 ≠ t0) (Bs : own_Byt f xs.length) (Bb : own_Byt g cap) (hfit : dp + xs.length ≤ cap) :
    own_Met l Z n0 (⟨"java/lang/StringBuilder", "append", "(Ljava/lang/String;)Ljava/lang/StringBuilder;"⟩ : MethodName) jdk_67_method_7_code 2 (some (.object "java/lang/StringBuilder")) ({ frames := 4, cells := 0, slots := 0, locals := 83 } : Room) #[(.ref r0), (.ref r1)] h0 (fun v h => v = some (.ref r0) ∧ Keep h0 h [r0, v0] ∧ Fld Z h r0 "java/lang/AbstractStringBuilder" "value" "[B" (.ref v0) ∧ Fld Z h r0 "java/lang/AbstractStringBuilder" "coder" "B" (.int (0 : Int32)) ∧ Fld Z h r0 "java/lang/AbstractStringBuilder" "count" "I" (.int (Int32.ofNat (dp + xs.length))) ∧ Fld Z h r0 "java/lang/AbstractStringBuilder" "maybeLatin1" "Z" (.int (0 : Int32)) ∧ own_Arr Z h v0 .byte (Int32.ofNat cap) (own_cpf f 0 dp xs.length g)) := by
  refine own_met (plainFor_of_name pn_8) ?_
  intro p e s m below meth c T0 hx hby hml hown hnm hret hlk hZ A0
  rw [ef_8]
  show own_Go _ _ _ _ (T0.setTop (mkF m 0 #[.val (.ref r0), .val (.ref r1)] []))
  refine own_go (fun t_ k_ => XS.aloadN A0.here hx rfl (hb hby d8_0) rfl rfl k_) ?_
  show own_Go _ _ _ _ (T0.setTop (mkF m 1 #[.val (.ref r0), .val (.ref r1)] [(.ref r0)]))
  refine own_go (fun t_ k_ => XS.aloadN A0.here hx rfl (hb hby d8_1) rfl rfl k_) ?_
  show own_Go _ _ _ _ (T0.setTop (mkF m 2 #[.val (.ref r0), .val (.ref r1)] [(.ref r1), (.ref r0)]))
  refine own_callU A0 hx hZ (y := (⟨"java/lang/AbstractStringBuilder", "append", "(Ljava/lang/String;)Ljava/lang/AbstractStringBuilder;"⟩ : MethodName)) hown (hw _ (List.mem_of_getElem? (i := 57) rfl)) (hw _ (List.mem_of_getElem? (i := 48) rfl)) (hw _ (List.mem_of_getElem? (i := 65) rfl)) rfl (hw _ (List.mem_of_getElem? (i := 58) rfl)) (by decide) (hw _ (List.mem_of_getElem? (i := 22) rfl)) (hw _ (List.mem_of_getElem? (i := 59) rfl)) (by decide) (b := r0) (argsL := [(.ref r1)]) (rest := []) (Ins.of_exa Eb (hw _ (List.mem_of_getElem? (i := 21) rfl))) (rm9 l Z a0 hw r0 r1 z_C t0 f xs g dp cap v0 h0 n0 S_C0 hz Eb Fbv Fbc Fbn Fbm Vb hcb Es Fcs Fvs Vs gv g0 ne_v0_r0 ne_v0_r1 ne_v0_t0 ne_r0_r1 ne_r0_t0 Bs Bb hfit) 0 (by decide) (by decide) rfl (by rw [hml]; rfl) (lenOf pd__Ljava_lang_String__Ljava_lang_AbstractStringBuilder_ rfl) rfl (by show 2 * 0 + _ ≤ _; exact Nat.le_of_eq rfl) (hb hby d8_2) (by decide) (by decide) (fun v4 T1 h3 A2 hQ5 => ?_)
  obtain ⟨rfl, K6, F7, F8, F9, F10, V11⟩ := hQ5
  have E12 : Exa Z h3 r0 "java/lang/StringBuilder" := Eb.keep K6
  have E13 : Exa Z h3 r1 "java/lang/String" := Es.keep K6
  have F14 : Fld Z h3 r1 "java/lang/String" "coder" "B" (.int (0 : Int32)) := Fcs.keep K6 (ninS (Ne.symm ne_r0_r1) (ninS (Ne.symm ne_v0_r1) nin0))
  have F15 : Fld Z h3 r1 "java/lang/String" "value" "[B" (.ref t0) := Fvs.keep K6 (ninS (Ne.symm ne_r0_r1) (ninS (Ne.symm ne_v0_r1) nin0))
  have V16 : own_Arr Z h3 t0 .byte (Int32.ofNat xs.length) f := Vs.keep K6 (ninS (Ne.symm ne_r0_t0) (ninS (Ne.symm ne_v0_t0) nin0))
  have K17 : Keep h0 h3 [r0, v0] := (Keep.refl h0 [r0, v0]).trans K6 (allS (Or.inl (List.mem_of_getElem? (i := 0) rfl)) (allS (Or.inl (List.mem_of_getElem? (i := 1) rfl)) all0))
  show own_Go _ _ _ _ (T1.setTop (mkF m 5 #[.val (.ref r0), .val (.ref r1)] [(.ref r0)]))
  refine own_go (fun t_ k_ => XS.pop A2.here hx rfl (hb hby d8_5) rfl rfl k_) ?_
  show own_Go _ _ _ _ (T1.setTop (mkF m 6 #[.val (.ref r0), .val (.ref r1)] []))
  refine own_go (fun t_ k_ => XS.aloadN A2.here hx rfl (hb hby d8_6) rfl rfl k_) ?_
  show own_Go _ _ _ _ (T1.setTop (mkF m 7 #[.val (.ref r0), .val (.ref r1)] [(.ref r0)]))
  refine own_retA A2 hx hret rfl hlk (by decide) (by decide) rfl (hb hby d8_7) ?_
  exact ⟨rfl, K17, F7, F8, F9, F10, V11⟩
theorem ef_7 (m : MethodId) (r0 : Addr) (r1 : Addr) : entryFrame m #[(.ref r0), (.ref r1)] 2 = mkF m 0 #[.val (.ref r0), .val (.ref r1)] [] := by first | (simp [entryFrame, mkF, argsToLocals, Value.category]; done) | rfl
theorem d7_0 : decode jdk_67_method_80_code 0 = .ok (.aload_n 0, 1) := by decide +kernel
theorem d7_1 : decode jdk_67_method_80_code 1 = .ok (.aload_n 1, 1) := by decide +kernel
theorem d7_2 : decode jdk_67_method_80_code 2 = .ok (.invokevirtual 23, 3) := by decide +kernel
theorem pd__Ljava_lang_String__Ljava_lang_StringBuilder_ : parseMethodDescriptor "(Ljava/lang/String;)Ljava/lang/StringBuilder;" = some ⟨[(.object "java/lang/String")], some (.object "java/lang/StringBuilder")⟩ := by decide +kernel
theorem d7_5 : decode jdk_67_method_80_code 5 = .ok (.areturn, 1) := by decide +kernel
set_option maxRecDepth 65536 in
set_option maxHeartbeats 40000000 in
theorem rm7 (l : Launch) (Z : State) (a0 : Array Value) (hw : ∀ d ∈ tables_1, d.before a0 Z = true) (r0 : Addr) (r1 : Addr) (z_C : Int32) (t0 : Addr) (f : Int32 → Int32) (xs : List Int32) (g : Int32 → Int32) (dp : Nat) (cap : Nat) (v0 : Addr) (h0 : Heap) (n0 : Nat) (S_C0 : Sta Z h0 "java/lang/String" "COMPACT_STRINGS" "Z" (.int z_C)) (hz : ¬ z_C = 0) (Eb : Exa Z h0 r0 "java/lang/StringBuilder") (Fbv : Fld Z h0 r0 "java/lang/AbstractStringBuilder" "value" "[B" (.ref v0)) (Fbc : Fld Z h0 r0 "java/lang/AbstractStringBuilder" "coder" "B" (.int (0 : Int32))) (Fbn : Fld Z h0 r0 "java/lang/AbstractStringBuilder" "count" "I" (.int (Int32.ofNat dp))) (Fbm : Fld Z h0 r0 "java/lang/AbstractStringBuilder" "maybeLatin1" "Z" (.int (0 : Int32))) (Vb : own_Arr Z h0 v0 .byte (Int32.ofNat cap) g) (hcb : cap < 2 ^ 29) (Es : Exa Z h0 r1 "java/lang/String") (Fcs : Fld Z h0 r1 "java/lang/String" "coder" "B" (.int (0 : Int32))) (Fvs : Fld Z h0 r1 "java/lang/String" "value" "[B" (.ref t0)) (Vs : own_Arr Z h0 t0 .byte (Int32.ofNat xs.length) f) (gv : n0 ≤ v0) (g0 : n0 ≤ r0) (ne_v0_r0 : v0 ≠ r0) (ne_v0_r1 : v0 ≠ r1) (ne_v0_t0 : v0 ≠ t0) (ne_r0_r1 : r0 ≠ r1) (ne_r0_t0 : r0 ≠ t0) (Bs : own_Byt f xs.length) (Bb : own_Byt g cap) (hfit : dp + xs.length ≤ cap) :
    own_Met l Z n0 (⟨"java/lang/StringBuilder", "append", "(Ljava/lang/String;)Ljava/lang/AbstractStringBuilder;"⟩ : MethodName) jdk_67_method_80_code 2 (some (.object "java/lang/AbstractStringBuilder")) ({ frames := 5, cells := 0, slots := 0, locals := 96 } : Room) #[(.ref r0), (.ref r1)] h0 (fun v h => v = some (.ref r0) ∧ Keep h0 h [r0, v0] ∧ Fld Z h r0 "java/lang/AbstractStringBuilder" "value" "[B" (.ref v0) ∧ Fld Z h r0 "java/lang/AbstractStringBuilder" "coder" "B" (.int (0 : Int32)) ∧ Fld Z h r0 "java/lang/AbstractStringBuilder" "count" "I" (.int (Int32.ofNat (dp + xs.length))) ∧ Fld Z h r0 "java/lang/AbstractStringBuilder" "maybeLatin1" "Z" (.int (0 : Int32)) ∧ own_Arr Z h v0 .byte (Int32.ofNat cap) (own_cpf f 0 dp xs.length g)) := by
  refine own_met (plainFor_of_name pn_8) ?_
  intro p e s m below meth c T0 hx hby hml hown hnm hret hlk hZ A0
  rw [ef_7]
  show own_Go _ _ _ _ (T0.setTop (mkF m 0 #[.val (.ref r0), .val (.ref r1)] []))
  refine own_go (fun t_ k_ => XS.aloadN A0.here hx rfl (hb hby d7_0) rfl rfl k_) ?_
  show own_Go _ _ _ _ (T0.setTop (mkF m 1 #[.val (.ref r0), .val (.ref r1)] [(.ref r0)]))
  refine own_go (fun t_ k_ => XS.aloadN A0.here hx rfl (hb hby d7_1) rfl rfl k_) ?_
  show own_Go _ _ _ _ (T0.setTop (mkF m 2 #[.val (.ref r0), .val (.ref r1)] [(.ref r1), (.ref r0)]))
  refine own_callV A0 hx hZ (y := (⟨"java/lang/StringBuilder", "append", "(Ljava/lang/String;)Ljava/lang/StringBuilder;"⟩ : MethodName)) (z := (⟨"java/lang/StringBuilder", "append", "(Ljava/lang/String;)Ljava/lang/StringBuilder;"⟩ : MethodName)) hown (hw _ (List.mem_of_getElem? (i := 52) rfl)) (hw _ (List.mem_of_getElem? (i := 53) rfl)) (hw _ (List.mem_of_getElem? (i := 55) rfl)) (hw _ (List.mem_of_getElem? (i := 54) rfl)) (hw _ (List.mem_of_getElem? (i := 6) rfl)) (hw _ (List.mem_of_getElem? (i := 56) rfl)) (notFace_of_selects (args := #[]) (mvT hZ (hw _ (List.mem_of_getElem? (i := 55) rfl)))) (by decide) (b := r0) (argsL := [(.ref r1)]) (rest := []) Eb (rm8 l Z a0 hw r0 r1 z_C t0 f xs g dp cap v0 h0 n0 S_C0 hz Eb Fbv Fbc Fbn Fbm Vb hcb Es Fcs Fvs Vs gv g0 ne_v0_r0 ne_v0_r1 ne_v0_t0 ne_r0_r1 ne_r0_t0 Bs Bb hfit) 0 (by decide) (by decide) rfl (by rw [hml]; rfl) (lenOf pd__Ljava_lang_String__Ljava_lang_StringBuilder_ rfl) rfl (by show 2 * 0 + _ ≤ _; exact Nat.le_of_eq rfl) (hb hby d7_2) (by decide) (by decide) (fun v4 T1 h3 A2 hQ5 => ?_)
  obtain ⟨rfl, K6, F7, F8, F9, F10, V11⟩ := hQ5
  have E12 : Exa Z h3 r0 "java/lang/StringBuilder" := Eb.keep K6
  have E13 : Exa Z h3 r1 "java/lang/String" := Es.keep K6
  have F14 : Fld Z h3 r1 "java/lang/String" "coder" "B" (.int (0 : Int32)) := Fcs.keep K6 (ninS (Ne.symm ne_r0_r1) (ninS (Ne.symm ne_v0_r1) nin0))
  have F15 : Fld Z h3 r1 "java/lang/String" "value" "[B" (.ref t0) := Fvs.keep K6 (ninS (Ne.symm ne_r0_r1) (ninS (Ne.symm ne_v0_r1) nin0))
  have V16 : own_Arr Z h3 t0 .byte (Int32.ofNat xs.length) f := Vs.keep K6 (ninS (Ne.symm ne_r0_t0) (ninS (Ne.symm ne_v0_t0) nin0))
  have K17 : Keep h0 h3 [r0, v0] := (Keep.refl h0 [r0, v0]).trans K6 (allS (Or.inl (List.mem_of_getElem? (i := 0) rfl)) (allS (Or.inl (List.mem_of_getElem? (i := 1) rfl)) all0))
  show own_Go _ _ _ _ (T1.setTop (mkF m 5 #[.val (.ref r0), .val (.ref r1)] [(.ref r0)]))
  refine own_retA A2 hx hret rfl hlk (by decide) (by decide) rfl (hb hby d7_5) ?_
  exact ⟨rfl, K17, F7, F8, F9, F10, V11⟩
theorem ef_21 (m : MethodId) (r0 : Addr) (y1 : Int32) : entryFrame m #[(.ref r0), (.int y1)] 2 = mkF m 0 #[.val (.ref r0), .val (.int y1)] [] := by first | (simp [entryFrame, mkF, argsToLocals, Value.category]; done) | rfl
theorem d21_0 : decode jdk_68_method_2_code 0 = .ok (.aload_n 0, 1) := by decide +kernel
theorem d21_1 : decode jdk_68_method_2_code 1 = .ok (.invokespecial 3, 3) := by decide +kernel
theorem d21_4 : decode jdk_68_method_2_code 4 = .ok (.getstatic 18, 3) := by decide +kernel
theorem d21_7 : decode jdk_68_method_2_code 7 = .ok (.ifCond .eq 18, 3) := by decide +kernel
theorem d21_10 : decode jdk_68_method_2_code 10 = .ok (.aload_n 0, 1) := by decide +kernel
theorem d21_11 : decode jdk_68_method_2_code 11 = .ok (.iload_n 1, 1) := by decide +kernel
theorem d21_12 : decode jdk_68_method_2_code 12 = .ok (.newarray .byte, 2) := by decide +kernel
theorem d21_14 : decode jdk_68_method_2_code 14 = .ok (.putfield 15, 3) := by decide +kernel
theorem d21_17 : decode jdk_68_method_2_code 17 = .ok (.aload_n 0, 1) := by decide +kernel
theorem d21_18 : decode jdk_68_method_2_code 18 = .ok (.iconst 0, 1) := by decide +kernel
theorem d21_19 : decode jdk_68_method_2_code 19 = .ok (.putfield 22, 3) := by decide +kernel
theorem d21_22 : decode jdk_68_method_2_code 22 = .ok (.goto 16, 3) := by decide +kernel
theorem d21_38 : decode jdk_68_method_2_code 38 = .ok (.return_, 1) := by decide +kernel
set_option maxRecDepth 65536 in
set_option maxHeartbeats 40000000 in
theorem rm21 (l : Launch) (Z : State) (a0 : Array Value) (hw : ∀ d ∈ tables_1, d.before a0 Z = true) (r0 : Addr) (z_C : Int32) (cap : Nat) (h0 : Heap) (n0 : Nat) (S_C0 : Sta Z h0 "java/lang/String" "COMPACT_STRINGS" "Z" (.int z_C)) (hz : ¬ z_C = 0) (Z0 : n0 ≤ h0.size) (Eb : Exa Z h0 r0 "java/lang/StringBuilder") (F0v : Fld Z h0 r0 "java/lang/AbstractStringBuilder" "value" "[B" .null) (F0c : Fld Z h0 r0 "java/lang/AbstractStringBuilder" "coder" "B" (.int (0 : Int32))) (F0n : Fld Z h0 r0 "java/lang/AbstractStringBuilder" "count" "I" (.int (0 : Int32))) (F0m : Fld Z h0 r0 "java/lang/AbstractStringBuilder" "maybeLatin1" "Z" (.int (0 : Int32))) (g0 : n0 ≤ r0) (hc : cap ≤ 256) :
    own_Met l Z n0 (⟨"java/lang/AbstractStringBuilder", "<init>", "(I)V"⟩ : MethodName) jdk_68_method_2_code 2 none ({ frames := 1, cells := 1, slots := 256, locals := 12 } : Room) #[(.ref r0), (.int (Int32.ofNat cap))] h0 (fun v h => v = none ∧ Keep h0 h [r0] ∧ ∃ v0, n0 ≤ v0 ∧ h0.size ≤ v0 ∧ Fld Z h r0 "java/lang/AbstractStringBuilder" "value" "[B" (.ref v0) ∧ Fld Z h r0 "java/lang/AbstractStringBuilder" "coder" "B" (.int (0 : Int32)) ∧ Fld Z h r0 "java/lang/AbstractStringBuilder" "count" "I" (.int (0 : Int32)) ∧ Fld Z h r0 "java/lang/AbstractStringBuilder" "maybeLatin1" "Z" (.int (0 : Int32)) ∧ own_Arr Z h v0 .byte (Int32.ofNat cap) (fun _ => 0) ∧ Exa Z h v0 "[B") := by
  refine own_met (plainFor_of_name pn_10) ?_
  intro p e s m below meth c T0 hx hby hml hown hnm hret hlk hZ A0
  rw [ef_21]
  show own_Go _ _ _ _ (T0.setTop (mkF m 0 #[.val (.ref r0), .val (.int (Int32.ofNat cap))] []))
  refine own_go (fun t_ k_ => XS.aloadN A0.here hx rfl (hb hby d21_0) rfl rfl k_) ?_
  show own_Go _ _ _ _ (T0.setTop (mkF m 1 #[.val (.ref r0), .val (.int (Int32.ofNat cap))] [(.ref r0)]))
  refine own_initO A0 hx hZ hown (hw _ (List.mem_of_getElem? (i := 24) rfl)) (hw _ (List.mem_of_getElem? (i := 25) rfl)) (hw _ (List.mem_of_getElem? (i := 26) rfl)) rfl (by rw [hml]; rfl) rfl (hb hby d21_1) (by decide) 0 (by show 2 * 0 + _ ≤ _; exact Nat.le_of_eq rfl) (by decide) (fun T1 A2 => ?_)
  show own_Go _ _ _ _ (T1.setTop (mkF m 4 #[.val (.ref r0), .val (.int (Int32.ofNat cap))] []))
  refine own_getS A2 hx hZ hown (host := "") (Or.inl (hw _ (List.mem_of_getElem? (i := 77) rfl))) Via.refl S_C0 rfl (hb hby d21_4) (fun T3 A4 => ?_)
  show own_Go _ _ _ _ (T3.setTop (mkF m 7 #[.val (.ref r0), .val (.int (Int32.ofNat cap))] [(.int z_C)]))
  have hc5 : ¬ (z_C = (0 : Int32)) := hz
  refine own_go (fun t_ k_ => XS.ifNo A4.here hx rfl (hb hby d21_7) rfl ((if0 _ _).trans (feq hc5).1) k_) ?_
  show own_Go _ _ _ _ (T3.setTop (mkF m 10 #[.val (.ref r0), .val (.int (Int32.ofNat cap))] []))
  refine own_go (fun t_ k_ => XS.aloadN A4.here hx rfl (hb hby d21_10) rfl rfl k_) ?_
  show own_Go _ _ _ _ (T3.setTop (mkF m 11 #[.val (.ref r0), .val (.int (Int32.ofNat cap))] [(.ref r0)]))
  refine own_go (fun t_ k_ => XS.iloadN A4.here hx rfl (hb hby d21_11) rfl k_) ?_
  show own_Go _ _ _ _ (T3.setTop (mkF m 12 #[.val (.ref r0), .val (.int (Int32.ofNat cap))] [(.int (Int32.ofNat cap)), (.ref r0)]))
  refine own_newPE A4 hx hZ (hw _ (List.mem_of_getElem? (i := 10) rfl)) rfl rfl (hb hby d21_12) rfl (own_nn (by omega)) 256 (by rw [own_toN (by omega)]; omega) (ad := "[B") rfl (by decide) (by decide) (by decide) (fun T6 h8 b9 ha_b9 A7 E10 V11 R12 => ?_)
  have ne_r0_b9 : r0 ≠ b9 := Nat.ne_of_lt (by rw [ha_b9]; exact Eb.lt)
  have g_b9 : n0 ≤ b9 := by rw [ha_b9]; exact Z0
  have nw_b9 : h0.size ≤ b9 := by rw [ha_b9]; exact (Keep.refl h0 [r0]).1
  have Z13 : n0 ≤ h8.size := Nat.le_trans Z0 E10.1
  have E14 : Exa Z h8 r0 "java/lang/StringBuilder" := Eb.ext E10
  have F15 : Fld Z h8 r0 "java/lang/AbstractStringBuilder" "value" "[B" .null := F0v.ext E10
  have F16 : Fld Z h8 r0 "java/lang/AbstractStringBuilder" "coder" "B" (.int (0 : Int32)) := F0c.ext E10
  have F17 : Fld Z h8 r0 "java/lang/AbstractStringBuilder" "count" "I" (.int (0 : Int32)) := F0n.ext E10
  have F18 : Fld Z h8 r0 "java/lang/AbstractStringBuilder" "maybeLatin1" "Z" (.int (0 : Int32)) := F0m.ext E10
  have K19 : Keep h0 h8 [r0] := (Keep.refl h0 [r0]).ext E10
  show own_Go _ _ _ _ (T6.setTop (mkF m 14 #[.val (.ref r0), .val (.int (Int32.ofNat cap))] [(.ref b9), (.ref r0)]))
  refine own_putF A7 hx hZ hown (host := "") (Or.inl (hw _ (List.mem_of_getElem? (i := 44) rfl))) Via.refl F15 E14 (Or.inl (hw _ (List.mem_of_getElem? (i := 45) rfl))) (hw _ (List.mem_of_getElem? (i := 5) rfl)) (ty := (.array .byte)) (by decide) rfl rfl g0 rfl rfl (hb hby d21_14) (fun T20 h22 A21 W23 => ?_)
  have Z24 : n0 ≤ h22.size := Nat.le_trans Z13 (Nat.le_of_eq (Wr.size W23).symm)
  have E25 : Exa Z h22 r0 "java/lang/StringBuilder" := E14.wr W23
  have F26 : Fld Z h22 r0 "java/lang/AbstractStringBuilder" "value" "[B" (.ref b9) := F15.same W23
  have F27 : Fld Z h22 r0 "java/lang/AbstractStringBuilder" "coder" "B" (.int (0 : Int32)) := F16.other W23 (Or.inr (slot_ne (Or.inl (hw _ (List.mem_of_getElem? (i := 43) rfl))) (Or.inl (hw _ (List.mem_of_getElem? (i := 45) rfl))) (by decide) (t := .byte) (t' := (.array .byte)) (by decide) (by decide)))
  have F28 : Fld Z h22 r0 "java/lang/AbstractStringBuilder" "count" "I" (.int (0 : Int32)) := F17.other W23 (Or.inr (slot_ne (Or.inl (hw _ (List.mem_of_getElem? (i := 61) rfl))) (Or.inl (hw _ (List.mem_of_getElem? (i := 45) rfl))) (by decide) (t := .int) (t' := (.array .byte)) (by decide) (by decide)))
  have F29 : Fld Z h22 r0 "java/lang/AbstractStringBuilder" "maybeLatin1" "Z" (.int (0 : Int32)) := F18.other W23 (Or.inr (slot_ne (Or.inl (hw _ (List.mem_of_getElem? (i := 201) rfl))) (Or.inl (hw _ (List.mem_of_getElem? (i := 45) rfl))) (by decide) (t := .boolean) (t' := (.array .byte)) (by decide) (by decide)))
  have K30 : Keep h0 h22 [r0] := K19.wr W23 (Or.inl (List.mem_of_getElem? (i := 0) rfl))
  have E31 : Exa Z h22 b9 "[B" := R12.wr W23
  have V32 : own_Arr Z h22 b9 .byte (Int32.ofNat cap) (fun _ => 0) := V11.other W23 (Ne.symm ne_r0_b9)
  show own_Go _ _ _ _ (T20.setTop (mkF m 17 #[.val (.ref r0), .val (.int (Int32.ofNat cap))] []))
  refine own_go (fun t_ k_ => XS.aloadN A21.here hx rfl (hb hby d21_17) rfl rfl k_) ?_
  show own_Go _ _ _ _ (T20.setTop (mkF m 18 #[.val (.ref r0), .val (.int (Int32.ofNat cap))] [(.ref r0)]))
  refine own_go (fun t_ k_ => XS.iconst A21.here hx rfl (hb hby d21_18) k_) ?_
  show own_Go _ _ _ _ (T20.setTop (mkF m 19 #[.val (.ref r0), .val (.int (Int32.ofNat cap))] [(.int (0 : Int32)), (.ref r0)]))
  refine own_putF A21 hx hZ hown (host := "") (Or.inl (hw _ (List.mem_of_getElem? (i := 42) rfl))) Via.refl F27 E25 (Or.inl (hw _ (List.mem_of_getElem? (i := 43) rfl))) (hw _ (List.mem_of_getElem? (i := 5) rfl)) (ty := .byte) (by decide) rfl rfl g0 rfl rfl (hb hby d21_19) (fun T33 h35 A34 W36 => ?_)
  have Z37 : n0 ≤ h35.size := Nat.le_trans Z24 (Nat.le_of_eq (Wr.size W36).symm)
  have E38 : Exa Z h35 r0 "java/lang/StringBuilder" := E25.wr W36
  have F39 : Fld Z h35 r0 "java/lang/AbstractStringBuilder" "value" "[B" (.ref b9) := F26.other W36 (Or.inr (slot_ne (Or.inl (hw _ (List.mem_of_getElem? (i := 45) rfl))) (Or.inl (hw _ (List.mem_of_getElem? (i := 43) rfl))) (by decide) (t := (.array .byte)) (t' := .byte) (by decide) (by decide)))
  have F40 : Fld Z h35 r0 "java/lang/AbstractStringBuilder" "coder" "B" (.int (0 : Int32)) := F27.same W36
  have F41 : Fld Z h35 r0 "java/lang/AbstractStringBuilder" "count" "I" (.int (0 : Int32)) := F28.other W36 (Or.inr (slot_ne (Or.inl (hw _ (List.mem_of_getElem? (i := 61) rfl))) (Or.inl (hw _ (List.mem_of_getElem? (i := 43) rfl))) (by decide) (t := .int) (t' := .byte) (by decide) (by decide)))
  have F42 : Fld Z h35 r0 "java/lang/AbstractStringBuilder" "maybeLatin1" "Z" (.int (0 : Int32)) := F29.other W36 (Or.inr (slot_ne (Or.inl (hw _ (List.mem_of_getElem? (i := 201) rfl))) (Or.inl (hw _ (List.mem_of_getElem? (i := 43) rfl))) (by decide) (t := .boolean) (t' := .byte) (by decide) (by decide)))
  have K43 : Keep h0 h35 [r0] := K30.wr W36 (Or.inl (List.mem_of_getElem? (i := 0) rfl))
  have E44 : Exa Z h35 b9 "[B" := E31.wr W36
  have V45 : own_Arr Z h35 b9 .byte (Int32.ofNat cap) (fun _ => 0) := V32.other W36 (Ne.symm ne_r0_b9)
  show own_Go _ _ _ _ (T33.setTop (mkF m 22 #[.val (.ref r0), .val (.int (Int32.ofNat cap))] []))
  refine own_go (fun t_ k_ => XS.goto A34.here hx rfl (pc0 := 22) (pc' := 38) rfl (hb hby d21_22) (by decide) (by decide) k_) ?_
  show own_Go _ _ _ _ (T33.setTop (mkF m 38 #[.val (.ref r0), .val (.int (Int32.ofNat cap))] []))
  refine own_retV A34 hx hret hlk (by decide) (by decide) (hb hby d21_38) ?_
  exact ⟨rfl, K43, b9, g_b9, nw_b9, F39, F40, F41, F42, V45, E44⟩
theorem ef_20 (m : MethodId) (r0 : Addr) (y1 : Int32) : entryFrame m #[(.ref r0), (.int y1)] 2 = mkF m 0 #[.val (.ref r0), .val (.int y1)] [] := by first | (simp [entryFrame, mkF, argsToLocals, Value.category]; done) | rfl
theorem d20_0 : decode jdk_67_method_2_code 0 = .ok (.aload_n 0, 1) := by decide +kernel
theorem d20_1 : decode jdk_67_method_2_code 1 = .ok (.iload_n 1, 1) := by decide +kernel
theorem d20_2 : decode jdk_67_method_2_code 2 = .ok (.invokespecial 1, 3) := by decide +kernel
theorem d20_5 : decode jdk_67_method_2_code 5 = .ok (.return_, 1) := by decide +kernel
set_option maxRecDepth 65536 in
set_option maxHeartbeats 40000000 in
theorem rm20 (l : Launch) (Z : State) (a0 : Array Value) (hw : ∀ d ∈ tables_1, d.before a0 Z = true) (r0 : Addr) (z_C : Int32) (cap : Nat) (h0 : Heap) (n0 : Nat) (S_C0 : Sta Z h0 "java/lang/String" "COMPACT_STRINGS" "Z" (.int z_C)) (hz : ¬ z_C = 0) (Z0 : n0 ≤ h0.size) (Eb : Exa Z h0 r0 "java/lang/StringBuilder") (F0v : Fld Z h0 r0 "java/lang/AbstractStringBuilder" "value" "[B" .null) (F0c : Fld Z h0 r0 "java/lang/AbstractStringBuilder" "coder" "B" (.int (0 : Int32))) (F0n : Fld Z h0 r0 "java/lang/AbstractStringBuilder" "count" "I" (.int (0 : Int32))) (F0m : Fld Z h0 r0 "java/lang/AbstractStringBuilder" "maybeLatin1" "Z" (.int (0 : Int32))) (g0 : n0 ≤ r0) (hc : cap ≤ 256) :
    own_Met l Z n0 (⟨"java/lang/StringBuilder", "<init>", "(I)V"⟩ : MethodName) jdk_67_method_2_code 2 none ({ frames := 2, cells := 1, slots := 256, locals := 25 } : Room) #[(.ref r0), (.int (Int32.ofNat cap))] h0 (fun v h => v = none ∧ Keep h0 h [r0] ∧ ∃ v0, n0 ≤ v0 ∧ h0.size ≤ v0 ∧ Fld Z h r0 "java/lang/AbstractStringBuilder" "value" "[B" (.ref v0) ∧ Fld Z h r0 "java/lang/AbstractStringBuilder" "coder" "B" (.int (0 : Int32)) ∧ Fld Z h r0 "java/lang/AbstractStringBuilder" "count" "I" (.int (0 : Int32)) ∧ Fld Z h r0 "java/lang/AbstractStringBuilder" "maybeLatin1" "Z" (.int (0 : Int32)) ∧ own_Arr Z h v0 .byte (Int32.ofNat cap) (fun _ => 0) ∧ Exa Z h v0 "[B") := by
  refine own_met (plainFor_of_name pn_8) ?_
  intro p e s m below meth c T0 hx hby hml hown hnm hret hlk hZ A0
  rw [ef_20]
  show own_Go _ _ _ _ (T0.setTop (mkF m 0 #[.val (.ref r0), .val (.int (Int32.ofNat cap))] []))
  refine own_go (fun t_ k_ => XS.aloadN A0.here hx rfl (hb hby d20_0) rfl rfl k_) ?_
  show own_Go _ _ _ _ (T0.setTop (mkF m 1 #[.val (.ref r0), .val (.int (Int32.ofNat cap))] [(.ref r0)]))
  refine own_go (fun t_ k_ => XS.iloadN A0.here hx rfl (hb hby d20_1) rfl k_) ?_
  show own_Go _ _ _ _ (T0.setTop (mkF m 2 #[.val (.ref r0), .val (.int (Int32.ofNat cap))] [(.int (Int32.ofNat cap)), (.ref r0)]))
  refine own_callI A0 hx hZ (y := (⟨"java/lang/AbstractStringBuilder", "<init>", "(I)V"⟩ : MethodName)) rfl hown (hw _ (List.mem_of_getElem? (i := 119) rfl)) (hw _ (List.mem_of_getElem? (i := 120) rfl)) (hw _ (List.mem_of_getElem? (i := 22) rfl)) (hw _ (List.mem_of_getElem? (i := 122) rfl)) (by decide) (b := r0) (argsL := [(.int (Int32.ofNat cap))]) (rest := []) (rm21 l Z a0 hw r0 z_C cap h0 n0 S_C0 hz Z0 Eb F0v F0c F0n F0m g0 hc) 0 (by decide) (by decide) rfl (by rw [hml]; rfl) (lenOf pd__I_V rfl) rfl (by show 2 * 0 + _ ≤ _; exact Nat.le_of_eq rfl) (hb hby d20_2) (by decide) (by decide) (fun v4 T1 h3 A2 hQ5 => ?_)
  obtain ⟨rfl, K6, t7, gt8, nt9, F10, F11, F12, F13, V14, X15⟩ := hQ5
  have ne_r0_t7 : r0 ≠ t7 := Nat.ne_of_lt (Nat.lt_of_lt_of_le Eb.lt nt9)
  have nw_t7 : h0.size ≤ t7 := Nat.le_trans (Keep.refl h0 [r0]).1 nt9
  have Z16 : n0 ≤ h3.size := Nat.le_trans Z0 K6.1
  have E17 : Exa Z h3 r0 "java/lang/StringBuilder" := Eb.keep K6
  have K18 : Keep h0 h3 [r0] := (Keep.refl h0 [r0]).trans K6 (allS (Or.inl (List.mem_of_getElem? (i := 0) rfl)) all0)
  show own_Go _ _ _ _ (T1.setTop (mkF m 5 #[.val (.ref r0), .val (.int (Int32.ofNat cap))] []))
  refine own_retV A2 hx hret hlk (by decide) (by decide) (hb hby d20_5) ?_
  exact ⟨rfl, K18, t7, gt8, nw_t7, F10, F11, F12, F13, V14, X15⟩
theorem ef_25 (m : MethodId) (r0 : Addr) : entryFrame m #[(.ref r0)] 1 = mkF m 0 #[.val (.ref r0)] [] := by first | (simp [entryFrame, mkF, argsToLocals, Value.category]; done) | rfl
theorem d25_0 : decode jdk_68_method_64_code 0 = .ok (.aload_n 0, 1) := by decide +kernel
theorem d25_1 : decode jdk_68_method_64_code 1 = .ok (.getfield 15, 3) := by decide +kernel
theorem d25_4 : decode jdk_68_method_64_code 4 = .ok (.areturn, 1) := by decide +kernel
set_option maxRecDepth 65536 in
set_option maxHeartbeats 40000000 in
theorem rm25 (l : Launch) (Z : State) (a0 : Array Value) (hw : ∀ d ∈ tables_1, d.before a0 Z = true) (r0 : Addr) (v0 : Addr) (h0 : Heap) (n0 : Nat) (Fbv : Fld Z h0 r0 "java/lang/AbstractStringBuilder" "value" "[B" (.ref v0)) :
    own_Met l Z n0 (⟨"java/lang/AbstractStringBuilder", "getValue", "()[B"⟩ : MethodName) jdk_68_method_64_code 1 (some (.array .byte)) ({ frames := 0, cells := 0, slots := 0, locals := 0 } : Room) #[(.ref r0)] h0 (fun v h => v = some (.ref v0) ∧ h0 = h) := by
  refine own_met (plainFor_of_name pn_10) ?_
  intro p e s m below meth c T0 hx hby hml hown hnm hret hlk hZ A0
  rw [ef_25]
  show own_Go _ _ _ _ (T0.setTop (mkF m 0 #[.val (.ref r0)] []))
  refine own_go (fun t_ k_ => XS.aloadN A0.here hx rfl (hb hby d25_0) rfl rfl k_) ?_
  show own_Go _ _ _ _ (T0.setTop (mkF m 1 #[.val (.ref r0)] [(.ref r0)]))
  refine own_getF A0 hx hZ hown (host := "") (Or.inl (hw _ (List.mem_of_getElem? (i := 44) rfl))) Via.refl Fbv rfl rfl (hb hby d25_1) (fun T1 A2 => ?_)
  show own_Go _ _ _ _ (T1.setTop (mkF m 4 #[.val (.ref r0)] [(.ref v0)]))
  refine own_retA A2 hx hret rfl hlk (by decide) (by decide) rfl (hb hby d25_4) ?_
  exact ⟨rfl, rfl⟩
theorem ef_19 (m : MethodId) (r0 : Addr) : entryFrame m #[(.ref r0)] 1 = mkF m 0 #[.val (.ref r0)] [] := by first | (simp [entryFrame, mkF, argsToLocals, Value.category]; done) | rfl
theorem d19_0 : decode jdk_68_method_6_code 0 = .ok (.aload_n 0, 1) := by decide +kernel
theorem d19_1 : decode jdk_68_method_6_code 1 = .ok (.getfield 79, 3) := by decide +kernel
theorem d19_4 : decode jdk_68_method_6_code 4 = .ok (.ireturn, 1) := by decide +kernel
set_option maxRecDepth 65536 in
set_option maxHeartbeats 40000000 in
theorem rm19 (l : Launch) (Z : State) (a0 : Array Value) (hw : ∀ d ∈ tables_1, d.before a0 Z = true) (r0 : Addr) (cn : Int32) (h0 : Heap) (n0 : Nat) (Eb : Exa Z h0 r0 "java/lang/StringBuilder") (Fbn : Fld Z h0 r0 "java/lang/AbstractStringBuilder" "count" "I" (.int cn)) :
    own_Met l Z n0 (⟨"java/lang/AbstractStringBuilder", "length", "()I"⟩ : MethodName) jdk_68_method_6_code 1 (some .int) ({ frames := 0, cells := 0, slots := 0, locals := 0 } : Room) #[(.ref r0)] h0 (fun v h => v = some (.int cn) ∧ h0 = h) := by
  refine own_met (plainFor_of_name pn_10) ?_
  intro p e s m below meth c T0 hx hby hml hown hnm hret hlk hZ A0
  rw [ef_19]
  show own_Go _ _ _ _ (T0.setTop (mkF m 0 #[.val (.ref r0)] []))
  refine own_go (fun t_ k_ => XS.aloadN A0.here hx rfl (hb hby d19_0) rfl rfl k_) ?_
  show own_Go _ _ _ _ (T0.setTop (mkF m 1 #[.val (.ref r0)] [(.ref r0)]))
  refine own_getF A0 hx hZ hown (host := "") (Or.inl (hw _ (List.mem_of_getElem? (i := 60) rfl))) Via.refl Fbn rfl rfl (hb hby d19_1) (fun T1 A2 => ?_)
  show own_Go _ _ _ _ (T1.setTop (mkF m 4 #[.val (.ref r0)] [(.int cn)]))
  refine own_retI A2 hx hret hlk (by decide) (by decide) (hb hby d19_4) ?_
  exact ⟨rfl, rfl⟩
theorem ef_18 (m : MethodId) (r0 : Addr) : entryFrame m #[(.ref r0)] 1 = mkF m 0 #[.val (.ref r0)] [] := by first | (simp [entryFrame, mkF, argsToLocals, Value.category]; done) | rfl
theorem d18_0 : decode jdk_67_method_93_code 0 = .ok (.aload_n 0, 1) := by decide +kernel
theorem d18_1 : decode jdk_67_method_93_code 1 = .ok (.invokespecial 343, 3) := by decide +kernel
theorem d18_4 : decode jdk_67_method_93_code 4 = .ok (.ireturn, 1) := by decide +kernel
set_option maxRecDepth 65536 in
set_option maxHeartbeats 40000000 in
theorem rm18 (l : Launch) (Z : State) (a0 : Array Value) (hw : ∀ d ∈ tables_1, d.before a0 Z = true) (r0 : Addr) (cn : Int32) (h0 : Heap) (n0 : Nat) (Eb : Exa Z h0 r0 "java/lang/StringBuilder") (Fbn : Fld Z h0 r0 "java/lang/AbstractStringBuilder" "count" "I" (.int cn)) :
    own_Met l Z n0 (⟨"java/lang/StringBuilder", "length", "()I"⟩ : MethodName) jdk_67_method_93_code 1 (some .int) ({ frames := 1, cells := 0, slots := 0, locals := 12 } : Room) #[(.ref r0)] h0 (fun v h => v = some (.int cn) ∧ h0 = h) := by
  refine own_met (plainFor_of_name pn_8) ?_
  intro p e s m below meth c T0 hx hby hml hown hnm hret hlk hZ A0
  rw [ef_18]
  show own_Go _ _ _ _ (T0.setTop (mkF m 0 #[.val (.ref r0)] []))
  refine own_go (fun t_ k_ => XS.aloadN A0.here hx rfl (hb hby d18_0) rfl rfl k_) ?_
  show own_Go _ _ _ _ (T0.setTop (mkF m 1 #[.val (.ref r0)] [(.ref r0)]))
  refine own_callU A0 hx hZ (y := (⟨"java/lang/AbstractStringBuilder", "length", "()I"⟩ : MethodName)) hown (hw _ (List.mem_of_getElem? (i := 112) rfl)) (hw _ (List.mem_of_getElem? (i := 113) rfl)) (hw _ (List.mem_of_getElem? (i := 65) rfl)) rfl (hw _ (List.mem_of_getElem? (i := 58) rfl)) (by decide) (hw _ (List.mem_of_getElem? (i := 22) rfl)) (hw _ (List.mem_of_getElem? (i := 115) rfl)) (by decide) (b := r0) (argsL := []) (rest := []) (Ins.of_exa Eb (hw _ (List.mem_of_getElem? (i := 21) rfl))) (rm19 l Z a0 hw r0 cn h0 n0 Eb Fbn) 0 (by decide) (by decide) rfl (by rw [hml]; rfl) (lenOf pd___I rfl) rfl (by show 2 * 0 + _ ≤ _; exact Nat.le_of_eq rfl) (hb hby d18_1) (by decide) (by decide) (fun v4 T1 h3 A2 hQ5 => ?_)
  obtain ⟨rfl, rfl⟩ := hQ5
  show own_Go _ _ _ _ (T1.setTop (mkF m 4 #[.val (.ref r0)] [(.int cn)]))
  refine own_retI A2 hx hret hlk (by decide) (by decide) (hb hby d18_4) ?_
  exact ⟨rfl, rfl⟩
theorem ef_16 (m : MethodId) (r0 : Addr) : entryFrame m #[(.ref r0)] 1 = mkF m 0 #[.val (.ref r0)] [] := by first | (simp [entryFrame, mkF, argsToLocals, Value.category]; done) | rfl
theorem d16_0 : decode jdk_68_method_68_code 0 = .ok (.getstatic 18, 3) := by decide +kernel
theorem d16_3 : decode jdk_68_method_68_code 3 = .ok (.ifCond .eq 14, 3) := by decide +kernel
theorem d16_6 : decode jdk_68_method_68_code 6 = .ok (.aload_n 0, 1) := by decide +kernel
theorem d16_7 : decode jdk_68_method_68_code 7 = .ok (.getfield 22, 3) := by decide +kernel
theorem d16_10 : decode jdk_68_method_68_code 10 = .ok (.ifCond .ne 7, 3) := by decide +kernel
theorem d16_13 : decode jdk_68_method_68_code 13 = .ok (.iconst 1, 1) := by decide +kernel
theorem d16_14 : decode jdk_68_method_68_code 14 = .ok (.goto 4, 3) := by decide +kernel
theorem d16_18 : decode jdk_68_method_68_code 18 = .ok (.ireturn, 1) := by decide +kernel
set_option maxRecDepth 65536 in
set_option maxHeartbeats 40000000 in
theorem rm16 (l : Launch) (Z : State) (a0 : Array Value) (hw : ∀ d ∈ tables_1, d.before a0 Z = true) (r0 : Addr) (z_C : Int32) (h0 : Heap) (n0 : Nat) (S_C0 : Sta Z h0 "java/lang/String" "COMPACT_STRINGS" "Z" (.int z_C)) (hz : ¬ z_C = 0) (Fbc : Fld Z h0 r0 "java/lang/AbstractStringBuilder" "coder" "B" (.int (0 : Int32))) :
    own_Met l Z n0 (⟨"java/lang/AbstractStringBuilder", "isLatin1", "()Z"⟩ : MethodName) jdk_68_method_68_code 1 (some .boolean) ({ frames := 0, cells := 0, slots := 0, locals := 0 } : Room) #[(.ref r0)] h0 (fun v h => v = some (.int 1) ∧ h0 = h) := by
  refine own_met (plainFor_of_name pn_10) ?_
  intro p e s m below meth c T0 hx hby hml hown hnm hret hlk hZ A0
  rw [ef_16]
  show own_Go _ _ _ _ (T0.setTop (mkF m 0 #[.val (.ref r0)] []))
  refine own_getS A0 hx hZ hown (host := "") (Or.inl (hw _ (List.mem_of_getElem? (i := 77) rfl))) Via.refl S_C0 rfl (hb hby d16_0) (fun T1 A2 => ?_)
  show own_Go _ _ _ _ (T1.setTop (mkF m 3 #[.val (.ref r0)] [(.int z_C)]))
  have hc3 : ¬ (z_C = (0 : Int32)) := hz
  refine own_go (fun t_ k_ => XS.ifNo A2.here hx rfl (hb hby d16_3) rfl ((if0 _ _).trans (feq hc3).1) k_) ?_
  show own_Go _ _ _ _ (T1.setTop (mkF m 6 #[.val (.ref r0)] []))
  refine own_go (fun t_ k_ => XS.aloadN A2.here hx rfl (hb hby d16_6) rfl rfl k_) ?_
  show own_Go _ _ _ _ (T1.setTop (mkF m 7 #[.val (.ref r0)] [(.ref r0)]))
  refine own_getF A2 hx hZ hown (host := "") (Or.inl (hw _ (List.mem_of_getElem? (i := 42) rfl))) Via.refl Fbc rfl rfl (hb hby d16_7) (fun T4 A5 => ?_)
  show own_Go _ _ _ _ (T4.setTop (mkF m 10 #[.val (.ref r0)] [(.int (0 : Int32))]))
  have hc6 : (0 : Int32) = (0 : Int32) := (by decide)
  refine own_go (fun t_ k_ => XS.ifNo A5.here hx rfl (hb hby d16_10) rfl ((if0 _ _).trans (teq hc6).2) k_) ?_
  show own_Go _ _ _ _ (T4.setTop (mkF m 13 #[.val (.ref r0)] []))
  refine own_go (fun t_ k_ => XS.iconst A5.here hx rfl (hb hby d16_13) k_) ?_
  show own_Go _ _ _ _ (T4.setTop (mkF m 14 #[.val (.ref r0)] [(.int (1 : Int32))]))
  refine own_go (fun t_ k_ => XS.goto A5.here hx rfl (pc0 := 14) (pc' := 18) rfl (hb hby d16_14) (by decide) (by decide) k_) ?_
  show own_Go _ _ _ _ (T4.setTop (mkF m 18 #[.val (.ref r0)] [(.int (1 : Int32))]))
  refine own_retN A5 hx (t := .boolean) hret (by simp) hlk (by decide) (by decide) (hb hby d16_18) ?_
  exact ⟨rfl, rfl⟩
theorem ef_32 (m : MethodId) (r0 : Addr) : entryFrame m #[(.ref r0)] 1 = mkF m 0 #[.val (.ref r0)] [] := by first | (simp [entryFrame, mkF, argsToLocals, Value.category]; done) | rfl
theorem d32_0 : decode jdk_68_method_67_code 0 = .ok (.getstatic 18, 3) := by decide +kernel
theorem d32_3 : decode jdk_68_method_67_code 3 = .ok (.ifCond .eq 10, 3) := by decide +kernel
theorem d32_6 : decode jdk_68_method_67_code 6 = .ok (.aload_n 0, 1) := by decide +kernel
theorem d32_7 : decode jdk_68_method_67_code 7 = .ok (.getfield 22, 3) := by decide +kernel
theorem d32_10 : decode jdk_68_method_67_code 10 = .ok (.goto 4, 3) := by decide +kernel
theorem d32_14 : decode jdk_68_method_67_code 14 = .ok (.ireturn, 1) := by decide +kernel
set_option maxRecDepth 65536 in
set_option maxHeartbeats 40000000 in
theorem rm32 (l : Launch) (Z : State) (a0 : Array Value) (hw : ∀ d ∈ tables_1, d.before a0 Z = true) (r0 : Addr) (z_C : Int32) (h0 : Heap) (n0 : Nat) (S_C0 : Sta Z h0 "java/lang/String" "COMPACT_STRINGS" "Z" (.int z_C)) (hz : ¬ z_C = 0) (Fbc : Fld Z h0 r0 "java/lang/AbstractStringBuilder" "coder" "B" (.int (0 : Int32))) :
    own_Met l Z n0 (⟨"java/lang/AbstractStringBuilder", "getCoder", "()B"⟩ : MethodName) jdk_68_method_67_code 1 (some .byte) ({ frames := 0, cells := 0, slots := 0, locals := 0 } : Room) #[(.ref r0)] h0 (fun v h => v = some (.int 0) ∧ h0 = h) := by
  refine own_met (plainFor_of_name pn_10) ?_
  intro p e s m below meth c T0 hx hby hml hown hnm hret hlk hZ A0
  rw [ef_32]
  show own_Go _ _ _ _ (T0.setTop (mkF m 0 #[.val (.ref r0)] []))
  refine own_getS A0 hx hZ hown (host := "") (Or.inl (hw _ (List.mem_of_getElem? (i := 77) rfl))) Via.refl S_C0 rfl (hb hby d32_0) (fun T1 A2 => ?_)
  show own_Go _ _ _ _ (T1.setTop (mkF m 3 #[.val (.ref r0)] [(.int z_C)]))
  have hc3 : ¬ (z_C = (0 : Int32)) := hz
  refine own_go (fun t_ k_ => XS.ifNo A2.here hx rfl (hb hby d32_3) rfl ((if0 _ _).trans (feq hc3).1) k_) ?_
  show own_Go _ _ _ _ (T1.setTop (mkF m 6 #[.val (.ref r0)] []))
  refine own_go (fun t_ k_ => XS.aloadN A2.here hx rfl (hb hby d32_6) rfl rfl k_) ?_
  show own_Go _ _ _ _ (T1.setTop (mkF m 7 #[.val (.ref r0)] [(.ref r0)]))
  refine own_getF A2 hx hZ hown (host := "") (Or.inl (hw _ (List.mem_of_getElem? (i := 42) rfl))) Via.refl Fbc rfl rfl (hb hby d32_7) (fun T4 A5 => ?_)
  show own_Go _ _ _ _ (T4.setTop (mkF m 10 #[.val (.ref r0)] [(.int (0 : Int32))]))
  refine own_go (fun t_ k_ => XS.goto A5.here hx rfl (pc0 := 10) (pc' := 14) rfl (hb hby d32_10) (by decide) (by decide) k_) ?_
  show own_Go _ _ _ _ (T4.setTop (mkF m 14 #[.val (.ref r0)] [(.int (0 : Int32))]))
  refine own_retN A5 hx (t := .byte) hret (by simp) hlk (by decide) (by decide) (hb hby d32_14) ?_
  exact ⟨rfl, rfl⟩
theorem ef_17 (m : MethodId) (p0 : Int32) : entryFrame m #[(.int p0)] 1 = mkF m 0 #[.val (.int p0)] [] := by first | (simp [entryFrame, mkF, argsToLocals, Value.category]; done) | rfl
theorem pn_17 : plainName "java/lang/StringLatin1" = true := by first | (simp [plainName, overriddenIn]; done) | decide +kernel
theorem d17_0 : decode jdk_43_method_3_code 0 = .ok (.iload_n 0, 1) := by decide +kernel
theorem d17_1 : decode jdk_43_method_3_code 1 = .ok (.sipush 255, 3) := by decide +kernel
theorem d17_4 : decode jdk_43_method_3_code 4 = .ok (.if_icmp .gt 7, 3) := by decide +kernel
theorem d17_11 : decode jdk_43_method_3_code 11 = .ok (.iconst 0, 1) := by decide +kernel
theorem d17_7 : decode jdk_43_method_3_code 7 = .ok (.iconst 1, 1) := by decide +kernel
theorem d17_8 : decode jdk_43_method_3_code 8 = .ok (.goto 4, 3) := by decide +kernel
theorem d17_12 : decode jdk_43_method_3_code 12 = .ok (.ireturn, 1) := by decide +kernel
def f17 (p0 : Int32) : Int32 := (nar .boolean (if (255 : Int32) < p0 then (0 : Int32) else (1 : Int32)))
set_option maxRecDepth 65536 in
set_option maxHeartbeats 40000000 in
theorem rm17 (l : Launch) (Z : State) (a0 : Array Value) (hw : ∀ d ∈ tables_1, d.before a0 Z = true) (p0 : Int32) (h0 : Heap) (n0 : Nat) :
    own_Met l Z n0 (⟨"java/lang/StringLatin1", "canEncode", "(C)Z"⟩ : MethodName) jdk_43_method_3_code 1 (some .boolean) ({ frames := 0, cells := 0, slots := 0, locals := 0 } : Room) #[(.int p0)] h0 (fun v h => v = some (.int (f17 p0)) ∧ h0 = h) := by
  refine own_met (plainFor_of_name pn_17) ?_
  intro p e s m below meth c T0 hx hby hml hown hnm hret hlk hZ A0
  rw [ef_17]
  show own_Go _ _ _ _ (T0.setTop (mkF m 0 #[.val (.int p0)] []))
  refine own_go (fun t_ k_ => XS.iloadN A0.here hx rfl (hb hby d17_0) rfl k_) ?_
  show own_Go _ _ _ _ (T0.setTop (mkF m 1 #[.val (.int p0)] [(.int p0)]))
  refine own_go (fun t_ k_ => XS.sipush A0.here hx rfl (hb hby d17_1) k_) ?_
  show own_Go _ _ _ _ (T0.setTop (mkF m 4 #[.val (.int p0)] [(.int (255 : Int32)), (.int p0)]))
  have mg1 : ∀ t_, Steps p.tables e below (T0.setTop (mkF m 12 #[.val (.int p0)] [(.int (if (255 : Int32) < p0 then (0 : Int32) else (1 : Int32)))])) t_ → Steps p.tables e below (T0.setTop (mkF m 4 #[.val (.int p0)] [(.int (255 : Int32)), (.int p0)])) t_ := by
    intro t_ k_
    by_cases hm4_0 : (255 : Int32) < p0
    ·
      simp only [if_pos hm4_0] at k_
      exact (XS.icmpYes A0.here hx rfl (pc0 := 4) (pc' := 11) rfl (hb hby d17_4) rfl (tlt hm4_0).2.2.1 (by decide) (by decide) (XS.iconst A0.here hx rfl (hb hby d17_11) k_))
    ·
      simp only [if_neg hm4_0] at k_
      exact (XS.icmpNo A0.here hx rfl (hb hby d17_4) rfl (flt hm4_0).2.2.1 (XS.iconst A0.here hx rfl (hb hby d17_7) (XS.goto A0.here hx rfl (pc0 := 8) (pc' := 12) rfl (hb hby d17_8) (by decide) (by decide) k_)))
  refine own_go mg1 ?_
  show own_Go _ _ _ _ (T0.setTop (mkF m 12 #[.val (.int p0)] [(.int (if (255 : Int32) < p0 then (0 : Int32) else (1 : Int32)))]))
  refine own_retN A0 hx (t := .boolean) hret (by simp) hlk (by decide) (by decide) (hb hby d17_12) ?_
  exact ⟨rfl, rfl⟩
theorem own_can {p : Int32} (h : ¬ p < 0 ∧ ¬ (255 : Int32) < p) : ¬ f17 p = 0 := by
  unfold f17
  first | (rw [if_neg h.2]; decide) | (simp [h.2]; decide) | (simp [h.2])
theorem ef_15 (m : MethodId) (r0 : Addr) (p1 : Int32) : entryFrame m #[(.ref r0), (.int p1)] 2 = mkF m 0 #[.val (.ref r0), .val (.int p1)] [] := by first | (simp [entryFrame, mkF, argsToLocals, Value.category]; done) | rfl
theorem d15_0 : decode jdk_68_method_31_code 0 = .ok (.aload_n 0, 1) := by decide +kernel
theorem d15_1 : decode jdk_68_method_31_code 1 = .ok (.aload_n 0, 1) := by decide +kernel
theorem d15_2 : decode jdk_68_method_31_code 2 = .ok (.getfield 79, 3) := by decide +kernel
theorem d15_5 : decode jdk_68_method_31_code 5 = .ok (.iconst 1, 1) := by decide +kernel
theorem d15_6 : decode jdk_68_method_31_code 6 = .ok (.iadd, 1) := by decide +kernel
theorem d15_7 : decode jdk_68_method_31_code 7 = .ok (.invokevirtual 100, 3) := by decide +kernel
theorem d15_10 : decode jdk_68_method_31_code 10 = .ok (.aload_n 0, 1) := by decide +kernel
theorem d15_11 : decode jdk_68_method_31_code 11 = .ok (.invokevirtual 83, 3) := by decide +kernel
theorem pd___Z : parseMethodDescriptor "()Z" = some ⟨[], some .boolean⟩ := by decide +kernel
theorem d15_14 : decode jdk_68_method_31_code 14 = .ok (.ifCond .eq 31, 3) := by decide +kernel
theorem d15_17 : decode jdk_68_method_31_code 17 = .ok (.iload_n 1, 1) := by decide +kernel
theorem d15_18 : decode jdk_68_method_31_code 18 = .ok (.invokestatic 191, 3) := by decide +kernel
theorem pd__C_Z : parseMethodDescriptor "(C)Z" = some ⟨[.char], some .boolean⟩ := by decide +kernel
theorem d15_21 : decode jdk_68_method_31_code 21 = .ok (.ifCond .eq 24, 3) := by decide +kernel
theorem d15_24 : decode jdk_68_method_31_code 24 = .ok (.aload_n 0, 1) := by decide +kernel
theorem d15_25 : decode jdk_68_method_31_code 25 = .ok (.getfield 15, 3) := by decide +kernel
theorem d15_28 : decode jdk_68_method_31_code 28 = .ok (.aload_n 0, 1) := by decide +kernel
theorem d15_29 : decode jdk_68_method_31_code 29 = .ok (.dup, 1) := by decide +kernel
theorem d15_30 : decode jdk_68_method_31_code 30 = .ok (.getfield 79, 3) := by decide +kernel
theorem d15_33 : decode jdk_68_method_31_code 33 = .ok (.dup_x1, 1) := by decide +kernel
theorem d15_34 : decode jdk_68_method_31_code 34 = .ok (.iconst 1, 1) := by decide +kernel
theorem d15_35 : decode jdk_68_method_31_code 35 = .ok (.iadd, 1) := by decide +kernel
theorem d15_36 : decode jdk_68_method_31_code 36 = .ok (.putfield 79, 3) := by decide +kernel
theorem d15_39 : decode jdk_68_method_31_code 39 = .ok (.iload_n 1, 1) := by decide +kernel
theorem d15_40 : decode jdk_68_method_31_code 40 = .ok (.i2b, 1) := by decide +kernel
theorem d15_41 : decode jdk_68_method_31_code 41 = .ok (.bastore, 1) := by decide +kernel
theorem d15_42 : decode jdk_68_method_31_code 42 = .ok (.goto 33, 3) := by decide +kernel
theorem d15_75 : decode jdk_68_method_31_code 75 = .ok (.aload_n 0, 1) := by decide +kernel
theorem d15_76 : decode jdk_68_method_31_code 76 = .ok (.areturn, 1) := by decide +kernel
set_option maxRecDepth 65536 in
set_option maxHeartbeats 40000000 in
theorem rm15 (l : Launch) (Z : State) (a0 : Array Value) (hw : ∀ d ∈ tables_1, d.before a0 Z = true) (r0 : Addr) (p1 : Int32) (z_C : Int32) (v0 : Addr) (g : Int32 → Int32) (dp : Nat) (cap : Nat) (h0 : Heap) (n0 : Nat) (S_C0 : Sta Z h0 "java/lang/String" "COMPACT_STRINGS" "Z" (.int z_C)) (hz : ¬ z_C = 0) (Eb : Exa Z h0 r0 "java/lang/StringBuilder") (Fbv : Fld Z h0 r0 "java/lang/AbstractStringBuilder" "value" "[B" (.ref v0)) (Fbc : Fld Z h0 r0 "java/lang/AbstractStringBuilder" "coder" "B" (.int (0 : Int32))) (Fbn : Fld Z h0 r0 "java/lang/AbstractStringBuilder" "count" "I" (.int (Int32.ofNat dp))) (Fbm : Fld Z h0 r0 "java/lang/AbstractStringBuilder" "maybeLatin1" "Z" (.int (0 : Int32))) (Vb : own_Arr Z h0 v0 .byte (Int32.ofNat cap) g) (hcb : cap < 2 ^ 29) (gv : n0 ≤ v0) (g0 : n0 ≤ r0) (ne_v0_r0 : v0 ≠ r0) (hfit : dp + 1 ≤ cap) (hp : ¬ p1 < 0 ∧ ¬ (255 : Int32) < p1) :
    own_Met l Z n0 (⟨"java/lang/AbstractStringBuilder", "append", "(C)Ljava/lang/AbstractStringBuilder;"⟩ : MethodName) jdk_68_method_31_code 2 (some (.object "java/lang/AbstractStringBuilder")) ({ frames := 1, cells := 0, slots := 0, locals := 14 } : Room) #[(.ref r0), (.int p1)] h0 (fun v h => v = some (.ref r0) ∧ Keep h0 h [r0, v0] ∧ Fld Z h r0 "java/lang/AbstractStringBuilder" "value" "[B" (.ref v0) ∧ Fld Z h r0 "java/lang/AbstractStringBuilder" "coder" "B" (.int (0 : Int32)) ∧ Fld Z h r0 "java/lang/AbstractStringBuilder" "count" "I" (.int (Int32.ofNat (dp + 1))) ∧ Fld Z h r0 "java/lang/AbstractStringBuilder" "maybeLatin1" "Z" (.int (0 : Int32)) ∧ own_Arr Z h v0 .byte (Int32.ofNat cap) (fun i => if i = (Int32.ofNat dp) then nar .byte (p1.toInt8.toInt32) else g i)) := by
  refine own_met (plainFor_of_name pn_10) ?_
  intro p e s m below meth c T0 hx hby hml hown hnm hret hlk hZ A0
  rw [ef_15]
  show own_Go _ _ _ _ (T0.setTop (mkF m 0 #[.val (.ref r0), .val (.int p1)] []))
  refine own_go (fun t_ k_ => XS.aloadN A0.here hx rfl (hb hby d15_0) rfl rfl k_) ?_
  show own_Go _ _ _ _ (T0.setTop (mkF m 1 #[.val (.ref r0), .val (.int p1)] [(.ref r0)]))
  refine own_go (fun t_ k_ => XS.aloadN A0.here hx rfl (hb hby d15_1) rfl rfl k_) ?_
  show own_Go _ _ _ _ (T0.setTop (mkF m 2 #[.val (.ref r0), .val (.int p1)] [(.ref r0), (.ref r0)]))
  refine own_getF A0 hx hZ hown (host := "") (Or.inl (hw _ (List.mem_of_getElem? (i := 60) rfl))) Via.refl Fbn rfl rfl (hb hby d15_2) (fun T1 A2 => ?_)
  show own_Go _ _ _ _ (T1.setTop (mkF m 5 #[.val (.ref r0), .val (.int p1)] [(.int (Int32.ofNat dp)), (.ref r0)]))
  refine own_go (fun t_ k_ => XS.iconst A2.here hx rfl (hb hby d15_5) k_) ?_
  show own_Go _ _ _ _ (T1.setTop (mkF m 6 #[.val (.ref r0), .val (.int p1)] [(.int (1 : Int32)), (.int (Int32.ofNat dp)), (.ref r0)]))
  refine own_go (fun t_ k_ => XS.iadd A2.here hx rfl (hb hby d15_6) rfl k_) ?_
  show own_Go _ _ _ _ (T1.setTop (mkF m 7 #[.val (.ref r0), .val (.int p1)] [(.int ((Int32.ofNat dp) + (1 : Int32))), (.ref r0)]))
  rw [own_succ]
  show own_Go _ _ _ _ (T1.setTop (mkF m 7 #[.val (.ref r0), .val (.int p1)] [(.int (Int32.ofNat (dp + 1))), (.ref r0)]))
  refine own_callP A2 hx hZ (y := (⟨"java/lang/AbstractStringBuilder", "ensureCapacityInternal", "(I)V"⟩ : MethodName)) hown (hw _ (List.mem_of_getElem? (i := 62) rfl)) (hw _ (List.mem_of_getElem? (i := 63) rfl)) (hw _ (List.mem_of_getElem? (i := 64) rfl)) (hw _ (List.mem_of_getElem? (i := 65) rfl)) rfl (hw _ (List.mem_of_getElem? (i := 22) rfl)) (hw _ (List.mem_of_getElem? (i := 66) rfl)) (by decide) (b := r0) (argsL := [(.int (Int32.ofNat (dp + 1)))]) (rest := []) Eb (rm10 l Z a0 hw r0 (Int32.ofNat (dp + 1)) v0 g (Int32.ofNat dp) cap h0 n0 Eb Fbv Fbc Fbn Fbm Vb hcb (own_cap16 dp 1 cap hfit hcb)) 0 (by decide) (by decide) rfl (by rw [hml]; rfl) (lenOf pd__I_V rfl) rfl (by show 2 * 0 + _ ≤ _; exact Nat.le_of_eq rfl) (hb hby d15_7) (by decide) (by decide) (fun v6 T3 h5 A4 hQ7 => ?_)
  obtain ⟨rfl, rfl⟩ := hQ7
  show own_Go _ _ _ _ (T3.setTop (mkF m 10 #[.val (.ref r0), .val (.int p1)] []))
  refine own_go (fun t_ k_ => XS.aloadN A4.here hx rfl (hb hby d15_10) rfl rfl k_) ?_
  show own_Go _ _ _ _ (T3.setTop (mkF m 11 #[.val (.ref r0), .val (.int p1)] [(.ref r0)]))
  refine own_callV A4 hx hZ (y := (⟨"java/lang/AbstractStringBuilder", "isLatin1", "()Z"⟩ : MethodName)) (z := (⟨"java/lang/AbstractStringBuilder", "isLatin1", "()Z"⟩ : MethodName)) hown (hw _ (List.mem_of_getElem? (i := 98) rfl)) (hw _ (List.mem_of_getElem? (i := 99) rfl)) (hw _ (List.mem_of_getElem? (i := 101) rfl)) (hw _ (List.mem_of_getElem? (i := 100) rfl)) (hw _ (List.mem_of_getElem? (i := 22) rfl)) (hw _ (List.mem_of_getElem? (i := 102) rfl)) (notFace_of_selects (args := #[]) (mvT hZ (hw _ (List.mem_of_getElem? (i := 101) rfl)))) (by decide) (b := r0) (argsL := []) (rest := []) Eb (rm16 l Z a0 hw r0 z_C h0 n0 S_C0 hz Fbc) 0 (by decide) (by decide) rfl (by rw [hml]; rfl) (lenOf pd___Z rfl) rfl (by show 2 * 0 + _ ≤ _; exact Nat.le_of_eq rfl) (hb hby d15_11) (by decide) (by decide) (fun v11 T8 h10 A9 hQ12 => ?_)
  obtain ⟨rfl, rfl⟩ := hQ12
  show own_Go _ _ _ _ (T8.setTop (mkF m 14 #[.val (.ref r0), .val (.int p1)] [(.int (1 : Int32))]))
  have hc13 : ¬ ((1 : Int32) = (0 : Int32)) := (by decide)
  refine own_go (fun t_ k_ => XS.ifNo A9.here hx rfl (hb hby d15_14) rfl ((if0 _ _).trans (feq hc13).1) k_) ?_
  show own_Go _ _ _ _ (T8.setTop (mkF m 17 #[.val (.ref r0), .val (.int p1)] []))
  refine own_go (fun t_ k_ => XS.iloadN A9.here hx rfl (hb hby d15_17) rfl k_) ?_
  show own_Go _ _ _ _ (T8.setTop (mkF m 18 #[.val (.ref r0), .val (.int p1)] [(.int p1)]))
  refine own_callS A9 hx hZ hown (y := (⟨"java/lang/StringLatin1", "canEncode", "(C)Z"⟩ : MethodName)) (hw _ (List.mem_of_getElem? (i := 103) rfl)) (hw _ (List.mem_of_getElem? (i := 104) rfl)) (hw _ (List.mem_of_getElem? (i := 105) rfl)) (hw _ (List.mem_of_getElem? (i := 106) rfl)) (by decide) (argsL := [(.int p1)]) (rest := []) (rm17 l Z a0 hw p1 h0 n0 ) 0 (by decide) (by decide) rfl (by rw [hml]; rfl) (lenOf pd__C_Z rfl) rfl (by show 2 * 0 + _ ≤ _; exact Nat.le_of_eq rfl) (hb hby d15_18) (by decide) (by decide) (fun v17 T14 h16 A15 hQ18 => ?_)
  obtain ⟨rfl, rfl⟩ := hQ18
  show own_Go _ _ _ _ (T14.setTop (mkF m 21 #[.val (.ref r0), .val (.int p1)] [(.int (f17 p1))]))
  have hc19 : ¬ ((f17 p1) = (0 : Int32)) := own_can hp
  refine own_go (fun t_ k_ => XS.ifNo A15.here hx rfl (hb hby d15_21) rfl ((if0 _ _).trans (feq hc19).1) k_) ?_
  show own_Go _ _ _ _ (T14.setTop (mkF m 24 #[.val (.ref r0), .val (.int p1)] []))
  refine own_go (fun t_ k_ => XS.aloadN A15.here hx rfl (hb hby d15_24) rfl rfl k_) ?_
  show own_Go _ _ _ _ (T14.setTop (mkF m 25 #[.val (.ref r0), .val (.int p1)] [(.ref r0)]))
  refine own_getF A15 hx hZ hown (host := "") (Or.inl (hw _ (List.mem_of_getElem? (i := 44) rfl))) Via.refl Fbv rfl rfl (hb hby d15_25) (fun T20 A21 => ?_)
  show own_Go _ _ _ _ (T20.setTop (mkF m 28 #[.val (.ref r0), .val (.int p1)] [(.ref v0)]))
  refine own_go (fun t_ k_ => XS.aloadN A21.here hx rfl (hb hby d15_28) rfl rfl k_) ?_
  show own_Go _ _ _ _ (T20.setTop (mkF m 29 #[.val (.ref r0), .val (.int p1)] [(.ref r0), (.ref v0)]))
  refine own_go (fun t_ k_ => XS.dup A21.here hx rfl (hb hby d15_29) rfl rfl k_) ?_
  show own_Go _ _ _ _ (T20.setTop (mkF m 30 #[.val (.ref r0), .val (.int p1)] [(.ref r0), (.ref r0), (.ref v0)]))
  refine own_getF A21 hx hZ hown (host := "") (Or.inl (hw _ (List.mem_of_getElem? (i := 60) rfl))) Via.refl Fbn rfl rfl (hb hby d15_30) (fun T22 A23 => ?_)
  show own_Go _ _ _ _ (T22.setTop (mkF m 33 #[.val (.ref r0), .val (.int p1)] [(.int (Int32.ofNat dp)), (.ref r0), (.ref v0)]))
  refine own_go (fun t_ k_ => XS.dupX1 A23.here hx rfl (hb hby d15_33) rfl rfl rfl k_) ?_
  show own_Go _ _ _ _ (T22.setTop (mkF m 34 #[.val (.ref r0), .val (.int p1)] [(.int (Int32.ofNat dp)), (.ref r0), (.int (Int32.ofNat dp)), (.ref v0)]))
  refine own_go (fun t_ k_ => XS.iconst A23.here hx rfl (hb hby d15_34) k_) ?_
  show own_Go _ _ _ _ (T22.setTop (mkF m 35 #[.val (.ref r0), .val (.int p1)] [(.int (1 : Int32)), (.int (Int32.ofNat dp)), (.ref r0), (.int (Int32.ofNat dp)), (.ref v0)]))
  refine own_go (fun t_ k_ => XS.iadd A23.here hx rfl (hb hby d15_35) rfl k_) ?_
  show own_Go _ _ _ _ (T22.setTop (mkF m 36 #[.val (.ref r0), .val (.int p1)] [(.int ((Int32.ofNat dp) + (1 : Int32))), (.ref r0), (.int (Int32.ofNat dp)), (.ref v0)]))
  rw [own_succ]
  show own_Go _ _ _ _ (T22.setTop (mkF m 36 #[.val (.ref r0), .val (.int p1)] [(.int (Int32.ofNat (dp + 1))), (.ref r0), (.int (Int32.ofNat dp)), (.ref v0)]))
  refine own_putF A23 hx hZ hown (host := "") (Or.inl (hw _ (List.mem_of_getElem? (i := 60) rfl))) Via.refl Fbn Eb (Or.inl (hw _ (List.mem_of_getElem? (i := 61) rfl))) (hw _ (List.mem_of_getElem? (i := 5) rfl)) (ty := .int) (by decide) rfl rfl g0 rfl rfl (hb hby d15_36) (fun T24 h26 A25 W27 => ?_)
  have E28 : Exa Z h26 r0 "java/lang/StringBuilder" := Eb.wr W27
  have F29 : Fld Z h26 r0 "java/lang/AbstractStringBuilder" "value" "[B" (.ref v0) := Fbv.other W27 (Or.inr (slot_ne (Or.inl (hw _ (List.mem_of_getElem? (i := 45) rfl))) (Or.inl (hw _ (List.mem_of_getElem? (i := 61) rfl))) (by decide) (t := (.array .byte)) (t' := .int) (by decide) (by decide)))
  have F30 : Fld Z h26 r0 "java/lang/AbstractStringBuilder" "coder" "B" (.int (0 : Int32)) := Fbc.other W27 (Or.inr (slot_ne (Or.inl (hw _ (List.mem_of_getElem? (i := 43) rfl))) (Or.inl (hw _ (List.mem_of_getElem? (i := 61) rfl))) (by decide) (t := .byte) (t' := .int) (by decide) (by decide)))
  have F31 : Fld Z h26 r0 "java/lang/AbstractStringBuilder" "count" "I" (.int (Int32.ofNat (dp + 1))) := Fbn.same W27
  have F32 : Fld Z h26 r0 "java/lang/AbstractStringBuilder" "maybeLatin1" "Z" (.int (0 : Int32)) := Fbm.other W27 (Or.inr (slot_ne (Or.inl (hw _ (List.mem_of_getElem? (i := 201) rfl))) (Or.inl (hw _ (List.mem_of_getElem? (i := 61) rfl))) (by decide) (t := .boolean) (t' := .int) (by decide) (by decide)))
  have V33 : own_Arr Z h26 v0 .byte (Int32.ofNat cap) g := Vb.other W27 ne_v0_r0
  have K34 : Keep h0 h26 [r0, v0] := (Keep.refl h0 [r0, v0]).wr W27 (Or.inl (List.mem_of_getElem? (i := 0) rfl))
  show own_Go _ _ _ _ (T24.setTop (mkF m 39 #[.val (.ref r0), .val (.int p1)] [(.int (Int32.ofNat dp)), (.ref v0)]))
  refine own_go (fun t_ k_ => XS.iloadN A25.here hx rfl (hb hby d15_39) rfl k_) ?_
  show own_Go _ _ _ _ (T24.setTop (mkF m 40 #[.val (.ref r0), .val (.int p1)] [(.int p1), (.int (Int32.ofNat dp)), (.ref v0)]))
  refine own_go (fun t_ k_ => XS.i2b A25.here hx rfl (hb hby d15_40) rfl k_) ?_
  show own_Go _ _ _ _ (T24.setTop (mkF m 41 #[.val (.ref r0), .val (.int p1)] [(.int (p1.toInt8.toInt32)), (.int (Int32.ofNat dp)), (.ref v0)]))
  refine own_stB A25 hx hZ V33 ⟨own_nn (by omega), (own_nlt (by omega) (by omega)).mpr (by omega)⟩ gv rfl rfl (hb hby d15_41) (fun T35 h37 A36 W38 V39 => ?_)
  have E40 : Exa Z h37 r0 "java/lang/StringBuilder" := E28.wr W38
  have F41 : Fld Z h37 r0 "java/lang/AbstractStringBuilder" "value" "[B" (.ref v0) := F29.other W38 (Or.inl (Ne.symm ne_v0_r0))
  have F42 : Fld Z h37 r0 "java/lang/AbstractStringBuilder" "coder" "B" (.int (0 : Int32)) := F30.other W38 (Or.inl (Ne.symm ne_v0_r0))
  have F43 : Fld Z h37 r0 "java/lang/AbstractStringBuilder" "count" "I" (.int (Int32.ofNat (dp + 1))) := F31.other W38 (Or.inl (Ne.symm ne_v0_r0))
  have F44 : Fld Z h37 r0 "java/lang/AbstractStringBuilder" "maybeLatin1" "Z" (.int (0 : Int32)) := F32.other W38 (Or.inl (Ne.symm ne_v0_r0))
  have V45 : own_Arr Z h37 v0 .byte (Int32.ofNat cap) (fun i => if i = (Int32.ofNat dp) then nar .byte (p1.toInt8.toInt32) else g i) := V39
  have K46 : Keep h0 h37 [r0, v0] := K34.wr W38 (Or.inl (List.mem_of_getElem? (i := 1) rfl))
  show own_Go _ _ _ _ (T35.setTop (mkF m 42 #[.val (.ref r0), .val (.int p1)] []))
  refine own_go (fun t_ k_ => XS.goto A36.here hx rfl (pc0 := 42) (pc' := 75) rfl (hb hby d15_42) (by decide) (by decide) k_) ?_
  show own_Go _ _ _ _ (T35.setTop (mkF m 75 #[.val (.ref r0), .val (.int p1)] []))
  refine own_go (fun t_ k_ => XS.aloadN A36.here hx rfl (hb hby d15_75) rfl rfl k_) ?_
  show own_Go _ _ _ _ (T35.setTop (mkF m 76 #[.val (.ref r0), .val (.int p1)] [(.ref r0)]))
  refine own_retA A36 hx hret rfl hlk (by decide) (by decide) rfl (hb hby d15_76) ?_
  exact ⟨rfl, K46, F41, F42, F43, F44, V45⟩
theorem ef_14 (m : MethodId) (r0 : Addr) (p1 : Int32) : entryFrame m #[(.ref r0), (.int p1)] 2 = mkF m 0 #[.val (.ref r0), .val (.int p1)] [] := by first | (simp [entryFrame, mkF, argsToLocals, Value.category]; done) | rfl
theorem d14_0 : decode jdk_67_method_14_code 0 = .ok (.aload_n 0, 1) := by decide +kernel
theorem d14_1 : decode jdk_67_method_14_code 1 = .ok (.iload_n 1, 1) := by decide +kernel
theorem d14_2 : decode jdk_67_method_14_code 2 = .ok (.invokespecial 50, 3) := by decide +kernel
theorem pd__C_Ljava_lang_AbstractStringBuilder_ : parseMethodDescriptor "(C)Ljava/lang/AbstractStringBuilder;" = some ⟨[.char], some (.object "java/lang/AbstractStringBuilder")⟩ := by decide +kernel
theorem d14_5 : decode jdk_67_method_14_code 5 = .ok (.pop, 1) := by decide +kernel
theorem d14_6 : decode jdk_67_method_14_code 6 = .ok (.aload_n 0, 1) := by decide +kernel
theorem d14_7 : decode jdk_67_method_14_code 7 = .ok (.areturn, 1) := by decide +kernel
set_option maxRecDepth 65536 in
set_option maxHeartbeats 40000000 in
theorem rm14 (l : Launch) (Z : State) (a0 : Array Value) (hw : ∀ d ∈ tables_1, d.before a0 Z = true) (r0 : Addr) (p1 : Int32) (z_C : Int32) (v0 : Addr) (g : Int32 → Int32) (dp : Nat) (cap : Nat) (h0 : Heap) (n0 : Nat) (S_C0 : Sta Z h0 "java/lang/String" "COMPACT_STRINGS" "Z" (.int z_C)) (hz : ¬ z_C = 0) (Eb : Exa Z h0 r0 "java/lang/StringBuilder") (Fbv : Fld Z h0 r0 "java/lang/AbstractStringBuilder" "value" "[B" (.ref v0)) (Fbc : Fld Z h0 r0 "java/lang/AbstractStringBuilder" "coder" "B" (.int (0 : Int32))) (Fbn : Fld Z h0 r0 "java/lang/AbstractStringBuilder" "count" "I" (.int (Int32.ofNat dp))) (Fbm : Fld Z h0 r0 "java/lang/AbstractStringBuilder" "maybeLatin1" "Z" (.int (0 : Int32))) (Vb : own_Arr Z h0 v0 .byte (Int32.ofNat cap) g) (hcb : cap < 2 ^ 29) (gv : n0 ≤ v0) (g0 : n0 ≤ r0) (ne_v0_r0 : v0 ≠ r0) (hfit : dp + 1 ≤ cap) (hp : ¬ p1 < 0 ∧ ¬ (255 : Int32) < p1) :
    own_Met l Z n0 (⟨"java/lang/StringBuilder", "append", "(C)Ljava/lang/StringBuilder;"⟩ : MethodName) jdk_67_method_14_code 2 (some (.object "java/lang/StringBuilder")) ({ frames := 2, cells := 0, slots := 0, locals := 27 } : Room) #[(.ref r0), (.int p1)] h0 (fun v h => v = some (.ref r0) ∧ Keep h0 h [r0, v0] ∧ Fld Z h r0 "java/lang/AbstractStringBuilder" "value" "[B" (.ref v0) ∧ Fld Z h r0 "java/lang/AbstractStringBuilder" "coder" "B" (.int (0 : Int32)) ∧ Fld Z h r0 "java/lang/AbstractStringBuilder" "count" "I" (.int (Int32.ofNat (dp + 1))) ∧ Fld Z h r0 "java/lang/AbstractStringBuilder" "maybeLatin1" "Z" (.int (0 : Int32)) ∧ own_Arr Z h v0 .byte (Int32.ofNat cap) (fun i => if i = (Int32.ofNat dp) then nar .byte (p1.toInt8.toInt32) else g i)) := by
  refine own_met (plainFor_of_name pn_8) ?_
  intro p e s m below meth c T0 hx hby hml hown hnm hret hlk hZ A0
  rw [ef_14]
  show own_Go _ _ _ _ (T0.setTop (mkF m 0 #[.val (.ref r0), .val (.int p1)] []))
  refine own_go (fun t_ k_ => XS.aloadN A0.here hx rfl (hb hby d14_0) rfl rfl k_) ?_
  show own_Go _ _ _ _ (T0.setTop (mkF m 1 #[.val (.ref r0), .val (.int p1)] [(.ref r0)]))
  refine own_go (fun t_ k_ => XS.iloadN A0.here hx rfl (hb hby d14_1) rfl k_) ?_
  show own_Go _ _ _ _ (T0.setTop (mkF m 2 #[.val (.ref r0), .val (.int p1)] [(.int p1), (.ref r0)]))
  refine own_callU A0 hx hZ (y := (⟨"java/lang/AbstractStringBuilder", "append", "(C)Ljava/lang/AbstractStringBuilder;"⟩ : MethodName)) hown (hw _ (List.mem_of_getElem? (i := 94) rfl)) (hw _ (List.mem_of_getElem? (i := 95) rfl)) (hw _ (List.mem_of_getElem? (i := 65) rfl)) rfl (hw _ (List.mem_of_getElem? (i := 58) rfl)) (by decide) (hw _ (List.mem_of_getElem? (i := 22) rfl)) (hw _ (List.mem_of_getElem? (i := 97) rfl)) (by decide) (b := r0) (argsL := [(.int p1)]) (rest := []) (Ins.of_exa Eb (hw _ (List.mem_of_getElem? (i := 21) rfl))) (rm15 l Z a0 hw r0 p1 z_C v0 g dp cap h0 n0 S_C0 hz Eb Fbv Fbc Fbn Fbm Vb hcb gv g0 ne_v0_r0 hfit hp) 0 (by decide) (by decide) rfl (by rw [hml]; rfl) (lenOf pd__C_Ljava_lang_AbstractStringBuilder_ rfl) rfl (by show 2 * 0 + _ ≤ _; exact Nat.le_of_eq rfl) (hb hby d14_2) (by decide) (by decide) (fun v4 T1 h3 A2 hQ5 => ?_)
  obtain ⟨rfl, K6, F7, F8, F9, F10, V11⟩ := hQ5
  have E12 : Exa Z h3 r0 "java/lang/StringBuilder" := Eb.keep K6
  have K13 : Keep h0 h3 [r0, v0] := (Keep.refl h0 [r0, v0]).trans K6 (allS (Or.inl (List.mem_of_getElem? (i := 0) rfl)) (allS (Or.inl (List.mem_of_getElem? (i := 1) rfl)) all0))
  show own_Go _ _ _ _ (T1.setTop (mkF m 5 #[.val (.ref r0), .val (.int p1)] [(.ref r0)]))
  refine own_go (fun t_ k_ => XS.pop A2.here hx rfl (hb hby d14_5) rfl rfl k_) ?_
  show own_Go _ _ _ _ (T1.setTop (mkF m 6 #[.val (.ref r0), .val (.int p1)] []))
  refine own_go (fun t_ k_ => XS.aloadN A2.here hx rfl (hb hby d14_6) rfl rfl k_) ?_
  show own_Go _ _ _ _ (T1.setTop (mkF m 7 #[.val (.ref r0), .val (.int p1)] [(.ref r0)]))
  refine own_retA A2 hx hret rfl hlk (by decide) (by decide) rfl (hb hby d14_7) ?_
  exact ⟨rfl, K13, F7, F8, F9, F10, V11⟩
theorem ef_45 (m : MethodId) (p0 : Int32) (p1 : Int32) : entryFrame m #[(.int p0), (.int p1)] 2 = mkF m 0 #[.val (.int p0), .val (.int p1)] [] := by first | (simp [entryFrame, mkF, argsToLocals, Value.category]; done) | rfl
theorem pf_45 : plainFor (⟨"java/lang/Math", "max", "(II)I"⟩ : MethodName) = true := by decide +kernel
theorem d45_0 : decode jdk_29_method_65_code 0 = .ok (.iload_n 0, 1) := by decide +kernel
theorem d45_1 : decode jdk_29_method_65_code 1 = .ok (.iload_n 1, 1) := by decide +kernel
theorem d45_2 : decode jdk_29_method_65_code 2 = .ok (.if_icmp .lt 7, 3) := by decide +kernel
theorem d45_9 : decode jdk_29_method_65_code 9 = .ok (.iload_n 1, 1) := by decide +kernel
theorem d45_5 : decode jdk_29_method_65_code 5 = .ok (.iload_n 0, 1) := by decide +kernel
theorem d45_6 : decode jdk_29_method_65_code 6 = .ok (.goto 4, 3) := by decide +kernel
theorem d45_10 : decode jdk_29_method_65_code 10 = .ok (.ireturn, 1) := by decide +kernel
def f45 (p0 : Int32) (p1 : Int32) : Int32 := (if p0 < p1 then p1 else p0)
set_option maxRecDepth 65536 in
set_option maxHeartbeats 40000000 in
theorem rm45 (l : Launch) (Z : State) (a0 : Array Value) (hw : ∀ d ∈ tables_1, d.before a0 Z = true) (p0 : Int32) (p1 : Int32) (h0 : Heap) (n0 : Nat) :
    own_Met l Z n0 (⟨"java/lang/Math", "max", "(II)I"⟩ : MethodName) jdk_29_method_65_code 2 (some .int) ({ frames := 0, cells := 0, slots := 0, locals := 0 } : Room) #[(.int p0), (.int p1)] h0 (fun v h => v = some (.int (f45 p0 p1)) ∧ h0 = h) := by
  refine own_met pf_45 ?_
  intro p e s m below meth c T0 hx hby hml hown hnm hret hlk hZ A0
  rw [ef_45]
  show own_Go _ _ _ _ (T0.setTop (mkF m 0 #[.val (.int p0), .val (.int p1)] []))
  refine own_go (fun t_ k_ => XS.iloadN A0.here hx rfl (hb hby d45_0) rfl k_) ?_
  show own_Go _ _ _ _ (T0.setTop (mkF m 1 #[.val (.int p0), .val (.int p1)] [(.int p0)]))
  refine own_go (fun t_ k_ => XS.iloadN A0.here hx rfl (hb hby d45_1) rfl k_) ?_
  show own_Go _ _ _ _ (T0.setTop (mkF m 2 #[.val (.int p0), .val (.int p1)] [(.int p1), (.int p0)]))
  have mg1 : ∀ t_, Steps p.tables e below (T0.setTop (mkF m 10 #[.val (.int p0), .val (.int p1)] [(.int (if p0 < p1 then p1 else p0))])) t_ → Steps p.tables e below (T0.setTop (mkF m 2 #[.val (.int p0), .val (.int p1)] [(.int p1), (.int p0)])) t_ := by
    intro t_ k_
    by_cases hm2_0 : p0 < p1
    ·
      simp only [if_pos hm2_0] at k_
      exact (XS.icmpYes A0.here hx rfl (pc0 := 2) (pc' := 9) rfl (hb hby d45_2) rfl (tlt hm2_0).1 (by decide) (by decide) (XS.iloadN A0.here hx rfl (hb hby d45_9) rfl k_))
    ·
      simp only [if_neg hm2_0] at k_
      exact (XS.icmpNo A0.here hx rfl (hb hby d45_2) rfl (flt hm2_0).1 (XS.iloadN A0.here hx rfl (hb hby d45_5) rfl (XS.goto A0.here hx rfl (pc0 := 6) (pc' := 10) rfl (hb hby d45_6) (by decide) (by decide) k_)))
  refine own_go mg1 ?_
  show own_Go _ _ _ _ (T0.setTop (mkF m 10 #[.val (.int p0), .val (.int p1)] [(.int (if p0 < p1 then p1 else p0))]))
  refine own_retI A0 hx hret hlk (by decide) (by decide) (hb hby d45_10) ?_
  exact ⟨rfl, rfl⟩
theorem ef_36 (m : MethodId) (p0 : Int32) (p1 : Int32) : entryFrame m #[(.int p0), (.int p1)] 2 = mkF m 0 #[.val (.int p0), .val (.int p1)] [] := by first | (simp [entryFrame, mkF, argsToLocals, Value.category]; done) | rfl
theorem pf_36 : plainFor (⟨"java/lang/Math", "min", "(II)I"⟩ : MethodName) = true := by decide +kernel
theorem d36_0 : decode jdk_29_method_69_code 0 = .ok (.iload_n 0, 1) := by decide +kernel
theorem d36_1 : decode jdk_29_method_69_code 1 = .ok (.iload_n 1, 1) := by decide +kernel
theorem d36_2 : decode jdk_29_method_69_code 2 = .ok (.if_icmp .gt 7, 3) := by decide +kernel
theorem d36_9 : decode jdk_29_method_69_code 9 = .ok (.iload_n 1, 1) := by decide +kernel
theorem d36_5 : decode jdk_29_method_69_code 5 = .ok (.iload_n 0, 1) := by decide +kernel
theorem d36_6 : decode jdk_29_method_69_code 6 = .ok (.goto 4, 3) := by decide +kernel
theorem d36_10 : decode jdk_29_method_69_code 10 = .ok (.ireturn, 1) := by decide +kernel
def f36 (p0 : Int32) (p1 : Int32) : Int32 := (if p1 < p0 then p1 else p0)
set_option maxRecDepth 65536 in
set_option maxHeartbeats 40000000 in
theorem rm36 (l : Launch) (Z : State) (a0 : Array Value) (hw : ∀ d ∈ tables_1, d.before a0 Z = true) (p0 : Int32) (p1 : Int32) (h0 : Heap) (n0 : Nat) :
    own_Met l Z n0 (⟨"java/lang/Math", "min", "(II)I"⟩ : MethodName) jdk_29_method_69_code 2 (some .int) ({ frames := 0, cells := 0, slots := 0, locals := 0 } : Room) #[(.int p0), (.int p1)] h0 (fun v h => v = some (.int (f36 p0 p1)) ∧ h0 = h) := by
  refine own_met pf_36 ?_
  intro p e s m below meth c T0 hx hby hml hown hnm hret hlk hZ A0
  rw [ef_36]
  show own_Go _ _ _ _ (T0.setTop (mkF m 0 #[.val (.int p0), .val (.int p1)] []))
  refine own_go (fun t_ k_ => XS.iloadN A0.here hx rfl (hb hby d36_0) rfl k_) ?_
  show own_Go _ _ _ _ (T0.setTop (mkF m 1 #[.val (.int p0), .val (.int p1)] [(.int p0)]))
  refine own_go (fun t_ k_ => XS.iloadN A0.here hx rfl (hb hby d36_1) rfl k_) ?_
  show own_Go _ _ _ _ (T0.setTop (mkF m 2 #[.val (.int p0), .val (.int p1)] [(.int p1), (.int p0)]))
  have mg1 : ∀ t_, Steps p.tables e below (T0.setTop (mkF m 10 #[.val (.int p0), .val (.int p1)] [(.int (if p1 < p0 then p1 else p0))])) t_ → Steps p.tables e below (T0.setTop (mkF m 2 #[.val (.int p0), .val (.int p1)] [(.int p1), (.int p0)])) t_ := by
    intro t_ k_
    by_cases hm2_0 : p1 < p0
    ·
      simp only [if_pos hm2_0] at k_
      exact (XS.icmpYes A0.here hx rfl (pc0 := 2) (pc' := 9) rfl (hb hby d36_2) rfl (tlt hm2_0).2.2.1 (by decide) (by decide) (XS.iloadN A0.here hx rfl (hb hby d36_9) rfl k_))
    ·
      simp only [if_neg hm2_0] at k_
      exact (XS.icmpNo A0.here hx rfl (hb hby d36_2) rfl (flt hm2_0).2.2.1 (XS.iloadN A0.here hx rfl (hb hby d36_5) rfl (XS.goto A0.here hx rfl (pc0 := 6) (pc' := 10) rfl (hb hby d36_6) (by decide) (by decide) k_)))
  refine own_go mg1 ?_
  show own_Go _ _ _ _ (T0.setTop (mkF m 10 #[.val (.int p0), .val (.int p1)] [(.int (if p1 < p0 then p1 else p0))]))
  refine own_retI A0 hx hret hlk (by decide) (by decide) (hb hby d36_10) ?_
  exact ⟨rfl, rfl⟩
theorem ef_44 (m : MethodId) (y0 : Int32) (y1 : Int32) (y2 : Int32) : entryFrame m #[(.int y0), (.int y1), (.int y2)] 4 = mkF m 0 #[.val (.int y0), .val (.int y1), .val (.int y2), .unset] [] := by first | (simp [entryFrame, mkF, argsToLocals, Value.category]; done) | rfl
theorem pn_44 : plainName "jdk/internal/util/ArraysSupport" = true := by first | (simp [plainName, overriddenIn]; done) | decide +kernel
theorem d44_0 : decode jdk_48_method_27_code 0 = .ok (.iload_n 0, 1) := by decide +kernel
theorem d44_1 : decode jdk_48_method_27_code 1 = .ok (.iload_n 1, 1) := by decide +kernel
theorem d44_2 : decode jdk_48_method_27_code 2 = .ok (.iload_n 2, 1) := by decide +kernel
theorem d44_3 : decode jdk_48_method_27_code 3 = .ok (.invokestatic 194, 3) := by decide +kernel
theorem pd__II_I : parseMethodDescriptor "(II)I" = some ⟨[.int, .int], some .int⟩ := by decide +kernel
theorem d44_6 : decode jdk_48_method_27_code 6 = .ok (.iadd, 1) := by decide +kernel
theorem d44_7 : decode jdk_48_method_27_code 7 = .ok (.istore_n 3, 1) := by decide +kernel
theorem d44_8 : decode jdk_48_method_27_code 8 = .ok (.iconst 0, 1) := by decide +kernel
theorem d44_9 : decode jdk_48_method_27_code 9 = .ok (.iload_n 3, 1) := by decide +kernel
theorem d44_10 : decode jdk_48_method_27_code 10 = .ok (.if_icmp .ge 11, 3) := by decide +kernel
theorem d44_13 : decode jdk_48_method_27_code 13 = .ok (.iload_n 3, 1) := by decide +kernel
theorem d44_14 : decode jdk_48_method_27_code 14 = .ok (.ldc 200, 2) := by decide +kernel
theorem d44_16 : decode jdk_48_method_27_code 16 = .ok (.if_icmp .gt 5, 3) := by decide +kernel
theorem d44_19 : decode jdk_48_method_27_code 19 = .ok (.iload_n 3, 1) := by decide +kernel
theorem d44_20 : decode jdk_48_method_27_code 20 = .ok (.ireturn, 1) := by decide +kernel
set_option maxRecDepth 65536 in
set_option maxHeartbeats 40000000 in
theorem rm44_g38 (l : Launch) (Z : State) (a0 : Array Value) (hw : ∀ d ∈ tables_1, d.before a0 Z = true)  (h0 : Heap) (n0 : Nat) :
    own_Met l Z n0 (⟨"jdk/internal/util/ArraysSupport", "newLength", "(III)I"⟩ : MethodName) jdk_48_method_27_code 4 (some .int) ({ frames := 1, cells := 0, slots := 0, locals := 14 } : Room) #[(.int (18 : Int32)), (.int (2 : Int32)), (.int (20 : Int32))] h0 (fun v h => v = some (.int 38) ∧ h0 = h) := by
  refine own_met (plainFor_of_name pn_44) ?_
  intro p e s m below meth c T0 hx hby hml hown hnm hret hlk hZ A0
  rw [ef_44]
  show own_Go _ _ _ _ (T0.setTop (mkF m 0 #[.val (.int (18 : Int32)), .val (.int (2 : Int32)), .val (.int (20 : Int32)), .unset] []))
  refine own_go (fun t_ k_ => XS.iloadN A0.here hx rfl (hb hby d44_0) rfl k_) ?_
  show own_Go _ _ _ _ (T0.setTop (mkF m 1 #[.val (.int (18 : Int32)), .val (.int (2 : Int32)), .val (.int (20 : Int32)), .unset] [(.int (18 : Int32))]))
  refine own_go (fun t_ k_ => XS.iloadN A0.here hx rfl (hb hby d44_1) rfl k_) ?_
  show own_Go _ _ _ _ (T0.setTop (mkF m 2 #[.val (.int (18 : Int32)), .val (.int (2 : Int32)), .val (.int (20 : Int32)), .unset] [(.int (2 : Int32)), (.int (18 : Int32))]))
  refine own_go (fun t_ k_ => XS.iloadN A0.here hx rfl (hb hby d44_2) rfl k_) ?_
  show own_Go _ _ _ _ (T0.setTop (mkF m 3 #[.val (.int (18 : Int32)), .val (.int (2 : Int32)), .val (.int (20 : Int32)), .unset] [(.int (20 : Int32)), (.int (2 : Int32)), (.int (18 : Int32))]))
  refine own_callS A0 hx hZ hown (y := (⟨"java/lang/Math", "max", "(II)I"⟩ : MethodName)) (hw _ (List.mem_of_getElem? (i := 249) rfl)) (hw _ (List.mem_of_getElem? (i := 250) rfl)) (hw _ (List.mem_of_getElem? (i := 210) rfl)) (hw _ (List.mem_of_getElem? (i := 251) rfl)) (by decide) (argsL := [(.int (2 : Int32)), (.int (20 : Int32))]) (rest := [(.int (18 : Int32))]) (rm45 l Z a0 hw (2 : Int32) (20 : Int32) h0 n0 ) 1 (by decide) (by decide) rfl (by rw [hml]; rfl) (lenOf pd__II_I rfl) rfl (by show 2 * 0 + _ ≤ _; exact Nat.le_of_eq rfl) (hb hby d44_3) (by decide) (by decide) (fun v4 T1 h3 A2 hQ5 => ?_)
  obtain ⟨rfl, rfl⟩ := hQ5
  show own_Go _ _ _ _ (T1.setTop (mkF m 6 #[.val (.int (18 : Int32)), .val (.int (2 : Int32)), .val (.int (20 : Int32)), .unset] [(.int (f45 (2 : Int32) (20 : Int32))), (.int (18 : Int32))]))
  rw [show (f45 (2 : Int32) (20 : Int32)) = (20 : Int32) from by decide]
  show own_Go _ _ _ _ (T1.setTop (mkF m 6 #[.val (.int (18 : Int32)), .val (.int (2 : Int32)), .val (.int (20 : Int32)), .unset] [(.int (20 : Int32)), (.int (18 : Int32))]))
  refine own_go (fun t_ k_ => XS.iadd A2.here hx rfl (hb hby d44_6) rfl k_) ?_
  show own_Go _ _ _ _ (T1.setTop (mkF m 7 #[.val (.int (18 : Int32)), .val (.int (2 : Int32)), .val (.int (20 : Int32)), .unset] [(.int (38 : Int32))]))
  refine own_go (fun t_ k_ => XS.istoreN A2.here hx rfl (hb hby d44_7) rfl (l' := #[.val (.int (18 : Int32)), .val (.int (2 : Int32)), .val (.int (20 : Int32)), .val (.int (38 : Int32))]) rfl k_) ?_
  show own_Go _ _ _ _ (T1.setTop (mkF m 8 #[.val (.int (18 : Int32)), .val (.int (2 : Int32)), .val (.int (20 : Int32)), .val (.int (38 : Int32))] []))
  refine own_go (fun t_ k_ => XS.iconst A2.here hx rfl (hb hby d44_8) k_) ?_
  show own_Go _ _ _ _ (T1.setTop (mkF m 9 #[.val (.int (18 : Int32)), .val (.int (2 : Int32)), .val (.int (20 : Int32)), .val (.int (38 : Int32))] [(.int (0 : Int32))]))
  refine own_go (fun t_ k_ => XS.iloadN A2.here hx rfl (hb hby d44_9) rfl k_) ?_
  show own_Go _ _ _ _ (T1.setTop (mkF m 10 #[.val (.int (18 : Int32)), .val (.int (2 : Int32)), .val (.int (20 : Int32)), .val (.int (38 : Int32))] [(.int (38 : Int32)), (.int (0 : Int32))]))
  have hc6 : (0 : Int32) < (38 : Int32) := (by decide)
  refine own_go (fun t_ k_ => XS.icmpNo A2.here hx rfl (hb hby d44_10) rfl (tlt hc6).2.1 k_) ?_
  show own_Go _ _ _ _ (T1.setTop (mkF m 13 #[.val (.int (18 : Int32)), .val (.int (2 : Int32)), .val (.int (20 : Int32)), .val (.int (38 : Int32))] []))
  refine own_go (fun t_ k_ => XS.iloadN A2.here hx rfl (hb hby d44_13) rfl k_) ?_
  show own_Go _ _ _ _ (T1.setTop (mkF m 14 #[.val (.int (18 : Int32)), .val (.int (2 : Int32)), .val (.int (20 : Int32)), .val (.int (38 : Int32))] [(.int (38 : Int32))]))
  refine own_ldcI A2 hx hZ hown (hw _ (List.mem_of_getElem? (i := 252) rfl)) rfl (hb hby d44_14) ?_
  show own_Go _ _ _ _ (T1.setTop (mkF m 16 #[.val (.int (18 : Int32)), .val (.int (2 : Int32)), .val (.int (20 : Int32)), .val (.int (38 : Int32))] [(.int (2147483639 : Int32)), (.int (38 : Int32))]))
  have hc7 : ¬ ((2147483639 : Int32) < (38 : Int32)) := (by decide)
  refine own_go (fun t_ k_ => XS.icmpNo A2.here hx rfl (hb hby d44_16) rfl (flt hc7).2.2.1 k_) ?_
  show own_Go _ _ _ _ (T1.setTop (mkF m 19 #[.val (.int (18 : Int32)), .val (.int (2 : Int32)), .val (.int (20 : Int32)), .val (.int (38 : Int32))] []))
  refine own_go (fun t_ k_ => XS.iloadN A2.here hx rfl (hb hby d44_19) rfl k_) ?_
  show own_Go _ _ _ _ (T1.setTop (mkF m 20 #[.val (.int (18 : Int32)), .val (.int (2 : Int32)), .val (.int (20 : Int32)), .val (.int (38 : Int32))] [(.int (38 : Int32))]))
  refine own_retI A2 hx hret hlk (by decide) (by decide) (hb hby d44_20) ?_
  exact ⟨rfl, rfl⟩
theorem ef_43 (m : MethodId) (r0 : Addr) (y1 : Int32) : entryFrame m #[(.ref r0), (.int y1)] 6 = mkF m 0 #[.val (.ref r0), .val (.int y1), .unset, .unset, .unset, .unset] [] := by first | (simp [entryFrame, mkF, argsToLocals, Value.category]; done) | rfl
theorem d43_0 : decode jdk_68_method_10_code 0 = .ok (.aload_n 0, 1) := by decide +kernel
theorem d43_1 : decode jdk_68_method_10_code 1 = .ok (.getfield 15, 3) := by decide +kernel
theorem d43_4 : decode jdk_68_method_10_code 4 = .ok (.arraylength, 1) := by decide +kernel
theorem d43_5 : decode jdk_68_method_10_code 5 = .ok (.istore_n 2, 1) := by decide +kernel
theorem d43_6 : decode jdk_68_method_10_code 6 = .ok (.iload_n 1, 1) := by decide +kernel
theorem d43_7 : decode jdk_68_method_10_code 7 = .ok (.aload_n 0, 1) := by decide +kernel
theorem d43_8 : decode jdk_68_method_10_code 8 = .ok (.getfield 22, 3) := by decide +kernel
theorem d43_11 : decode jdk_68_method_10_code 11 = .ok (.ishl, 1) := by decide +kernel
theorem d43_12 : decode jdk_68_method_10_code 12 = .ok (.istore_n 3, 1) := by decide +kernel
theorem d43_13 : decode jdk_68_method_10_code 13 = .ok (.iload_n 3, 1) := by decide +kernel
theorem d43_14 : decode jdk_68_method_10_code 14 = .ok (.iload_n 2, 1) := by decide +kernel
theorem d43_15 : decode jdk_68_method_10_code 15 = .ok (.isub, 1) := by decide +kernel
theorem d43_16 : decode jdk_68_method_10_code 16 = .ok (.istore 4, 2) := by decide +kernel
theorem d43_18 : decode jdk_68_method_10_code 18 = .ok (.iload_n 2, 1) := by decide +kernel
theorem d43_19 : decode jdk_68_method_10_code 19 = .ok (.iload 4, 2) := by decide +kernel
theorem d43_21 : decode jdk_68_method_10_code 21 = .ok (.iload_n 2, 1) := by decide +kernel
theorem d43_22 : decode jdk_68_method_10_code 22 = .ok (.iconst 2, 1) := by decide +kernel
theorem d43_23 : decode jdk_68_method_10_code 23 = .ok (.aload_n 0, 1) := by decide +kernel
theorem d43_24 : decode jdk_68_method_10_code 24 = .ok (.getfield 22, 3) := by decide +kernel
theorem d43_27 : decode jdk_68_method_10_code 27 = .ok (.ishl, 1) := by decide +kernel
theorem d43_28 : decode jdk_68_method_10_code 28 = .ok (.iadd, 1) := by decide +kernel
theorem d43_29 : decode jdk_68_method_10_code 29 = .ok (.invokestatic 114, 3) := by decide +kernel
theorem pd__III_I : parseMethodDescriptor "(III)I" = some ⟨[.int, .int, .int], some .int⟩ := by decide +kernel
theorem d43_32 : decode jdk_68_method_10_code 32 = .ok (.istore 5, 2) := by decide +kernel
theorem d43_34 : decode jdk_68_method_10_code 34 = .ok (.iload 5, 2) := by decide +kernel
theorem d43_36 : decode jdk_68_method_10_code 36 = .ok (.ldc 39, 2) := by decide +kernel
theorem d43_38 : decode jdk_68_method_10_code 38 = .ok (.if_icmp .ne 13, 3) := by decide +kernel
theorem d43_51 : decode jdk_68_method_10_code 51 = .ok (.iload 5, 2) := by decide +kernel
theorem d43_53 : decode jdk_68_method_10_code 53 = .ok (.aload_n 0, 1) := by decide +kernel
theorem d43_54 : decode jdk_68_method_10_code 54 = .ok (.getfield 22, 3) := by decide +kernel
theorem d43_57 : decode jdk_68_method_10_code 57 = .ok (.ishr, 1) := by decide +kernel
theorem d43_58 : decode jdk_68_method_10_code 58 = .ok (.ireturn, 1) := by decide +kernel
set_option maxRecDepth 65536 in
set_option maxHeartbeats 40000000 in
theorem rm43_g38 (l : Launch) (Z : State) (a0 : Array Value) (hw : ∀ d ∈ tables_1, d.before a0 Z = true) (r0 : Addr) (v0 : Addr) (g : Int32 → Int32) (h0 : Heap) (n0 : Nat) (Fbv : Fld Z h0 r0 "java/lang/AbstractStringBuilder" "value" "[B" (.ref v0)) (Fbc : Fld Z h0 r0 "java/lang/AbstractStringBuilder" "coder" "B" (.int (0 : Int32))) (Vb : own_Arr Z h0 v0 .byte (18 : Int32) g) :
    own_Met l Z n0 (⟨"java/lang/AbstractStringBuilder", "newCapacity", "(I)I"⟩ : MethodName) jdk_68_method_10_code 6 (some .int) ({ frames := 2, cells := 0, slots := 0, locals := 29 } : Room) #[(.ref r0), (.int (20 : Int32))] h0 (fun v h => v = some (.int 38) ∧ h0 = h) := by
  refine own_met (plainFor_of_name pn_10) ?_
  intro p e s m below meth c T0 hx hby hml hown hnm hret hlk hZ A0
  rw [ef_43]
  show own_Go _ _ _ _ (T0.setTop (mkF m 0 #[.val (.ref r0), .val (.int (20 : Int32)), .unset, .unset, .unset, .unset] []))
  refine own_go (fun t_ k_ => XS.aloadN A0.here hx rfl (hb hby d43_0) rfl rfl k_) ?_
  show own_Go _ _ _ _ (T0.setTop (mkF m 1 #[.val (.ref r0), .val (.int (20 : Int32)), .unset, .unset, .unset, .unset] [(.ref r0)]))
  refine own_getF A0 hx hZ hown (host := "") (Or.inl (hw _ (List.mem_of_getElem? (i := 44) rfl))) Via.refl Fbv rfl rfl (hb hby d43_1) (fun T1 A2 => ?_)
  show own_Go _ _ _ _ (T1.setTop (mkF m 4 #[.val (.ref r0), .val (.int (20 : Int32)), .unset, .unset, .unset, .unset] [(.ref v0)]))
  refine own_len A2 hx hZ Vb rfl rfl (hb hby d43_4) ?_
  show own_Go _ _ _ _ (T1.setTop (mkF m 5 #[.val (.ref r0), .val (.int (20 : Int32)), .unset, .unset, .unset, .unset] [(.int (18 : Int32))]))
  refine own_go (fun t_ k_ => XS.istoreN A2.here hx rfl (hb hby d43_5) rfl (l' := #[.val (.ref r0), .val (.int (20 : Int32)), .val (.int (18 : Int32)), .unset, .unset, .unset]) rfl k_) ?_
  show own_Go _ _ _ _ (T1.setTop (mkF m 6 #[.val (.ref r0), .val (.int (20 : Int32)), .val (.int (18 : Int32)), .unset, .unset, .unset] []))
  refine own_go (fun t_ k_ => XS.iloadN A2.here hx rfl (hb hby d43_6) rfl k_) ?_
  show own_Go _ _ _ _ (T1.setTop (mkF m 7 #[.val (.ref r0), .val (.int (20 : Int32)), .val (.int (18 : Int32)), .unset, .unset, .unset] [(.int (20 : Int32))]))
  refine own_go (fun t_ k_ => XS.aloadN A2.here hx rfl (hb hby d43_7) rfl rfl k_) ?_
  show own_Go _ _ _ _ (T1.setTop (mkF m 8 #[.val (.ref r0), .val (.int (20 : Int32)), .val (.int (18 : Int32)), .unset, .unset, .unset] [(.ref r0), (.int (20 : Int32))]))
  refine own_getF A2 hx hZ hown (host := "") (Or.inl (hw _ (List.mem_of_getElem? (i := 42) rfl))) Via.refl Fbc rfl rfl (hb hby d43_8) (fun T3 A4 => ?_)
  show own_Go _ _ _ _ (T3.setTop (mkF m 11 #[.val (.ref r0), .val (.int (20 : Int32)), .val (.int (18 : Int32)), .unset, .unset, .unset] [(.int (0 : Int32)), (.int (20 : Int32))]))
  refine own_go (fun t_ k_ => XS.ishl A4.here hx rfl (hb hby d43_11) rfl k_) ?_
  show own_Go _ _ _ _ (T3.setTop (mkF m 12 #[.val (.ref r0), .val (.int (20 : Int32)), .val (.int (18 : Int32)), .unset, .unset, .unset] [(.int (20 : Int32))]))
  refine own_go (fun t_ k_ => XS.istoreN A4.here hx rfl (hb hby d43_12) rfl (l' := #[.val (.ref r0), .val (.int (20 : Int32)), .val (.int (18 : Int32)), .val (.int (20 : Int32)), .unset, .unset]) rfl k_) ?_
  show own_Go _ _ _ _ (T3.setTop (mkF m 13 #[.val (.ref r0), .val (.int (20 : Int32)), .val (.int (18 : Int32)), .val (.int (20 : Int32)), .unset, .unset] []))
  refine own_go (fun t_ k_ => XS.iloadN A4.here hx rfl (hb hby d43_13) rfl k_) ?_
  show own_Go _ _ _ _ (T3.setTop (mkF m 14 #[.val (.ref r0), .val (.int (20 : Int32)), .val (.int (18 : Int32)), .val (.int (20 : Int32)), .unset, .unset] [(.int (20 : Int32))]))
  refine own_go (fun t_ k_ => XS.iloadN A4.here hx rfl (hb hby d43_14) rfl k_) ?_
  show own_Go _ _ _ _ (T3.setTop (mkF m 15 #[.val (.ref r0), .val (.int (20 : Int32)), .val (.int (18 : Int32)), .val (.int (20 : Int32)), .unset, .unset] [(.int (18 : Int32)), (.int (20 : Int32))]))
  refine own_go (fun t_ k_ => XS.isub A4.here hx rfl (hb hby d43_15) rfl k_) ?_
  show own_Go _ _ _ _ (T3.setTop (mkF m 16 #[.val (.ref r0), .val (.int (20 : Int32)), .val (.int (18 : Int32)), .val (.int (20 : Int32)), .unset, .unset] [(.int (2 : Int32))]))
  refine own_go (fun t_ k_ => XS.istore A4.here hx rfl (hb hby d43_16) rfl (l' := #[.val (.ref r0), .val (.int (20 : Int32)), .val (.int (18 : Int32)), .val (.int (20 : Int32)), .val (.int (2 : Int32)), .unset]) rfl k_) ?_
  show own_Go _ _ _ _ (T3.setTop (mkF m 18 #[.val (.ref r0), .val (.int (20 : Int32)), .val (.int (18 : Int32)), .val (.int (20 : Int32)), .val (.int (2 : Int32)), .unset] []))
  refine own_go (fun t_ k_ => XS.iloadN A4.here hx rfl (hb hby d43_18) rfl k_) ?_
  show own_Go _ _ _ _ (T3.setTop (mkF m 19 #[.val (.ref r0), .val (.int (20 : Int32)), .val (.int (18 : Int32)), .val (.int (20 : Int32)), .val (.int (2 : Int32)), .unset] [(.int (18 : Int32))]))
  refine own_go (fun t_ k_ => XS.iload A4.here hx rfl (hb hby d43_19) rfl k_) ?_
  show own_Go _ _ _ _ (T3.setTop (mkF m 21 #[.val (.ref r0), .val (.int (20 : Int32)), .val (.int (18 : Int32)), .val (.int (20 : Int32)), .val (.int (2 : Int32)), .unset] [(.int (2 : Int32)), (.int (18 : Int32))]))
  refine own_go (fun t_ k_ => XS.iloadN A4.here hx rfl (hb hby d43_21) rfl k_) ?_
  show own_Go _ _ _ _ (T3.setTop (mkF m 22 #[.val (.ref r0), .val (.int (20 : Int32)), .val (.int (18 : Int32)), .val (.int (20 : Int32)), .val (.int (2 : Int32)), .unset] [(.int (18 : Int32)), (.int (2 : Int32)), (.int (18 : Int32))]))
  refine own_go (fun t_ k_ => XS.iconst A4.here hx rfl (hb hby d43_22) k_) ?_
  show own_Go _ _ _ _ (T3.setTop (mkF m 23 #[.val (.ref r0), .val (.int (20 : Int32)), .val (.int (18 : Int32)), .val (.int (20 : Int32)), .val (.int (2 : Int32)), .unset] [(.int (2 : Int32)), (.int (18 : Int32)), (.int (2 : Int32)), (.int (18 : Int32))]))
  refine own_go (fun t_ k_ => XS.aloadN A4.here hx rfl (hb hby d43_23) rfl rfl k_) ?_
  show own_Go _ _ _ _ (T3.setTop (mkF m 24 #[.val (.ref r0), .val (.int (20 : Int32)), .val (.int (18 : Int32)), .val (.int (20 : Int32)), .val (.int (2 : Int32)), .unset] [(.ref r0), (.int (2 : Int32)), (.int (18 : Int32)), (.int (2 : Int32)), (.int (18 : Int32))]))
  refine own_getF A4 hx hZ hown (host := "") (Or.inl (hw _ (List.mem_of_getElem? (i := 42) rfl))) Via.refl Fbc rfl rfl (hb hby d43_24) (fun T5 A6 => ?_)
  show own_Go _ _ _ _ (T5.setTop (mkF m 27 #[.val (.ref r0), .val (.int (20 : Int32)), .val (.int (18 : Int32)), .val (.int (20 : Int32)), .val (.int (2 : Int32)), .unset] [(.int (0 : Int32)), (.int (2 : Int32)), (.int (18 : Int32)), (.int (2 : Int32)), (.int (18 : Int32))]))
  refine own_go (fun t_ k_ => XS.ishl A6.here hx rfl (hb hby d43_27) rfl k_) ?_
  show own_Go _ _ _ _ (T5.setTop (mkF m 28 #[.val (.ref r0), .val (.int (20 : Int32)), .val (.int (18 : Int32)), .val (.int (20 : Int32)), .val (.int (2 : Int32)), .unset] [(.int (2 : Int32)), (.int (18 : Int32)), (.int (2 : Int32)), (.int (18 : Int32))]))
  refine own_go (fun t_ k_ => XS.iadd A6.here hx rfl (hb hby d43_28) rfl k_) ?_
  show own_Go _ _ _ _ (T5.setTop (mkF m 29 #[.val (.ref r0), .val (.int (20 : Int32)), .val (.int (18 : Int32)), .val (.int (20 : Int32)), .val (.int (2 : Int32)), .unset] [(.int (20 : Int32)), (.int (2 : Int32)), (.int (18 : Int32))]))
  refine own_callS A6 hx hZ hown (y := (⟨"jdk/internal/util/ArraysSupport", "newLength", "(III)I"⟩ : MethodName)) (hw _ (List.mem_of_getElem? (i := 245) rfl)) (hw _ (List.mem_of_getElem? (i := 246) rfl)) (hw _ (List.mem_of_getElem? (i := 247) rfl)) (hw _ (List.mem_of_getElem? (i := 248) rfl)) (by decide) (argsL := [(.int (18 : Int32)), (.int (2 : Int32)), (.int (20 : Int32))]) (rest := []) (rm44_g38 l Z a0 hw  h0 n0 ) 0 (by decide) (by decide) rfl (by rw [hml]; rfl) (lenOf pd__III_I rfl) rfl (by show 2 * 0 + _ ≤ _; exact Nat.le_of_eq rfl) (hb hby d43_29) (by decide) (by decide) (fun v10 T7 h9 A8 hQ11 => ?_)
  obtain ⟨rfl, rfl⟩ := hQ11
  show own_Go _ _ _ _ (T7.setTop (mkF m 32 #[.val (.ref r0), .val (.int (20 : Int32)), .val (.int (18 : Int32)), .val (.int (20 : Int32)), .val (.int (2 : Int32)), .unset] [(.int (38 : Int32))]))
  refine own_go (fun t_ k_ => XS.istore A8.here hx rfl (hb hby d43_32) rfl (l' := #[.val (.ref r0), .val (.int (20 : Int32)), .val (.int (18 : Int32)), .val (.int (20 : Int32)), .val (.int (2 : Int32)), .val (.int (38 : Int32))]) rfl k_) ?_
  show own_Go _ _ _ _ (T7.setTop (mkF m 34 #[.val (.ref r0), .val (.int (20 : Int32)), .val (.int (18 : Int32)), .val (.int (20 : Int32)), .val (.int (2 : Int32)), .val (.int (38 : Int32))] []))
  refine own_go (fun t_ k_ => XS.iload A8.here hx rfl (hb hby d43_34) rfl k_) ?_
  show own_Go _ _ _ _ (T7.setTop (mkF m 36 #[.val (.ref r0), .val (.int (20 : Int32)), .val (.int (18 : Int32)), .val (.int (20 : Int32)), .val (.int (2 : Int32)), .val (.int (38 : Int32))] [(.int (38 : Int32))]))
  refine own_ldcI A8 hx hZ hown (hw _ (List.mem_of_getElem? (i := 253) rfl)) rfl (hb hby d43_36) ?_
  show own_Go _ _ _ _ (T7.setTop (mkF m 38 #[.val (.ref r0), .val (.int (20 : Int32)), .val (.int (18 : Int32)), .val (.int (20 : Int32)), .val (.int (2 : Int32)), .val (.int (38 : Int32))] [(.int (2147483647 : Int32)), (.int (38 : Int32))]))
  have hc12 : ¬ ((38 : Int32) = (2147483647 : Int32)) := (by decide)
  refine own_go (fun t_ k_ => XS.icmpYes A8.here hx rfl (pc0 := 38) (pc' := 51) rfl (hb hby d43_38) rfl (feq hc12).2 (by decide) (by decide) k_) ?_
  show own_Go _ _ _ _ (T7.setTop (mkF m 51 #[.val (.ref r0), .val (.int (20 : Int32)), .val (.int (18 : Int32)), .val (.int (20 : Int32)), .val (.int (2 : Int32)), .val (.int (38 : Int32))] []))
  refine own_go (fun t_ k_ => XS.iload A8.here hx rfl (hb hby d43_51) rfl k_) ?_
  show own_Go _ _ _ _ (T7.setTop (mkF m 53 #[.val (.ref r0), .val (.int (20 : Int32)), .val (.int (18 : Int32)), .val (.int (20 : Int32)), .val (.int (2 : Int32)), .val (.int (38 : Int32))] [(.int (38 : Int32))]))
  refine own_go (fun t_ k_ => XS.aloadN A8.here hx rfl (hb hby d43_53) rfl rfl k_) ?_
  show own_Go _ _ _ _ (T7.setTop (mkF m 54 #[.val (.ref r0), .val (.int (20 : Int32)), .val (.int (18 : Int32)), .val (.int (20 : Int32)), .val (.int (2 : Int32)), .val (.int (38 : Int32))] [(.ref r0), (.int (38 : Int32))]))
  refine own_getF A8 hx hZ hown (host := "") (Or.inl (hw _ (List.mem_of_getElem? (i := 42) rfl))) Via.refl Fbc rfl rfl (hb hby d43_54) (fun T13 A14 => ?_)
  show own_Go _ _ _ _ (T13.setTop (mkF m 57 #[.val (.ref r0), .val (.int (20 : Int32)), .val (.int (18 : Int32)), .val (.int (20 : Int32)), .val (.int (2 : Int32)), .val (.int (38 : Int32))] [(.int (0 : Int32)), (.int (38 : Int32))]))
  refine own_go (fun t_ k_ => XS.ishr A14.here hx rfl (hb hby d43_57) rfl k_) ?_
  show own_Go _ _ _ _ (T13.setTop (mkF m 58 #[.val (.ref r0), .val (.int (20 : Int32)), .val (.int (18 : Int32)), .val (.int (20 : Int32)), .val (.int (2 : Int32)), .val (.int (38 : Int32))] [(.int (38 : Int32))]))
  refine own_retI A14 hx hret hlk (by decide) (by decide) (hb hby d43_58) ?_
  exact ⟨rfl, rfl⟩
theorem ef_46 (m : MethodId) (r0 : Addr) (y1 : Int32) : entryFrame m #[(.ref r0), (.int y1)] 3 = mkF m 0 #[.val (.ref r0), .val (.int y1), .unset] [] := by first | (simp [entryFrame, mkF, argsToLocals, Value.category]; done) | rfl
theorem pn_46 : plainName "java/util/Arrays" = true := by first | (simp [plainName, overriddenIn]; done) | decide +kernel
theorem d46_0 : decode jdk_65_method_121_code 0 = .ok (.iload_n 1, 1) := by decide +kernel
theorem d46_1 : decode jdk_65_method_121_code 1 = .ok (.aload_n 0, 1) := by decide +kernel
theorem d46_2 : decode jdk_65_method_121_code 2 = .ok (.arraylength, 1) := by decide +kernel
theorem d46_3 : decode jdk_65_method_121_code 3 = .ok (.if_icmp .ne 11, 3) := by decide +kernel
theorem d46_14 : decode jdk_65_method_121_code 14 = .ok (.iload_n 1, 1) := by decide +kernel
theorem d46_15 : decode jdk_65_method_121_code 15 = .ok (.newarray .byte, 2) := by decide +kernel
theorem d46_17 : decode jdk_65_method_121_code 17 = .ok (.astore_n 2, 1) := by decide +kernel
theorem d46_18 : decode jdk_65_method_121_code 18 = .ok (.aload_n 0, 1) := by decide +kernel
theorem d46_19 : decode jdk_65_method_121_code 19 = .ok (.iconst 0, 1) := by decide +kernel
theorem d46_20 : decode jdk_65_method_121_code 20 = .ok (.aload_n 2, 1) := by decide +kernel
theorem d46_21 : decode jdk_65_method_121_code 21 = .ok (.iconst 0, 1) := by decide +kernel
theorem d46_22 : decode jdk_65_method_121_code 22 = .ok (.aload_n 0, 1) := by decide +kernel
theorem d46_23 : decode jdk_65_method_121_code 23 = .ok (.arraylength, 1) := by decide +kernel
theorem d46_24 : decode jdk_65_method_121_code 24 = .ok (.iload_n 1, 1) := by decide +kernel
theorem d46_25 : decode jdk_65_method_121_code 25 = .ok (.invokestatic 304, 3) := by decide +kernel
theorem d46_28 : decode jdk_65_method_121_code 28 = .ok (.invokestatic 150, 3) := by decide +kernel
theorem d46_31 : decode jdk_65_method_121_code 31 = .ok (.aload_n 2, 1) := by decide +kernel
theorem d46_32 : decode jdk_65_method_121_code 32 = .ok (.areturn, 1) := by decide +kernel
set_option maxRecDepth 65536 in
set_option maxHeartbeats 40000000 in
theorem rm46_g38 (l : Launch) (Z : State) (a0 : Array Value) (hw : ∀ d ∈ tables_1, d.before a0 Z = true) (r0 : Addr) (g : Int32 → Int32) (h0 : Heap) (n0 : Nat) (Z0 : n0 ≤ h0.size) (Vb : own_Arr Z h0 r0 .byte (18 : Int32) g) (Bb : own_Byt g 18) :
    own_Met l Z n0 (⟨"java/util/Arrays", "copyOf", "([BI)[B"⟩ : MethodName) jdk_65_method_121_code 3 (some (.array .byte)) ({ frames := 1, cells := 1, slots := 38, locals := 40 } : Room) #[(.ref r0), (.int (38 : Int32))] h0 (fun v h => Keep h0 h [] ∧ ∃ t, v = some (.ref t) ∧ n0 ≤ t ∧ h0.size ≤ t ∧ own_Arr Z h t .byte (38 : Int32) (own_cpf g 0 0 18 (fun _ => 0))) := by
  refine own_met (plainFor_of_name pn_46) ?_
  intro p e s m below meth c T0 hx hby hml hown hnm hret hlk hZ A0
  rw [ef_46]
  show own_Go _ _ _ _ (T0.setTop (mkF m 0 #[.val (.ref r0), .val (.int (38 : Int32)), .unset] []))
  refine own_go (fun t_ k_ => XS.iloadN A0.here hx rfl (hb hby d46_0) rfl k_) ?_
  show own_Go _ _ _ _ (T0.setTop (mkF m 1 #[.val (.ref r0), .val (.int (38 : Int32)), .unset] [(.int (38 : Int32))]))
  refine own_go (fun t_ k_ => XS.aloadN A0.here hx rfl (hb hby d46_1) rfl rfl k_) ?_
  show own_Go _ _ _ _ (T0.setTop (mkF m 2 #[.val (.ref r0), .val (.int (38 : Int32)), .unset] [(.ref r0), (.int (38 : Int32))]))
  refine own_len A0 hx hZ Vb rfl rfl (hb hby d46_2) ?_
  show own_Go _ _ _ _ (T0.setTop (mkF m 3 #[.val (.ref r0), .val (.int (38 : Int32)), .unset] [(.int (18 : Int32)), (.int (38 : Int32))]))
  have hc1 : ¬ ((38 : Int32) = (18 : Int32)) := (by decide)
  refine own_go (fun t_ k_ => XS.icmpYes A0.here hx rfl (pc0 := 3) (pc' := 14) rfl (hb hby d46_3) rfl (feq hc1).2 (by decide) (by decide) k_) ?_
  show own_Go _ _ _ _ (T0.setTop (mkF m 14 #[.val (.ref r0), .val (.int (38 : Int32)), .unset] []))
  refine own_go (fun t_ k_ => XS.iloadN A0.here hx rfl (hb hby d46_14) rfl k_) ?_
  show own_Go _ _ _ _ (T0.setTop (mkF m 15 #[.val (.ref r0), .val (.int (38 : Int32)), .unset] [(.int (38 : Int32))]))
  refine own_newP A0 hx hZ (hw _ (List.mem_of_getElem? (i := 10) rfl)) rfl rfl (hb hby d46_15) rfl (by decide) 38 (by decide) (by decide) (by decide) (by decide) (fun T2 h4 b5 ha_b5 A3 E6 V7 R8 => ?_)
  have ne_r0_b5 : r0 ≠ b5 := Nat.ne_of_lt (by rw [ha_b5]; exact Vb.lt)
  have g_b5 : n0 ≤ b5 := by rw [ha_b5]; exact Z0
  have nw_b5 : h0.size ≤ b5 := by rw [ha_b5]; exact (Keep.refl h0 []).1
  have Z9 : n0 ≤ h4.size := Nat.le_trans Z0 E6.1
  have K10 : Keep h0 h4 [] := (Keep.refl h0 []).ext E6
  have V11 : own_Arr Z h4 r0 .byte (18 : Int32) g := Vb.ext E6
  show own_Go _ _ _ _ (T2.setTop (mkF m 17 #[.val (.ref r0), .val (.int (38 : Int32)), .unset] [(.ref b5)]))
  refine own_go (fun t_ k_ => XS.astoreN A3.here hx rfl (hb hby d46_17) rfl rfl (l' := #[.val (.ref r0), .val (.int (38 : Int32)), .val (.ref b5)]) rfl k_) ?_
  show own_Go _ _ _ _ (T2.setTop (mkF m 18 #[.val (.ref r0), .val (.int (38 : Int32)), .val (.ref b5)] []))
  refine own_go (fun t_ k_ => XS.aloadN A3.here hx rfl (hb hby d46_18) rfl rfl k_) ?_
  show own_Go _ _ _ _ (T2.setTop (mkF m 19 #[.val (.ref r0), .val (.int (38 : Int32)), .val (.ref b5)] [(.ref r0)]))
  refine own_go (fun t_ k_ => XS.iconst A3.here hx rfl (hb hby d46_19) k_) ?_
  show own_Go _ _ _ _ (T2.setTop (mkF m 20 #[.val (.ref r0), .val (.int (38 : Int32)), .val (.ref b5)] [(.int (0 : Int32)), (.ref r0)]))
  refine own_go (fun t_ k_ => XS.aloadN A3.here hx rfl (hb hby d46_20) rfl rfl k_) ?_
  show own_Go _ _ _ _ (T2.setTop (mkF m 21 #[.val (.ref r0), .val (.int (38 : Int32)), .val (.ref b5)] [(.ref b5), (.int (0 : Int32)), (.ref r0)]))
  refine own_go (fun t_ k_ => XS.iconst A3.here hx rfl (hb hby d46_21) k_) ?_
  show own_Go _ _ _ _ (T2.setTop (mkF m 22 #[.val (.ref r0), .val (.int (38 : Int32)), .val (.ref b5)] [(.int (0 : Int32)), (.ref b5), (.int (0 : Int32)), (.ref r0)]))
  refine own_go (fun t_ k_ => XS.aloadN A3.here hx rfl (hb hby d46_22) rfl rfl k_) ?_
  show own_Go _ _ _ _ (T2.setTop (mkF m 23 #[.val (.ref r0), .val (.int (38 : Int32)), .val (.ref b5)] [(.ref r0), (.int (0 : Int32)), (.ref b5), (.int (0 : Int32)), (.ref r0)]))
  refine own_len A3 hx hZ V11 rfl rfl (hb hby d46_23) ?_
  show own_Go _ _ _ _ (T2.setTop (mkF m 24 #[.val (.ref r0), .val (.int (38 : Int32)), .val (.ref b5)] [(.int (18 : Int32)), (.int (0 : Int32)), (.ref b5), (.int (0 : Int32)), (.ref r0)]))
  refine own_go (fun t_ k_ => XS.iloadN A3.here hx rfl (hb hby d46_24) rfl k_) ?_
  show own_Go _ _ _ _ (T2.setTop (mkF m 25 #[.val (.ref r0), .val (.int (38 : Int32)), .val (.ref b5)] [(.int (38 : Int32)), (.int (18 : Int32)), (.int (0 : Int32)), (.ref b5), (.int (0 : Int32)), (.ref r0)]))
  refine own_callS A3 hx hZ hown (y := (⟨"java/lang/Math", "min", "(II)I"⟩ : MethodName)) (hw _ (List.mem_of_getElem? (i := 208) rfl)) (hw _ (List.mem_of_getElem? (i := 209) rfl)) (hw _ (List.mem_of_getElem? (i := 210) rfl)) (hw _ (List.mem_of_getElem? (i := 211) rfl)) (by decide) (argsL := [(.int (18 : Int32)), (.int (38 : Int32))]) (rest := [(.int (0 : Int32)), (.ref b5), (.int (0 : Int32)), (.ref r0)]) (rm36 l Z a0 hw (18 : Int32) (38 : Int32) h4 n0 ) 4 (by decide) (by decide) rfl (by rw [hml]; rfl) (lenOf pd__II_I rfl) rfl (by show 2 * 0 + _ ≤ _; exact Nat.le_of_eq rfl) (hb hby d46_25) (by decide) (by decide) (fun v15 T12 h14 A13 hQ16 => ?_)
  obtain ⟨rfl, rfl⟩ := hQ16
  show own_Go _ _ _ _ (T12.setTop (mkF m 28 #[.val (.ref r0), .val (.int (38 : Int32)), .val (.ref b5)] [(.int (f36 (18 : Int32) (38 : Int32))), (.int (0 : Int32)), (.ref b5), (.int (0 : Int32)), (.ref r0)]))
  rw [show (f36 (18 : Int32) (38 : Int32)) = (18 : Int32) from by decide]
  show own_Go _ _ _ _ (T12.setTop (mkF m 28 #[.val (.ref r0), .val (.int (38 : Int32)), .val (.ref b5)] [(.int (18 : Int32)), (.int (0 : Int32)), (.ref b5), (.int (0 : Int32)), (.ref r0)]))
  refine own_cpL A13 hx hZ hown (hw _ (List.mem_of_getElem? (i := 212) rfl)) (hw _ (List.mem_of_getElem? (i := 86) rfl)) (hw _ (List.mem_of_getElem? (i := 84) rfl)) (hw _ (List.mem_of_getElem? (i := 85) rfl)) (na := 18) (nb := 38) (sp := 0) (dp := 0) (nn := 18) V11 V7 (by omega) (by omega) Bb (fun k hk => rfl) (by omega) (by omega) g_b5 rfl (by rw [hml]; rfl) (rest := []) rfl (hb hby d46_28) (by decide) 0 (by show 2 * 0 + _ ≤ _; exact Nat.le_of_eq rfl) (by decide +kernel) (fun T17 h19 A18 K20 V21 => ?_)
  have Z22 : n0 ≤ h19.size := Nat.le_trans Z9 K20.1
  have K23 : Keep h0 h19 [] := K10.trans K20 (allS (Or.inr nw_b5) all0)
  have V24 : own_Arr Z h19 r0 .byte (18 : Int32) g := V11.keep K20 (ninS ne_r0_b5 nin0)
  show own_Go _ _ _ _ (T17.setTop (mkF m 31 #[.val (.ref r0), .val (.int (38 : Int32)), .val (.ref b5)] []))
  refine own_go (fun t_ k_ => XS.aloadN A18.here hx rfl (hb hby d46_31) rfl rfl k_) ?_
  show own_Go _ _ _ _ (T17.setTop (mkF m 32 #[.val (.ref r0), .val (.int (38 : Int32)), .val (.ref b5)] [(.ref b5)]))
  refine own_retA A18 hx hret rfl hlk (by decide) (by decide) rfl (hb hby d46_32) ?_
  exact ⟨K23, b5, rfl, g_b5, nw_b5, V21⟩
theorem d10_17 : decode jdk_68_method_9_code 17 = .ok (.aload_n 0, 1) := by decide +kernel
theorem d10_18 : decode jdk_68_method_9_code 18 = .ok (.aload_n 0, 1) := by decide +kernel
theorem d10_19 : decode jdk_68_method_9_code 19 = .ok (.getfield 15, 3) := by decide +kernel
theorem d10_22 : decode jdk_68_method_9_code 22 = .ok (.aload_n 0, 1) := by decide +kernel
theorem d10_23 : decode jdk_68_method_9_code 23 = .ok (.iload_n 1, 1) := by decide +kernel
theorem d10_24 : decode jdk_68_method_9_code 24 = .ok (.invokevirtual 104, 3) := by decide +kernel
theorem pd__I_I : parseMethodDescriptor "(I)I" = some ⟨[.int], some .int⟩ := by decide +kernel
theorem d10_27 : decode jdk_68_method_9_code 27 = .ok (.aload_n 0, 1) := by decide +kernel
theorem d10_28 : decode jdk_68_method_9_code 28 = .ok (.getfield 22, 3) := by decide +kernel
theorem d10_31 : decode jdk_68_method_9_code 31 = .ok (.ishl, 1) := by decide +kernel
theorem d10_32 : decode jdk_68_method_9_code 32 = .ok (.invokestatic 108, 3) := by decide +kernel
theorem pd___BI__B : parseMethodDescriptor "([BI)[B" = some ⟨[(.array .byte), .int], some (.array .byte)⟩ := by decide +kernel
theorem d10_35 : decode jdk_68_method_9_code 35 = .ok (.putfield 15, 3) := by decide +kernel
set_option maxRecDepth 65536 in
set_option maxHeartbeats 40000000 in
theorem rm10_g38 (l : Launch) (Z : State) (a0 : Array Value) (hw : ∀ d ∈ tables_1, d.before a0 Z = true) (r0 : Addr) (v0 : Addr) (g : Int32 → Int32) (cn : Int32) (h0 : Heap) (n0 : Nat) (Z0 : n0 ≤ h0.size) (Eb : Exa Z h0 r0 "java/lang/StringBuilder") (Fbv : Fld Z h0 r0 "java/lang/AbstractStringBuilder" "value" "[B" (.ref v0)) (Fbc : Fld Z h0 r0 "java/lang/AbstractStringBuilder" "coder" "B" (.int (0 : Int32))) (Vb : own_Arr Z h0 v0 .byte (18 : Int32) g) (Fbn : Fld Z h0 r0 "java/lang/AbstractStringBuilder" "count" "I" (.int cn)) (Fbm : Fld Z h0 r0 "java/lang/AbstractStringBuilder" "maybeLatin1" "Z" (.int (0 : Int32))) (g0 : n0 ≤ r0) (ne_v0_r0 : v0 ≠ r0) (Bb : own_Byt g 18) :
    own_Met l Z n0 (⟨"java/lang/AbstractStringBuilder", "ensureCapacityInternal", "(I)V"⟩ : MethodName) jdk_68_method_9_code 3 none ({ frames := 3, cells := 1, slots := 38, locals := 55 } : Room) #[(.ref r0), (.int (20 : Int32))] h0 (fun v h => v = none ∧ Keep h0 h [r0] ∧ ∃ v1, n0 ≤ v1 ∧ h0.size ≤ v1 ∧ Fld Z h r0 "java/lang/AbstractStringBuilder" "value" "[B" (.ref v1) ∧ Fld Z h r0 "java/lang/AbstractStringBuilder" "coder" "B" (.int (0 : Int32)) ∧ Fld Z h r0 "java/lang/AbstractStringBuilder" "count" "I" (.int cn) ∧ Fld Z h r0 "java/lang/AbstractStringBuilder" "maybeLatin1" "Z" (.int (0 : Int32)) ∧ own_Arr Z h v1 .byte (38 : Int32) (own_cpf g 0 0 18 (fun _ => 0))) := by
  refine own_met (plainFor_of_name pn_10) ?_
  intro p e s m below meth c T0 hx hby hml hown hnm hret hlk hZ A0
  rw [ef_10]
  show own_Go _ _ _ _ (T0.setTop (mkF m 0 #[.val (.ref r0), .val (.int (20 : Int32)), .unset] []))
  refine own_go (fun t_ k_ => XS.aloadN A0.here hx rfl (hb hby d10_0) rfl rfl k_) ?_
  show own_Go _ _ _ _ (T0.setTop (mkF m 1 #[.val (.ref r0), .val (.int (20 : Int32)), .unset] [(.ref r0)]))
  refine own_getF A0 hx hZ hown (host := "") (Or.inl (hw _ (List.mem_of_getElem? (i := 44) rfl))) Via.refl Fbv rfl rfl (hb hby d10_1) (fun T1 A2 => ?_)
  show own_Go _ _ _ _ (T1.setTop (mkF m 4 #[.val (.ref r0), .val (.int (20 : Int32)), .unset] [(.ref v0)]))
  refine own_len A2 hx hZ Vb rfl rfl (hb hby d10_4) ?_
  show own_Go _ _ _ _ (T1.setTop (mkF m 5 #[.val (.ref r0), .val (.int (20 : Int32)), .unset] [(.int (18 : Int32))]))
  refine own_go (fun t_ k_ => XS.aloadN A2.here hx rfl (hb hby d10_5) rfl rfl k_) ?_
  show own_Go _ _ _ _ (T1.setTop (mkF m 6 #[.val (.ref r0), .val (.int (20 : Int32)), .unset] [(.ref r0), (.int (18 : Int32))]))
  refine own_getF A2 hx hZ hown (host := "") (Or.inl (hw _ (List.mem_of_getElem? (i := 42) rfl))) Via.refl Fbc rfl rfl (hb hby d10_6) (fun T3 A4 => ?_)
  show own_Go _ _ _ _ (T3.setTop (mkF m 9 #[.val (.ref r0), .val (.int (20 : Int32)), .unset] [(.int (0 : Int32)), (.int (18 : Int32))]))
  refine own_go (fun t_ k_ => XS.ishr A4.here hx rfl (hb hby d10_9) rfl k_) ?_
  show own_Go _ _ _ _ (T3.setTop (mkF m 10 #[.val (.ref r0), .val (.int (20 : Int32)), .unset] [(.int (18 : Int32))]))
  refine own_go (fun t_ k_ => XS.istoreN A4.here hx rfl (hb hby d10_10) rfl (l' := #[.val (.ref r0), .val (.int (20 : Int32)), .val (.int (18 : Int32))]) rfl k_) ?_
  show own_Go _ _ _ _ (T3.setTop (mkF m 11 #[.val (.ref r0), .val (.int (20 : Int32)), .val (.int (18 : Int32))] []))
  refine own_go (fun t_ k_ => XS.iloadN A4.here hx rfl (hb hby d10_11) rfl k_) ?_
  show own_Go _ _ _ _ (T3.setTop (mkF m 12 #[.val (.ref r0), .val (.int (20 : Int32)), .val (.int (18 : Int32))] [(.int (20 : Int32))]))
  refine own_go (fun t_ k_ => XS.iloadN A4.here hx rfl (hb hby d10_12) rfl k_) ?_
  show own_Go _ _ _ _ (T3.setTop (mkF m 13 #[.val (.ref r0), .val (.int (20 : Int32)), .val (.int (18 : Int32))] [(.int (18 : Int32)), (.int (20 : Int32))]))
  refine own_go (fun t_ k_ => XS.isub A4.here hx rfl (hb hby d10_13) rfl k_) ?_
  show own_Go _ _ _ _ (T3.setTop (mkF m 14 #[.val (.ref r0), .val (.int (20 : Int32)), .val (.int (18 : Int32))] [(.int (2 : Int32))]))
  have hc5 : (0 : Int32) < (2 : Int32) := (by decide)
  refine own_go (fun t_ k_ => XS.ifNo A4.here hx rfl (hb hby d10_14) rfl ((if0 _ _).trans (tlt hc5).2.2.2) k_) ?_
  show own_Go _ _ _ _ (T3.setTop (mkF m 17 #[.val (.ref r0), .val (.int (20 : Int32)), .val (.int (18 : Int32))] []))
  refine own_go (fun t_ k_ => XS.aloadN A4.here hx rfl (hb hby d10_17) rfl rfl k_) ?_
  show own_Go _ _ _ _ (T3.setTop (mkF m 18 #[.val (.ref r0), .val (.int (20 : Int32)), .val (.int (18 : Int32))] [(.ref r0)]))
  refine own_go (fun t_ k_ => XS.aloadN A4.here hx rfl (hb hby d10_18) rfl rfl k_) ?_
  show own_Go _ _ _ _ (T3.setTop (mkF m 19 #[.val (.ref r0), .val (.int (20 : Int32)), .val (.int (18 : Int32))] [(.ref r0), (.ref r0)]))
  refine own_getF A4 hx hZ hown (host := "") (Or.inl (hw _ (List.mem_of_getElem? (i := 44) rfl))) Via.refl Fbv rfl rfl (hb hby d10_19) (fun T6 A7 => ?_)
  show own_Go _ _ _ _ (T6.setTop (mkF m 22 #[.val (.ref r0), .val (.int (20 : Int32)), .val (.int (18 : Int32))] [(.ref v0), (.ref r0)]))
  refine own_go (fun t_ k_ => XS.aloadN A7.here hx rfl (hb hby d10_22) rfl rfl k_) ?_
  show own_Go _ _ _ _ (T6.setTop (mkF m 23 #[.val (.ref r0), .val (.int (20 : Int32)), .val (.int (18 : Int32))] [(.ref r0), (.ref v0), (.ref r0)]))
  refine own_go (fun t_ k_ => XS.iloadN A7.here hx rfl (hb hby d10_23) rfl k_) ?_
  show own_Go _ _ _ _ (T6.setTop (mkF m 24 #[.val (.ref r0), .val (.int (20 : Int32)), .val (.int (18 : Int32))] [(.int (20 : Int32)), (.ref r0), (.ref v0), (.ref r0)]))
  refine own_callP A7 hx hZ (y := (⟨"java/lang/AbstractStringBuilder", "newCapacity", "(I)I"⟩ : MethodName)) hown (hw _ (List.mem_of_getElem? (i := 240) rfl)) (hw _ (List.mem_of_getElem? (i := 241) rfl)) (hw _ (List.mem_of_getElem? (i := 242) rfl)) (hw _ (List.mem_of_getElem? (i := 65) rfl)) rfl (hw _ (List.mem_of_getElem? (i := 22) rfl)) (hw _ (List.mem_of_getElem? (i := 244) rfl)) (by decide) (b := r0) (argsL := [(.int (20 : Int32))]) (rest := [(.ref v0), (.ref r0)]) Eb (rm43_g38 l Z a0 hw r0 v0 g h0 n0 Fbv Fbc Vb) 2 (by decide) (by decide) rfl (by rw [hml]; rfl) (lenOf pd__I_I rfl) rfl (by show 2 * 0 + _ ≤ _; exact Nat.le_of_eq rfl) (hb hby d10_24) (by decide) (by decide) (fun v11 T8 h10 A9 hQ12 => ?_)
  obtain ⟨rfl, rfl⟩ := hQ12
  show own_Go _ _ _ _ (T8.setTop (mkF m 27 #[.val (.ref r0), .val (.int (20 : Int32)), .val (.int (18 : Int32))] [(.int (38 : Int32)), (.ref v0), (.ref r0)]))
  refine own_go (fun t_ k_ => XS.aloadN A9.here hx rfl (hb hby d10_27) rfl rfl k_) ?_
  show own_Go _ _ _ _ (T8.setTop (mkF m 28 #[.val (.ref r0), .val (.int (20 : Int32)), .val (.int (18 : Int32))] [(.ref r0), (.int (38 : Int32)), (.ref v0), (.ref r0)]))
  refine own_getF A9 hx hZ hown (host := "") (Or.inl (hw _ (List.mem_of_getElem? (i := 42) rfl))) Via.refl Fbc rfl rfl (hb hby d10_28) (fun T13 A14 => ?_)
  show own_Go _ _ _ _ (T13.setTop (mkF m 31 #[.val (.ref r0), .val (.int (20 : Int32)), .val (.int (18 : Int32))] [(.int (0 : Int32)), (.int (38 : Int32)), (.ref v0), (.ref r0)]))
  refine own_go (fun t_ k_ => XS.ishl A14.here hx rfl (hb hby d10_31) rfl k_) ?_
  show own_Go _ _ _ _ (T13.setTop (mkF m 32 #[.val (.ref r0), .val (.int (20 : Int32)), .val (.int (18 : Int32))] [(.int (38 : Int32)), (.ref v0), (.ref r0)]))
  refine own_callS A14 hx hZ hown (y := (⟨"java/util/Arrays", "copyOf", "([BI)[B"⟩ : MethodName)) (hw _ (List.mem_of_getElem? (i := 254) rfl)) (hw _ (List.mem_of_getElem? (i := 255) rfl)) (hw _ (List.mem_of_getElem? (i := 147) rfl)) (hw _ (List.mem_of_getElem? (i := 256) rfl)) (by decide) (argsL := [(.ref v0), (.int (38 : Int32))]) (rest := [(.ref r0)]) (rm46_g38 l Z a0 hw v0 g h0 n0 Z0 Vb Bb) 1 (by decide) (by decide) rfl (by rw [hml]; rfl) (lenOf pd___BI__B rfl) rfl (by show 2 * 0 + _ ≤ _; exact Nat.le_of_eq rfl) (hb hby d10_32) (by decide) (by decide) (fun v18 T15 h17 A16 hQ19 => ?_)
  obtain ⟨K20, t21, rfl, gt22, nt23, V24⟩ := hQ19
  have ne_r0_t21 : r0 ≠ t21 := Nat.ne_of_lt (Nat.lt_of_lt_of_le Eb.lt nt23)
  have ne_v0_t21 : v0 ≠ t21 := Nat.ne_of_lt (Nat.lt_of_lt_of_le Vb.lt nt23)
  have nw_t21 : h0.size ≤ t21 := Nat.le_trans (Keep.refl h0 [r0]).1 nt23
  have Z25 : n0 ≤ h17.size := Nat.le_trans Z0 K20.1
  have E26 : Exa Z h17 r0 "java/lang/StringBuilder" := Eb.keep K20
  have F27 : Fld Z h17 r0 "java/lang/AbstractStringBuilder" "value" "[B" (.ref v0) := Fbv.keep K20 nin0
  have F28 : Fld Z h17 r0 "java/lang/AbstractStringBuilder" "coder" "B" (.int (0 : Int32)) := Fbc.keep K20 nin0
  have V29 : own_Arr Z h17 v0 .byte (18 : Int32) g := Vb.keep K20 nin0
  have F30 : Fld Z h17 r0 "java/lang/AbstractStringBuilder" "count" "I" (.int cn) := Fbn.keep K20 nin0
  have F31 : Fld Z h17 r0 "java/lang/AbstractStringBuilder" "maybeLatin1" "Z" (.int (0 : Int32)) := Fbm.keep K20 nin0
  have K32 : Keep h0 h17 [r0] := (Keep.refl h0 [r0]).trans K20 all0
  show own_Go _ _ _ _ (T15.setTop (mkF m 35 #[.val (.ref r0), .val (.int (20 : Int32)), .val (.int (18 : Int32))] [(.ref t21), (.ref r0)]))
  refine own_putF A16 hx hZ hown (host := "") (Or.inl (hw _ (List.mem_of_getElem? (i := 44) rfl))) Via.refl F27 E26 (Or.inl (hw _ (List.mem_of_getElem? (i := 45) rfl))) (hw _ (List.mem_of_getElem? (i := 5) rfl)) (ty := (.array .byte)) (by decide) rfl rfl g0 rfl rfl (hb hby d10_35) (fun T33 h35 A34 W36 => ?_)
  have Z37 : n0 ≤ h35.size := Nat.le_trans Z25 (Nat.le_of_eq (Wr.size W36).symm)
  have E38 : Exa Z h35 r0 "java/lang/StringBuilder" := E26.wr W36
  have F39 : Fld Z h35 r0 "java/lang/AbstractStringBuilder" "value" "[B" (.ref t21) := F27.same W36
  have F40 : Fld Z h35 r0 "java/lang/AbstractStringBuilder" "coder" "B" (.int (0 : Int32)) := F28.other W36 (Or.inr (slot_ne (Or.inl (hw _ (List.mem_of_getElem? (i := 43) rfl))) (Or.inl (hw _ (List.mem_of_getElem? (i := 45) rfl))) (by decide) (t := .byte) (t' := (.array .byte)) (by decide) (by decide)))
  have V41 : own_Arr Z h35 v0 .byte (18 : Int32) g := V29.other W36 ne_v0_r0
  have F42 : Fld Z h35 r0 "java/lang/AbstractStringBuilder" "count" "I" (.int cn) := F30.other W36 (Or.inr (slot_ne (Or.inl (hw _ (List.mem_of_getElem? (i := 61) rfl))) (Or.inl (hw _ (List.mem_of_getElem? (i := 45) rfl))) (by decide) (t := .int) (t' := (.array .byte)) (by decide) (by decide)))
  have F43 : Fld Z h35 r0 "java/lang/AbstractStringBuilder" "maybeLatin1" "Z" (.int (0 : Int32)) := F31.other W36 (Or.inr (slot_ne (Or.inl (hw _ (List.mem_of_getElem? (i := 201) rfl))) (Or.inl (hw _ (List.mem_of_getElem? (i := 45) rfl))) (by decide) (t := .boolean) (t' := (.array .byte)) (by decide) (by decide)))
  have K44 : Keep h0 h35 [r0] := K32.wr W36 (Or.inl (List.mem_of_getElem? (i := 0) rfl))
  have V45 : own_Arr Z h35 t21 .byte (38 : Int32) (own_cpf g 0 0 18 (fun _ => 0)) := V24.other W36 (Ne.symm ne_r0_t21)
  show own_Go _ _ _ _ (T33.setTop (mkF m 38 #[.val (.ref r0), .val (.int (20 : Int32)), .val (.int (18 : Int32))] []))
  refine own_retV A34 hx hret hlk (by decide) (by decide) (hb hby d10_38) ?_
  exact ⟨rfl, K44, t21, gt22, nw_t21, F39, F40, F42, F43, V45⟩
theorem ef_31 (m : MethodId) (r0 : Addr) (r1 : Addr) : entryFrame m #[(.ref r0), (.ref r1)] 2 = mkF m 0 #[.val (.ref r0), .val (.ref r1)] [] := by first | (simp [entryFrame, mkF, argsToLocals, Value.category]; done) | rfl
theorem d31_0 : decode jdk_68_method_72_code 0 = .ok (.getstatic 18, 3) := by decide +kernel
theorem d31_3 : decode jdk_68_method_72_code 3 = .ok (.ifCond .eq 18, 3) := by decide +kernel
theorem d31_6 : decode jdk_68_method_72_code 6 = .ok (.aload_n 0, 1) := by decide +kernel
theorem d31_7 : decode jdk_68_method_72_code 7 = .ok (.getfield 22, 3) := by decide +kernel
theorem d31_10 : decode jdk_68_method_72_code 10 = .ok (.aload_n 1, 1) := by decide +kernel
theorem d31_11 : decode jdk_68_method_72_code 11 = .ok (.invokevirtual 70, 3) := by decide +kernel
theorem d31_14 : decode jdk_68_method_72_code 14 = .ok (.if_icmp .eq 7, 3) := by decide +kernel
theorem d31_21 : decode jdk_68_method_72_code 21 = .ok (.return_, 1) := by decide +kernel
set_option maxRecDepth 65536 in
set_option maxHeartbeats 40000000 in
theorem rm31 (l : Launch) (Z : State) (a0 : Array Value) (hw : ∀ d ∈ tables_1, d.before a0 Z = true) (r0 : Addr) (r1 : Addr) (z_C : Int32) (h0 : Heap) (n0 : Nat) (S_C0 : Sta Z h0 "java/lang/String" "COMPACT_STRINGS" "Z" (.int z_C)) (hz : ¬ z_C = 0) (Fbc : Fld Z h0 r0 "java/lang/AbstractStringBuilder" "coder" "B" (.int (0 : Int32))) (E1 : Exa Z h0 r1 "java/lang/StringBuilder") (F1c : Fld Z h0 r1 "java/lang/AbstractStringBuilder" "coder" "B" (.int (0 : Int32))) :
    own_Met l Z n0 (⟨"java/lang/AbstractStringBuilder", "inflateIfNeededFor", "(Ljava/lang/AbstractStringBuilder;)V"⟩ : MethodName) jdk_68_method_72_code 2 none ({ frames := 1, cells := 0, slots := 0, locals := 13 } : Room) #[(.ref r0), (.ref r1)] h0 (fun v h => v = none ∧ h0 = h) := by
  refine own_met (plainFor_of_name pn_10) ?_
  intro p e s m below meth c T0 hx hby hml hown hnm hret hlk hZ A0
  rw [ef_31]
  show own_Go _ _ _ _ (T0.setTop (mkF m 0 #[.val (.ref r0), .val (.ref r1)] []))
  refine own_getS A0 hx hZ hown (host := "") (Or.inl (hw _ (List.mem_of_getElem? (i := 77) rfl))) Via.refl S_C0 rfl (hb hby d31_0) (fun T1 A2 => ?_)
  show own_Go _ _ _ _ (T1.setTop (mkF m 3 #[.val (.ref r0), .val (.ref r1)] [(.int z_C)]))
  have hc3 : ¬ (z_C = (0 : Int32)) := hz
  refine own_go (fun t_ k_ => XS.ifNo A2.here hx rfl (hb hby d31_3) rfl ((if0 _ _).trans (feq hc3).1) k_) ?_
  show own_Go _ _ _ _ (T1.setTop (mkF m 6 #[.val (.ref r0), .val (.ref r1)] []))
  refine own_go (fun t_ k_ => XS.aloadN A2.here hx rfl (hb hby d31_6) rfl rfl k_) ?_
  show own_Go _ _ _ _ (T1.setTop (mkF m 7 #[.val (.ref r0), .val (.ref r1)] [(.ref r0)]))
  refine own_getF A2 hx hZ hown (host := "") (Or.inl (hw _ (List.mem_of_getElem? (i := 42) rfl))) Via.refl Fbc rfl rfl (hb hby d31_7) (fun T4 A5 => ?_)
  show own_Go _ _ _ _ (T4.setTop (mkF m 10 #[.val (.ref r0), .val (.ref r1)] [(.int (0 : Int32))]))
  refine own_go (fun t_ k_ => XS.aloadN A5.here hx rfl (hb hby d31_10) rfl rfl k_) ?_
  show own_Go _ _ _ _ (T4.setTop (mkF m 11 #[.val (.ref r0), .val (.ref r1)] [(.ref r1), (.int (0 : Int32))]))
  refine own_callV A5 hx hZ (y := (⟨"java/lang/AbstractStringBuilder", "getCoder", "()B"⟩ : MethodName)) (z := (⟨"java/lang/AbstractStringBuilder", "getCoder", "()B"⟩ : MethodName)) hown (hw _ (List.mem_of_getElem? (i := 189) rfl)) (hw _ (List.mem_of_getElem? (i := 190) rfl)) (hw _ (List.mem_of_getElem? (i := 192) rfl)) (hw _ (List.mem_of_getElem? (i := 191) rfl)) (hw _ (List.mem_of_getElem? (i := 22) rfl)) (hw _ (List.mem_of_getElem? (i := 193) rfl)) (notFace_of_selects (args := #[]) (mvT hZ (hw _ (List.mem_of_getElem? (i := 192) rfl)))) (by decide) (b := r1) (argsL := []) (rest := [(.int (0 : Int32))]) E1 (rm32 l Z a0 hw r1 z_C h0 n0 S_C0 hz F1c) 1 (by decide) (by decide) rfl (by rw [hml]; rfl) (lenOf pd___B rfl) rfl (by show 2 * 0 + _ ≤ _; exact Nat.le_of_eq rfl) (hb hby d31_11) (by decide) (by decide) (fun v9 T6 h8 A7 hQ10 => ?_)
  obtain ⟨rfl, rfl⟩ := hQ10
  show own_Go _ _ _ _ (T6.setTop (mkF m 14 #[.val (.ref r0), .val (.ref r1)] [(.int (0 : Int32)), (.int (0 : Int32))]))
  have hc11 : (0 : Int32) = (0 : Int32) := (by decide)
  refine own_go (fun t_ k_ => XS.icmpYes A7.here hx rfl (pc0 := 14) (pc' := 21) rfl (hb hby d31_14) rfl (teq hc11).1 (by decide) (by decide) k_) ?_
  show own_Go _ _ _ _ (T6.setTop (mkF m 21 #[.val (.ref r0), .val (.ref r1)] []))
  refine own_retV A7 hx hret hlk (by decide) (by decide) (hb hby d31_21) ?_
  exact ⟨rfl, rfl⟩
theorem ef_33 (m : MethodId) (r0 : Addr) (r1 : Addr) (y2 : Int32) (y3 : Int32) : entryFrame m #[(.ref r0), (.ref r1), (.int y2), (.int y3)] 4 = mkF m 0 #[.val (.ref r0), .val (.ref r1), .val (.int y2), .val (.int y3)] [] := by first | (simp [entryFrame, mkF, argsToLocals, Value.category]; done) | rfl
theorem d33_0 : decode jdk_68_method_65_code 0 = .ok (.aload_n 0, 1) := by decide +kernel
theorem d33_1 : decode jdk_68_method_65_code 1 = .ok (.getfield 22, 3) := by decide +kernel
theorem d33_4 : decode jdk_68_method_65_code 4 = .ok (.iload_n 3, 1) := by decide +kernel
theorem d33_5 : decode jdk_68_method_65_code 5 = .ok (.if_icmp .ne 24, 3) := by decide +kernel
theorem d33_8 : decode jdk_68_method_65_code 8 = .ok (.aload_n 0, 1) := by decide +kernel
theorem d33_9 : decode jdk_68_method_65_code 9 = .ok (.getfield 15, 3) := by decide +kernel
theorem d33_12 : decode jdk_68_method_65_code 12 = .ok (.iconst 0, 1) := by decide +kernel
theorem d33_13 : decode jdk_68_method_65_code 13 = .ok (.aload_n 1, 1) := by decide +kernel
theorem d33_14 : decode jdk_68_method_65_code 14 = .ok (.iload_n 2, 1) := by decide +kernel
theorem d33_15 : decode jdk_68_method_65_code 15 = .ok (.iload_n 3, 1) := by decide +kernel
theorem d33_16 : decode jdk_68_method_65_code 16 = .ok (.ishl, 1) := by decide +kernel
theorem d33_17 : decode jdk_68_method_65_code 17 = .ok (.aload_n 0, 1) := by decide +kernel
theorem d33_18 : decode jdk_68_method_65_code 18 = .ok (.getfield 79, 3) := by decide +kernel
theorem d33_21 : decode jdk_68_method_65_code 21 = .ok (.iload_n 3, 1) := by decide +kernel
theorem d33_22 : decode jdk_68_method_65_code 22 = .ok (.ishl, 1) := by decide +kernel
theorem d33_23 : decode jdk_68_method_65_code 23 = .ok (.invokestatic 309, 3) := by decide +kernel
theorem d33_26 : decode jdk_68_method_65_code 26 = .ok (.goto 17, 3) := by decide +kernel
theorem d33_43 : decode jdk_68_method_65_code 43 = .ok (.return_, 1) := by decide +kernel
set_option maxRecDepth 65536 in
set_option maxHeartbeats 40000000 in
theorem rm33 (l : Launch) (Z : State) (a0 : Array Value) (hw : ∀ d ∈ tables_1, d.before a0 Z = true) (r0 : Addr) (r1 : Addr) (t0 : Addr) (f : Int32 → Int32) (xs : List Int32) (g : Int32 → Int32) (dp : Nat) (cap : Nat) (c1 : Nat) (h0 : Heap) (n0 : Nat) (E1 : Exa Z h0 r0 "java/lang/StringBuilder") (F1v : Fld Z h0 r0 "java/lang/AbstractStringBuilder" "value" "[B" (.ref t0)) (F1c : Fld Z h0 r0 "java/lang/AbstractStringBuilder" "coder" "B" (.int (0 : Int32))) (F1n : Fld Z h0 r0 "java/lang/AbstractStringBuilder" "count" "I" (.int (Int32.ofNat xs.length))) (F1m : Fld Z h0 r0 "java/lang/AbstractStringBuilder" "maybeLatin1" "Z" (.int (0 : Int32))) (V1 : own_Arr Z h0 t0 .byte (Int32.ofNat c1) f) (h1b : c1 < 2 ^ 29) (h1x : xs.length ≤ c1) (Bs : own_Byt f c1) (Vb : own_Arr Z h0 r1 .byte (Int32.ofNat cap) g) (g1 : n0 ≤ r1) (ne_t0_r1 : t0 ≠ r1) (ne_r0_r1 : r0 ≠ r1) (Bb : own_Byt g cap) (hfit : dp + xs.length ≤ cap) (hcb : cap < 2 ^ 29) :
    own_Met l Z n0 (⟨"java/lang/AbstractStringBuilder", "getBytes", "([BIB)V"⟩ : MethodName) jdk_68_method_65_code 4 none ({ frames := 1, cells := 0, slots := 0, locals := 40 } : Room) #[(.ref r0), (.ref r1), (.int (Int32.ofNat dp)), (.int (0 : Int32))] h0 (fun v h => v = none ∧ Keep h0 h [r1] ∧ own_Arr Z h r1 .byte (Int32.ofNat cap) (own_cpf f 0 dp xs.length g)) := by
  refine own_met (plainFor_of_name pn_10) ?_
  intro p e s m below meth c T0 hx hby hml hown hnm hret hlk hZ A0
  rw [ef_33]
  show own_Go _ _ _ _ (T0.setTop (mkF m 0 #[.val (.ref r0), .val (.ref r1), .val (.int (Int32.ofNat dp)), .val (.int (0 : Int32))] []))
  refine own_go (fun t_ k_ => XS.aloadN A0.here hx rfl (hb hby d33_0) rfl rfl k_) ?_
  show own_Go _ _ _ _ (T0.setTop (mkF m 1 #[.val (.ref r0), .val (.ref r1), .val (.int (Int32.ofNat dp)), .val (.int (0 : Int32))] [(.ref r0)]))
  refine own_getF A0 hx hZ hown (host := "") (Or.inl (hw _ (List.mem_of_getElem? (i := 42) rfl))) Via.refl F1c rfl rfl (hb hby d33_1) (fun T1 A2 => ?_)
  show own_Go _ _ _ _ (T1.setTop (mkF m 4 #[.val (.ref r0), .val (.ref r1), .val (.int (Int32.ofNat dp)), .val (.int (0 : Int32))] [(.int (0 : Int32))]))
  refine own_go (fun t_ k_ => XS.iloadN A2.here hx rfl (hb hby d33_4) rfl k_) ?_
  show own_Go _ _ _ _ (T1.setTop (mkF m 5 #[.val (.ref r0), .val (.ref r1), .val (.int (Int32.ofNat dp)), .val (.int (0 : Int32))] [(.int (0 : Int32)), (.int (0 : Int32))]))
  have hc3 : (0 : Int32) = (0 : Int32) := (by decide)
  refine own_go (fun t_ k_ => XS.icmpNo A2.here hx rfl (hb hby d33_5) rfl (teq hc3).2 k_) ?_
  show own_Go _ _ _ _ (T1.setTop (mkF m 8 #[.val (.ref r0), .val (.ref r1), .val (.int (Int32.ofNat dp)), .val (.int (0 : Int32))] []))
  refine own_go (fun t_ k_ => XS.aloadN A2.here hx rfl (hb hby d33_8) rfl rfl k_) ?_
  show own_Go _ _ _ _ (T1.setTop (mkF m 9 #[.val (.ref r0), .val (.ref r1), .val (.int (Int32.ofNat dp)), .val (.int (0 : Int32))] [(.ref r0)]))
  refine own_getF A2 hx hZ hown (host := "") (Or.inl (hw _ (List.mem_of_getElem? (i := 44) rfl))) Via.refl F1v rfl rfl (hb hby d33_9) (fun T4 A5 => ?_)
  show own_Go _ _ _ _ (T4.setTop (mkF m 12 #[.val (.ref r0), .val (.ref r1), .val (.int (Int32.ofNat dp)), .val (.int (0 : Int32))] [(.ref t0)]))
  refine own_go (fun t_ k_ => XS.iconst A5.here hx rfl (hb hby d33_12) k_) ?_
  show own_Go _ _ _ _ (T4.setTop (mkF m 13 #[.val (.ref r0), .val (.ref r1), .val (.int (Int32.ofNat dp)), .val (.int (0 : Int32))] [(.int (0 : Int32)), (.ref t0)]))
  refine own_go (fun t_ k_ => XS.aloadN A5.here hx rfl (hb hby d33_13) rfl rfl k_) ?_
  show own_Go _ _ _ _ (T4.setTop (mkF m 14 #[.val (.ref r0), .val (.ref r1), .val (.int (Int32.ofNat dp)), .val (.int (0 : Int32))] [(.ref r1), (.int (0 : Int32)), (.ref t0)]))
  refine own_go (fun t_ k_ => XS.iloadN A5.here hx rfl (hb hby d33_14) rfl k_) ?_
  show own_Go _ _ _ _ (T4.setTop (mkF m 15 #[.val (.ref r0), .val (.ref r1), .val (.int (Int32.ofNat dp)), .val (.int (0 : Int32))] [(.int (Int32.ofNat dp)), (.ref r1), (.int (0 : Int32)), (.ref t0)]))
  refine own_go (fun t_ k_ => XS.iloadN A5.here hx rfl (hb hby d33_15) rfl k_) ?_
  show own_Go _ _ _ _ (T4.setTop (mkF m 16 #[.val (.ref r0), .val (.ref r1), .val (.int (Int32.ofNat dp)), .val (.int (0 : Int32))] [(.int (0 : Int32)), (.int (Int32.ofNat dp)), (.ref r1), (.int (0 : Int32)), (.ref t0)]))
  refine own_go (fun t_ k_ => XS.ishl A5.here hx rfl (hb hby d33_16) rfl k_) ?_
  show own_Go _ _ _ _ (T4.setTop (mkF m 17 #[.val (.ref r0), .val (.ref r1), .val (.int (Int32.ofNat dp)), .val (.int (0 : Int32))] [(.int ((Int32.ofNat dp) <<< ((0 : Int32) &&& 31))), (.ref r1), (.int (0 : Int32)), (.ref t0)]))
  rw [own_shl0]
  show own_Go _ _ _ _ (T4.setTop (mkF m 17 #[.val (.ref r0), .val (.ref r1), .val (.int (Int32.ofNat dp)), .val (.int (0 : Int32))] [(.int (Int32.ofNat dp)), (.ref r1), (.int (0 : Int32)), (.ref t0)]))
  refine own_go (fun t_ k_ => XS.aloadN A5.here hx rfl (hb hby d33_17) rfl rfl k_) ?_
  show own_Go _ _ _ _ (T4.setTop (mkF m 18 #[.val (.ref r0), .val (.ref r1), .val (.int (Int32.ofNat dp)), .val (.int (0 : Int32))] [(.ref r0), (.int (Int32.ofNat dp)), (.ref r1), (.int (0 : Int32)), (.ref t0)]))
  refine own_getF A5 hx hZ hown (host := "") (Or.inl (hw _ (List.mem_of_getElem? (i := 60) rfl))) Via.refl F1n rfl rfl (hb hby d33_18) (fun T6 A7 => ?_)
  show own_Go _ _ _ _ (T6.setTop (mkF m 21 #[.val (.ref r0), .val (.ref r1), .val (.int (Int32.ofNat dp)), .val (.int (0 : Int32))] [(.int (Int32.ofNat xs.length)), (.int (Int32.ofNat dp)), (.ref r1), (.int (0 : Int32)), (.ref t0)]))
  refine own_go (fun t_ k_ => XS.iloadN A7.here hx rfl (hb hby d33_21) rfl k_) ?_
  show own_Go _ _ _ _ (T6.setTop (mkF m 22 #[.val (.ref r0), .val (.ref r1), .val (.int (Int32.ofNat dp)), .val (.int (0 : Int32))] [(.int (0 : Int32)), (.int (Int32.ofNat xs.length)), (.int (Int32.ofNat dp)), (.ref r1), (.int (0 : Int32)), (.ref t0)]))
  refine own_go (fun t_ k_ => XS.ishl A7.here hx rfl (hb hby d33_22) rfl k_) ?_
  show own_Go _ _ _ _ (T6.setTop (mkF m 23 #[.val (.ref r0), .val (.ref r1), .val (.int (Int32.ofNat dp)), .val (.int (0 : Int32))] [(.int ((Int32.ofNat xs.length) <<< ((0 : Int32) &&& 31))), (.int (Int32.ofNat dp)), (.ref r1), (.int (0 : Int32)), (.ref t0)]))
  rw [own_shl0]
  show own_Go _ _ _ _ (T6.setTop (mkF m 23 #[.val (.ref r0), .val (.ref r1), .val (.int (Int32.ofNat dp)), .val (.int (0 : Int32))] [(.int (Int32.ofNat xs.length)), (.int (Int32.ofNat dp)), (.ref r1), (.int (0 : Int32)), (.ref t0)]))
  refine own_cpL A7 hx hZ hown (hw _ (List.mem_of_getElem? (i := 199) rfl)) (hw _ (List.mem_of_getElem? (i := 86) rfl)) (hw _ (List.mem_of_getElem? (i := 84) rfl)) (hw _ (List.mem_of_getElem? (i := 85) rfl)) (na := c1) (nb := cap) (sp := 0) (dp := dp) (nn := xs.length) V1 Vb (by omega) (by omega) Bs Bb (by omega) hfit g1 rfl (by rw [hml]; rfl) (rest := []) rfl (hb hby d33_23) (by decide) 0 (by show 2 * 0 + _ ≤ _; exact Nat.le_of_eq rfl) (by decide +kernel) (fun T8 h10 A9 K11 V12 => ?_)
  have E13 : Exa Z h10 r0 "java/lang/StringBuilder" := E1.keep K11
  have F14 : Fld Z h10 r0 "java/lang/AbstractStringBuilder" "value" "[B" (.ref t0) := F1v.keep K11 (ninS ne_r0_r1 nin0)
  have F15 : Fld Z h10 r0 "java/lang/AbstractStringBuilder" "coder" "B" (.int (0 : Int32)) := F1c.keep K11 (ninS ne_r0_r1 nin0)
  have F16 : Fld Z h10 r0 "java/lang/AbstractStringBuilder" "count" "I" (.int (Int32.ofNat xs.length)) := F1n.keep K11 (ninS ne_r0_r1 nin0)
  have F17 : Fld Z h10 r0 "java/lang/AbstractStringBuilder" "maybeLatin1" "Z" (.int (0 : Int32)) := F1m.keep K11 (ninS ne_r0_r1 nin0)
  have V18 : own_Arr Z h10 t0 .byte (Int32.ofNat c1) f := V1.keep K11 (ninS ne_t0_r1 nin0)
  have K19 : Keep h0 h10 [r1] := (Keep.refl h0 [r1]).trans K11 (allS (Or.inl (List.mem_of_getElem? (i := 0) rfl)) all0)
  show own_Go _ _ _ _ (T8.setTop (mkF m 26 #[.val (.ref r0), .val (.ref r1), .val (.int (Int32.ofNat dp)), .val (.int (0 : Int32))] []))
  refine own_go (fun t_ k_ => XS.goto A9.here hx rfl (pc0 := 26) (pc' := 43) rfl (hb hby d33_26) (by decide) (by decide) k_) ?_
  show own_Go _ _ _ _ (T8.setTop (mkF m 43 #[.val (.ref r0), .val (.ref r1), .val (.int (Int32.ofNat dp)), .val (.int (0 : Int32))] []))
  refine own_retV A9 hx hret hlk (by decide) (by decide) (hb hby d33_43) ?_
  exact ⟨rfl, K19, V12⟩
theorem ef_30 (m : MethodId) (r0 : Addr) (r1 : Addr) : entryFrame m #[(.ref r0), (.ref r1)] 3 = mkF m 0 #[.val (.ref r0), .val (.ref r1), .unset] [] := by first | (simp [entryFrame, mkF, argsToLocals, Value.category]; done) | rfl
theorem d30_0 : decode jdk_68_method_24_code 0 = .ok (.aload_n 1, 1) := by decide +kernel
theorem d30_1 : decode jdk_68_method_24_code 1 = .ok (.ifnonnull 8, 3) := by decide +kernel
theorem d30_9 : decode jdk_68_method_24_code 9 = .ok (.aload_n 1, 1) := by decide +kernel
theorem d30_10 : decode jdk_68_method_24_code 10 = .ok (.invokevirtual 160, 3) := by decide +kernel
theorem d30_13 : decode jdk_68_method_24_code 13 = .ok (.istore_n 2, 1) := by decide +kernel
theorem d30_14 : decode jdk_68_method_24_code 14 = .ok (.aload_n 0, 1) := by decide +kernel
theorem d30_15 : decode jdk_68_method_24_code 15 = .ok (.aload_n 0, 1) := by decide +kernel
theorem d30_16 : decode jdk_68_method_24_code 16 = .ok (.getfield 79, 3) := by decide +kernel
theorem d30_19 : decode jdk_68_method_24_code 19 = .ok (.iload_n 2, 1) := by decide +kernel
theorem d30_20 : decode jdk_68_method_24_code 20 = .ok (.iadd, 1) := by decide +kernel
theorem d30_21 : decode jdk_68_method_24_code 21 = .ok (.invokevirtual 100, 3) := by decide +kernel
theorem d30_24 : decode jdk_68_method_24_code 24 = .ok (.aload_n 0, 1) := by decide +kernel
theorem d30_25 : decode jdk_68_method_24_code 25 = .ok (.aload_n 1, 1) := by decide +kernel
theorem d30_26 : decode jdk_68_method_24_code 26 = .ok (.invokevirtual 215, 3) := by decide +kernel
theorem pd__Ljava_lang_AbstractStringBuilder__V : parseMethodDescriptor "(Ljava/lang/AbstractStringBuilder;)V" = some ⟨[(.object "java/lang/AbstractStringBuilder")], none⟩ := by decide +kernel
theorem d30_29 : decode jdk_68_method_24_code 29 = .ok (.aload_n 1, 1) := by decide +kernel
theorem d30_30 : decode jdk_68_method_24_code 30 = .ok (.aload_n 0, 1) := by decide +kernel
theorem d30_31 : decode jdk_68_method_24_code 31 = .ok (.getfield 15, 3) := by decide +kernel
theorem d30_34 : decode jdk_68_method_24_code 34 = .ok (.aload_n 0, 1) := by decide +kernel
theorem d30_35 : decode jdk_68_method_24_code 35 = .ok (.getfield 79, 3) := by decide +kernel
theorem d30_38 : decode jdk_68_method_24_code 38 = .ok (.aload_n 0, 1) := by decide +kernel
theorem d30_39 : decode jdk_68_method_24_code 39 = .ok (.getfield 22, 3) := by decide +kernel
theorem d30_42 : decode jdk_68_method_24_code 42 = .ok (.invokevirtual 219, 3) := by decide +kernel
theorem d30_45 : decode jdk_68_method_24_code 45 = .ok (.aload_n 0, 1) := by decide +kernel
theorem d30_46 : decode jdk_68_method_24_code 46 = .ok (.dup, 1) := by decide +kernel
theorem d30_47 : decode jdk_68_method_24_code 47 = .ok (.getfield 79, 3) := by decide +kernel
theorem d30_50 : decode jdk_68_method_24_code 50 = .ok (.iload_n 2, 1) := by decide +kernel
theorem d30_51 : decode jdk_68_method_24_code 51 = .ok (.iadd, 1) := by decide +kernel
theorem d30_52 : decode jdk_68_method_24_code 52 = .ok (.putfield 79, 3) := by decide +kernel
theorem d30_55 : decode jdk_68_method_24_code 55 = .ok (.aload_n 0, 1) := by decide +kernel
theorem d30_56 : decode jdk_68_method_24_code 56 = .ok (.dup, 1) := by decide +kernel
theorem d30_57 : decode jdk_68_method_24_code 57 = .ok (.getfield 73, 3) := by decide +kernel
theorem d30_60 : decode jdk_68_method_24_code 60 = .ok (.aload_n 1, 1) := by decide +kernel
theorem d30_61 : decode jdk_68_method_24_code 61 = .ok (.getfield 73, 3) := by decide +kernel
theorem d30_64 : decode jdk_68_method_24_code 64 = .ok (.ior, 1) := by decide +kernel
theorem d30_65 : decode jdk_68_method_24_code 65 = .ok (.putfield 73, 3) := by decide +kernel
theorem d30_68 : decode jdk_68_method_24_code 68 = .ok (.aload_n 0, 1) := by decide +kernel
theorem d30_69 : decode jdk_68_method_24_code 69 = .ok (.areturn, 1) := by decide +kernel
set_option maxRecDepth 65536 in
set_option maxHeartbeats 40000000 in
theorem rm30 (l : Launch) (Z : State) (a0 : Array Value) (hw : ∀ d ∈ tables_1, d.before a0 Z = true) (r0 : Addr) (r1 : Addr) (z_C : Int32) (t0 : Addr) (f : Int32 → Int32) (xs : List Int32) (g : Int32 → Int32) (dp : Nat) (cap : Nat) (c1 : Nat) (v0 : Addr) (h0 : Heap) (n0 : Nat) (S_C0 : Sta Z h0 "java/lang/String" "COMPACT_STRINGS" "Z" (.int z_C)) (hz : ¬ z_C = 0) (Eb : Exa Z h0 r0 "java/lang/StringBuilder") (Fbv : Fld Z h0 r0 "java/lang/AbstractStringBuilder" "value" "[B" (.ref v0)) (Fbc : Fld Z h0 r0 "java/lang/AbstractStringBuilder" "coder" "B" (.int (0 : Int32))) (Fbn : Fld Z h0 r0 "java/lang/AbstractStringBuilder" "count" "I" (.int (Int32.ofNat dp))) (Fbm : Fld Z h0 r0 "java/lang/AbstractStringBuilder" "maybeLatin1" "Z" (.int (0 : Int32))) (Vb : own_Arr Z h0 v0 .byte (Int32.ofNat cap) g) (hcb : cap < 2 ^ 29) (E1 : Exa Z h0 r1 "java/lang/StringBuilder") (F1v : Fld Z h0 r1 "java/lang/AbstractStringBuilder" "value" "[B" (.ref t0)) (F1c : Fld Z h0 r1 "java/lang/AbstractStringBuilder" "coder" "B" (.int (0 : Int32))) (F1n : Fld Z h0 r1 "java/lang/AbstractStringBuilder" "count" "I" (.int (Int32.ofNat xs.length))) (F1m : Fld Z h0 r1 "java/lang/AbstractStringBuilder" "maybeLatin1" "Z" (.int (0 : Int32))) (V1 : own_Arr Z h0 t0 .byte (Int32.ofNat c1) f) (h1b : c1 < 2 ^ 29) (h1x : xs.length ≤ c1) (Bs : own_Byt f c1) (gv : n0 ≤ v0) (g0 : n0 ≤ r0) (ne_v0_r0 : v0 ≠ r0) (ne_v0_r1 : v0 ≠ r1) (ne_v0_t0 : v0 ≠ t0) (ne_r0_r1 : r0 ≠ r1) (ne_r0_t0 : r0 ≠ t0) (Bb : own_Byt g cap) (hfit : dp + xs.length ≤ cap) :
    own_Met l Z n0 (⟨"java/lang/AbstractStringBuilder", "append", "(Ljava/lang/AbstractStringBuilder;)Ljava/lang/AbstractStringBuilder;"⟩ : MethodName) jdk_68_method_24_code 3 (some (.object "java/lang/AbstractStringBuilder")) ({ frames := 2, cells := 0, slots := 0, locals := 55 } : Room) #[(.ref r0), (.ref r1)] h0 (fun v h => v = some (.ref r0) ∧ Keep h0 h [r0, v0] ∧ Fld Z h r0 "java/lang/AbstractStringBuilder" "value" "[B" (.ref v0) ∧ Fld Z h r0 "java/lang/AbstractStringBuilder" "coder" "B" (.int (0 : Int32)) ∧ Fld Z h r0 "java/lang/AbstractStringBuilder" "count" "I" (.int (Int32.ofNat (dp + xs.length))) ∧ Fld Z h r0 "java/lang/AbstractStringBuilder" "maybeLatin1" "Z" (.int (0 : Int32)) ∧ own_Arr Z h v0 .byte (Int32.ofNat cap) (own_cpf f 0 dp xs.length g)) := by
  refine own_met (plainFor_of_name pn_10) ?_
  intro p e s m below meth c T0 hx hby hml hown hnm hret hlk hZ A0
  rw [ef_30]
  show own_Go _ _ _ _ (T0.setTop (mkF m 0 #[.val (.ref r0), .val (.ref r1), .unset] []))
  refine own_go (fun t_ k_ => XS.aloadN A0.here hx rfl (hb hby d30_0) rfl rfl k_) ?_
  show own_Go _ _ _ _ (T0.setTop (mkF m 1 #[.val (.ref r0), .val (.ref r1), .unset] [(.ref r1)]))
  refine own_go (fun t_ k_ => XS.ifnonnullYes A0.here hx rfl (pc0 := 1) (pc' := 9) rfl (hb hby d30_1) rfl (by decide) (by decide) k_) ?_
  show own_Go _ _ _ _ (T0.setTop (mkF m 9 #[.val (.ref r0), .val (.ref r1), .unset] []))
  refine own_go (fun t_ k_ => XS.aloadN A0.here hx rfl (hb hby d30_9) rfl rfl k_) ?_
  show own_Go _ _ _ _ (T0.setTop (mkF m 10 #[.val (.ref r0), .val (.ref r1), .unset] [(.ref r1)]))
  refine own_callV A0 hx hZ (y := (⟨"java/lang/AbstractStringBuilder", "length", "()I"⟩ : MethodName)) (z := (⟨"java/lang/StringBuilder", "length", "()I"⟩ : MethodName)) hown (hw _ (List.mem_of_getElem? (i := 183) rfl)) (hw _ (List.mem_of_getElem? (i := 114) rfl)) (hw _ (List.mem_of_getElem? (i := 143) rfl)) (hw _ (List.mem_of_getElem? (i := 109) rfl)) (hw _ (List.mem_of_getElem? (i := 6) rfl)) (hw _ (List.mem_of_getElem? (i := 111) rfl)) (own_notFace (args := #[]) (mvT hZ (hw _ (List.mem_of_getElem? (i := 65) rfl))) rfl) (by decide) (b := r1) (argsL := []) (rest := []) E1 (rm18 l Z a0 hw r1 (Int32.ofNat xs.length) h0 n0 E1 F1n) 0 (by decide) (by decide) rfl (by rw [hml]; rfl) (lenOf pd___I rfl) rfl (by show 2 * 0 + _ ≤ _; exact Nat.le_of_eq rfl) (hb hby d30_10) (by decide) (by decide) (fun v4 T1 h3 A2 hQ5 => ?_)
  obtain ⟨rfl, rfl⟩ := hQ5
  show own_Go _ _ _ _ (T1.setTop (mkF m 13 #[.val (.ref r0), .val (.ref r1), .unset] [(.int (Int32.ofNat xs.length))]))
  refine own_go (fun t_ k_ => XS.istoreN A2.here hx rfl (hb hby d30_13) rfl (l' := #[.val (.ref r0), .val (.ref r1), .val (.int (Int32.ofNat xs.length))]) rfl k_) ?_
  show own_Go _ _ _ _ (T1.setTop (mkF m 14 #[.val (.ref r0), .val (.ref r1), .val (.int (Int32.ofNat xs.length))] []))
  refine own_go (fun t_ k_ => XS.aloadN A2.here hx rfl (hb hby d30_14) rfl rfl k_) ?_
  show own_Go _ _ _ _ (T1.setTop (mkF m 15 #[.val (.ref r0), .val (.ref r1), .val (.int (Int32.ofNat xs.length))] [(.ref r0)]))
  refine own_go (fun t_ k_ => XS.aloadN A2.here hx rfl (hb hby d30_15) rfl rfl k_) ?_
  show own_Go _ _ _ _ (T1.setTop (mkF m 16 #[.val (.ref r0), .val (.ref r1), .val (.int (Int32.ofNat xs.length))] [(.ref r0), (.ref r0)]))
  refine own_getF A2 hx hZ hown (host := "") (Or.inl (hw _ (List.mem_of_getElem? (i := 60) rfl))) Via.refl Fbn rfl rfl (hb hby d30_16) (fun T6 A7 => ?_)
  show own_Go _ _ _ _ (T6.setTop (mkF m 19 #[.val (.ref r0), .val (.ref r1), .val (.int (Int32.ofNat xs.length))] [(.int (Int32.ofNat dp)), (.ref r0)]))
  refine own_go (fun t_ k_ => XS.iloadN A7.here hx rfl (hb hby d30_19) rfl k_) ?_
  show own_Go _ _ _ _ (T6.setTop (mkF m 20 #[.val (.ref r0), .val (.ref r1), .val (.int (Int32.ofNat xs.length))] [(.int (Int32.ofNat xs.length)), (.int (Int32.ofNat dp)), (.ref r0)]))
  refine own_go (fun t_ k_ => XS.iadd A7.here hx rfl (hb hby d30_20) rfl k_) ?_
  show own_Go _ _ _ _ (T6.setTop (mkF m 21 #[.val (.ref r0), .val (.ref r1), .val (.int (Int32.ofNat xs.length))] [(.int ((Int32.ofNat dp) + (Int32.ofNat xs.length))), (.ref r0)]))
  rw [own_nadd]
  show own_Go _ _ _ _ (T6.setTop (mkF m 21 #[.val (.ref r0), .val (.ref r1), .val (.int (Int32.ofNat xs.length))] [(.int (Int32.ofNat (dp + xs.length))), (.ref r0)]))
  refine own_callP A7 hx hZ (y := (⟨"java/lang/AbstractStringBuilder", "ensureCapacityInternal", "(I)V"⟩ : MethodName)) hown (hw _ (List.mem_of_getElem? (i := 62) rfl)) (hw _ (List.mem_of_getElem? (i := 63) rfl)) (hw _ (List.mem_of_getElem? (i := 64) rfl)) (hw _ (List.mem_of_getElem? (i := 65) rfl)) rfl (hw _ (List.mem_of_getElem? (i := 22) rfl)) (hw _ (List.mem_of_getElem? (i := 66) rfl)) (by decide) (b := r0) (argsL := [(.int (Int32.ofNat (dp + xs.length)))]) (rest := []) Eb (rm10 l Z a0 hw r0 (Int32.ofNat (dp + xs.length)) v0 g (Int32.ofNat dp) cap h0 n0 Eb Fbv Fbc Fbn Fbm Vb hcb (own_cap16 dp xs.length cap hfit hcb)) 0 (by decide) (by decide) rfl (by rw [hml]; rfl) (lenOf pd__I_V rfl) rfl (by show 2 * 0 + _ ≤ _; exact Nat.le_of_eq rfl) (hb hby d30_21) (by decide) (by decide) (fun v11 T8 h10 A9 hQ12 => ?_)
  obtain ⟨rfl, rfl⟩ := hQ12
  show own_Go _ _ _ _ (T8.setTop (mkF m 24 #[.val (.ref r0), .val (.ref r1), .val (.int (Int32.ofNat xs.length))] []))
  refine own_go (fun t_ k_ => XS.aloadN A9.here hx rfl (hb hby d30_24) rfl rfl k_) ?_
  show own_Go _ _ _ _ (T8.setTop (mkF m 25 #[.val (.ref r0), .val (.ref r1), .val (.int (Int32.ofNat xs.length))] [(.ref r0)]))
  refine own_go (fun t_ k_ => XS.aloadN A9.here hx rfl (hb hby d30_25) rfl rfl k_) ?_
  show own_Go _ _ _ _ (T8.setTop (mkF m 26 #[.val (.ref r0), .val (.ref r1), .val (.int (Int32.ofNat xs.length))] [(.ref r1), (.ref r0)]))
  refine own_callP A9 hx hZ (y := (⟨"java/lang/AbstractStringBuilder", "inflateIfNeededFor", "(Ljava/lang/AbstractStringBuilder;)V"⟩ : MethodName)) hown (hw _ (List.mem_of_getElem? (i := 184) rfl)) (hw _ (List.mem_of_getElem? (i := 185) rfl)) (hw _ (List.mem_of_getElem? (i := 186) rfl)) (hw _ (List.mem_of_getElem? (i := 65) rfl)) rfl (hw _ (List.mem_of_getElem? (i := 22) rfl)) (hw _ (List.mem_of_getElem? (i := 188) rfl)) (by decide) (b := r0) (argsL := [(.ref r1)]) (rest := []) Eb (rm31 l Z a0 hw r0 r1 z_C h0 n0 S_C0 hz Fbc E1 F1c) 0 (by decide) (by decide) rfl (by rw [hml]; rfl) (lenOf pd__Ljava_lang_AbstractStringBuilder__V rfl) rfl (by show 2 * 0 + _ ≤ _; exact Nat.le_of_eq rfl) (hb hby d30_26) (by decide) (by decide) (fun v16 T13 h15 A14 hQ17 => ?_)
  obtain ⟨rfl, rfl⟩ := hQ17
  show own_Go _ _ _ _ (T13.setTop (mkF m 29 #[.val (.ref r0), .val (.ref r1), .val (.int (Int32.ofNat xs.length))] []))
  refine own_go (fun t_ k_ => XS.aloadN A14.here hx rfl (hb hby d30_29) rfl rfl k_) ?_
  show own_Go _ _ _ _ (T13.setTop (mkF m 30 #[.val (.ref r0), .val (.ref r1), .val (.int (Int32.ofNat xs.length))] [(.ref r1)]))
  refine own_go (fun t_ k_ => XS.aloadN A14.here hx rfl (hb hby d30_30) rfl rfl k_) ?_
  show own_Go _ _ _ _ (T13.setTop (mkF m 31 #[.val (.ref r0), .val (.ref r1), .val (.int (Int32.ofNat xs.length))] [(.ref r0), (.ref r1)]))
  refine own_getF A14 hx hZ hown (host := "") (Or.inl (hw _ (List.mem_of_getElem? (i := 44) rfl))) Via.refl Fbv rfl rfl (hb hby d30_31) (fun T18 A19 => ?_)
  show own_Go _ _ _ _ (T18.setTop (mkF m 34 #[.val (.ref r0), .val (.ref r1), .val (.int (Int32.ofNat xs.length))] [(.ref v0), (.ref r1)]))
  refine own_go (fun t_ k_ => XS.aloadN A19.here hx rfl (hb hby d30_34) rfl rfl k_) ?_
  show own_Go _ _ _ _ (T18.setTop (mkF m 35 #[.val (.ref r0), .val (.ref r1), .val (.int (Int32.ofNat xs.length))] [(.ref r0), (.ref v0), (.ref r1)]))
  refine own_getF A19 hx hZ hown (host := "") (Or.inl (hw _ (List.mem_of_getElem? (i := 60) rfl))) Via.refl Fbn rfl rfl (hb hby d30_35) (fun T20 A21 => ?_)
  show own_Go _ _ _ _ (T20.setTop (mkF m 38 #[.val (.ref r0), .val (.ref r1), .val (.int (Int32.ofNat xs.length))] [(.int (Int32.ofNat dp)), (.ref v0), (.ref r1)]))
  refine own_go (fun t_ k_ => XS.aloadN A21.here hx rfl (hb hby d30_38) rfl rfl k_) ?_
  show own_Go _ _ _ _ (T20.setTop (mkF m 39 #[.val (.ref r0), .val (.ref r1), .val (.int (Int32.ofNat xs.length))] [(.ref r0), (.int (Int32.ofNat dp)), (.ref v0), (.ref r1)]))
  refine own_getF A21 hx hZ hown (host := "") (Or.inl (hw _ (List.mem_of_getElem? (i := 42) rfl))) Via.refl Fbc rfl rfl (hb hby d30_39) (fun T22 A23 => ?_)
  show own_Go _ _ _ _ (T22.setTop (mkF m 42 #[.val (.ref r0), .val (.ref r1), .val (.int (Int32.ofNat xs.length))] [(.int (0 : Int32)), (.int (Int32.ofNat dp)), (.ref v0), (.ref r1)]))
  refine own_callV A23 hx hZ (y := (⟨"java/lang/AbstractStringBuilder", "getBytes", "([BIB)V"⟩ : MethodName)) (z := (⟨"java/lang/AbstractStringBuilder", "getBytes", "([BIB)V"⟩ : MethodName)) hown (hw _ (List.mem_of_getElem? (i := 194) rfl)) (hw _ (List.mem_of_getElem? (i := 195) rfl)) (hw _ (List.mem_of_getElem? (i := 197) rfl)) (hw _ (List.mem_of_getElem? (i := 196) rfl)) (hw _ (List.mem_of_getElem? (i := 22) rfl)) (hw _ (List.mem_of_getElem? (i := 198) rfl)) (notFace_of_selects (args := #[]) (mvT hZ (hw _ (List.mem_of_getElem? (i := 197) rfl)))) (by decide) (b := r1) (argsL := [(.ref v0), (.int (Int32.ofNat dp)), (.int (0 : Int32))]) (rest := []) E1 (rm33 l Z a0 hw r1 v0 t0 f xs g dp cap c1 h0 n0 E1 F1v F1c F1n F1m V1 h1b h1x Bs Vb gv (Ne.symm ne_v0_t0) (Ne.symm ne_v0_r1) Bb hfit hcb) 0 (by decide) (by decide) rfl (by rw [hml]; rfl) (lenOf pd___BIB_V rfl) rfl (by show 2 * 0 + _ ≤ _; exact Nat.le_of_eq rfl) (hb hby d30_42) (by decide) (by decide) (fun v27 T24 h26 A25 hQ28 => ?_)
  obtain ⟨rfl, K29, V30⟩ := hQ28
  have E31 : Exa Z h26 r0 "java/lang/StringBuilder" := Eb.keep K29
  have F32 : Fld Z h26 r0 "java/lang/AbstractStringBuilder" "value" "[B" (.ref v0) := Fbv.keep K29 (ninS (Ne.symm ne_v0_r0) nin0)
  have F33 : Fld Z h26 r0 "java/lang/AbstractStringBuilder" "coder" "B" (.int (0 : Int32)) := Fbc.keep K29 (ninS (Ne.symm ne_v0_r0) nin0)
  have F34 : Fld Z h26 r0 "java/lang/AbstractStringBuilder" "count" "I" (.int (Int32.ofNat dp)) := Fbn.keep K29 (ninS (Ne.symm ne_v0_r0) nin0)
  have F35 : Fld Z h26 r0 "java/lang/AbstractStringBuilder" "maybeLatin1" "Z" (.int (0 : Int32)) := Fbm.keep K29 (ninS (Ne.symm ne_v0_r0) nin0)
  have E36 : Exa Z h26 r1 "java/lang/StringBuilder" := E1.keep K29
  have F37 : Fld Z h26 r1 "java/lang/AbstractStringBuilder" "value" "[B" (.ref t0) := F1v.keep K29 (ninS (Ne.symm ne_v0_r1) nin0)
  have F38 : Fld Z h26 r1 "java/lang/AbstractStringBuilder" "coder" "B" (.int (0 : Int32)) := F1c.keep K29 (ninS (Ne.symm ne_v0_r1) nin0)
  have F39 : Fld Z h26 r1 "java/lang/AbstractStringBuilder" "count" "I" (.int (Int32.ofNat xs.length)) := F1n.keep K29 (ninS (Ne.symm ne_v0_r1) nin0)
  have F40 : Fld Z h26 r1 "java/lang/AbstractStringBuilder" "maybeLatin1" "Z" (.int (0 : Int32)) := F1m.keep K29 (ninS (Ne.symm ne_v0_r1) nin0)
  have V41 : own_Arr Z h26 t0 .byte (Int32.ofNat c1) f := V1.keep K29 (ninS (Ne.symm ne_v0_t0) nin0)
  have K42 : Keep h0 h26 [r0, v0] := (Keep.refl h0 [r0, v0]).trans K29 (allS (Or.inl (List.mem_of_getElem? (i := 1) rfl)) all0)
  show own_Go _ _ _ _ (T24.setTop (mkF m 45 #[.val (.ref r0), .val (.ref r1), .val (.int (Int32.ofNat xs.length))] []))
  refine own_go (fun t_ k_ => XS.aloadN A25.here hx rfl (hb hby d30_45) rfl rfl k_) ?_
  show own_Go _ _ _ _ (T24.setTop (mkF m 46 #[.val (.ref r0), .val (.ref r1), .val (.int (Int32.ofNat xs.length))] [(.ref r0)]))
  refine own_go (fun t_ k_ => XS.dup A25.here hx rfl (hb hby d30_46) rfl rfl k_) ?_
  show own_Go _ _ _ _ (T24.setTop (mkF m 47 #[.val (.ref r0), .val (.ref r1), .val (.int (Int32.ofNat xs.length))] [(.ref r0), (.ref r0)]))
  refine own_getF A25 hx hZ hown (host := "") (Or.inl (hw _ (List.mem_of_getElem? (i := 60) rfl))) Via.refl F34 rfl rfl (hb hby d30_47) (fun T43 A44 => ?_)
  show own_Go _ _ _ _ (T43.setTop (mkF m 50 #[.val (.ref r0), .val (.ref r1), .val (.int (Int32.ofNat xs.length))] [(.int (Int32.ofNat dp)), (.ref r0)]))
  refine own_go (fun t_ k_ => XS.iloadN A44.here hx rfl (hb hby d30_50) rfl k_) ?_
  show own_Go _ _ _ _ (T43.setTop (mkF m 51 #[.val (.ref r0), .val (.ref r1), .val (.int (Int32.ofNat xs.length))] [(.int (Int32.ofNat xs.length)), (.int (Int32.ofNat dp)), (.ref r0)]))
  refine own_go (fun t_ k_ => XS.iadd A44.here hx rfl (hb hby d30_51) rfl k_) ?_
  show own_Go _ _ _ _ (T43.setTop (mkF m 52 #[.val (.ref r0), .val (.ref r1), .val (.int (Int32.ofNat xs.length))] [(.int ((Int32.ofNat dp) + (Int32.ofNat xs.length))), (.ref r0)]))
  rw [own_nadd]
  show own_Go _ _ _ _ (T43.setTop (mkF m 52 #[.val (.ref r0), .val (.ref r1), .val (.int (Int32.ofNat xs.length))] [(.int (Int32.ofNat (dp + xs.length))), (.ref r0)]))
  refine own_putF A44 hx hZ hown (host := "") (Or.inl (hw _ (List.mem_of_getElem? (i := 60) rfl))) Via.refl F34 E31 (Or.inl (hw _ (List.mem_of_getElem? (i := 61) rfl))) (hw _ (List.mem_of_getElem? (i := 5) rfl)) (ty := .int) (by decide) rfl rfl g0 rfl rfl (hb hby d30_52) (fun T45 h47 A46 W48 => ?_)
  have E49 : Exa Z h47 r0 "java/lang/StringBuilder" := E31.wr W48
  have F50 : Fld Z h47 r0 "java/lang/AbstractStringBuilder" "value" "[B" (.ref v0) := F32.other W48 (Or.inr (slot_ne (Or.inl (hw _ (List.mem_of_getElem? (i := 45) rfl))) (Or.inl (hw _ (List.mem_of_getElem? (i := 61) rfl))) (by decide) (t := (.array .byte)) (t' := .int) (by decide) (by decide)))
  have F51 : Fld Z h47 r0 "java/lang/AbstractStringBuilder" "coder" "B" (.int (0 : Int32)) := F33.other W48 (Or.inr (slot_ne (Or.inl (hw _ (List.mem_of_getElem? (i := 43) rfl))) (Or.inl (hw _ (List.mem_of_getElem? (i := 61) rfl))) (by decide) (t := .byte) (t' := .int) (by decide) (by decide)))
  have F52 : Fld Z h47 r0 "java/lang/AbstractStringBuilder" "count" "I" (.int (Int32.ofNat (dp + xs.length))) := F34.same W48
  have F53 : Fld Z h47 r0 "java/lang/AbstractStringBuilder" "maybeLatin1" "Z" (.int (0 : Int32)) := F35.other W48 (Or.inr (slot_ne (Or.inl (hw _ (List.mem_of_getElem? (i := 201) rfl))) (Or.inl (hw _ (List.mem_of_getElem? (i := 61) rfl))) (by decide) (t := .boolean) (t' := .int) (by decide) (by decide)))
  have E54 : Exa Z h47 r1 "java/lang/StringBuilder" := E36.wr W48
  have F55 : Fld Z h47 r1 "java/lang/AbstractStringBuilder" "value" "[B" (.ref t0) := F37.other W48 (Or.inl (Ne.symm ne_r0_r1))
  have F56 : Fld Z h47 r1 "java/lang/AbstractStringBuilder" "coder" "B" (.int (0 : Int32)) := F38.other W48 (Or.inl (Ne.symm ne_r0_r1))
  have F57 : Fld Z h47 r1 "java/lang/AbstractStringBuilder" "count" "I" (.int (Int32.ofNat xs.length)) := F39.other W48 (Or.inl (Ne.symm ne_r0_r1))
  have F58 : Fld Z h47 r1 "java/lang/AbstractStringBuilder" "maybeLatin1" "Z" (.int (0 : Int32)) := F40.other W48 (Or.inl (Ne.symm ne_r0_r1))
  have V59 : own_Arr Z h47 t0 .byte (Int32.ofNat c1) f := V41.other W48 (Ne.symm ne_r0_t0)
  have K60 : Keep h0 h47 [r0, v0] := K42.wr W48 (Or.inl (List.mem_of_getElem? (i := 0) rfl))
  have V61 : own_Arr Z h47 v0 .byte (Int32.ofNat cap) (own_cpf f 0 dp xs.length g) := V30.other W48 ne_v0_r0
  show own_Go _ _ _ _ (T45.setTop (mkF m 55 #[.val (.ref r0), .val (.ref r1), .val (.int (Int32.ofNat xs.length))] []))
  refine own_go (fun t_ k_ => XS.aloadN A46.here hx rfl (hb hby d30_55) rfl rfl k_) ?_
  show own_Go _ _ _ _ (T45.setTop (mkF m 56 #[.val (.ref r0), .val (.ref r1), .val (.int (Int32.ofNat xs.length))] [(.ref r0)]))
  refine own_go (fun t_ k_ => XS.dup A46.here hx rfl (hb hby d30_56) rfl rfl k_) ?_
  show own_Go _ _ _ _ (T45.setTop (mkF m 57 #[.val (.ref r0), .val (.ref r1), .val (.int (Int32.ofNat xs.length))] [(.ref r0), (.ref r0)]))
  refine own_getF A46 hx hZ hown (host := "") (Or.inl (hw _ (List.mem_of_getElem? (i := 200) rfl))) Via.refl F53 rfl rfl (hb hby d30_57) (fun T62 A63 => ?_)
  show own_Go _ _ _ _ (T62.setTop (mkF m 60 #[.val (.ref r0), .val (.ref r1), .val (.int (Int32.ofNat xs.length))] [(.int (0 : Int32)), (.ref r0)]))
  refine own_go (fun t_ k_ => XS.aloadN A63.here hx rfl (hb hby d30_60) rfl rfl k_) ?_
  show own_Go _ _ _ _ (T62.setTop (mkF m 61 #[.val (.ref r0), .val (.ref r1), .val (.int (Int32.ofNat xs.length))] [(.ref r1), (.int (0 : Int32)), (.ref r0)]))
  refine own_getF A63 hx hZ hown (host := "") (Or.inl (hw _ (List.mem_of_getElem? (i := 200) rfl))) Via.refl F58 rfl rfl (hb hby d30_61) (fun T64 A65 => ?_)
  show own_Go _ _ _ _ (T64.setTop (mkF m 64 #[.val (.ref r0), .val (.ref r1), .val (.int (Int32.ofNat xs.length))] [(.int (0 : Int32)), (.int (0 : Int32)), (.ref r0)]))
  refine own_go (fun t_ k_ => XS.ior A65.here hx rfl (hb hby d30_64) rfl k_) ?_
  show own_Go _ _ _ _ (T64.setTop (mkF m 65 #[.val (.ref r0), .val (.ref r1), .val (.int (Int32.ofNat xs.length))] [(.int (0 : Int32)), (.ref r0)]))
  refine own_putF A65 hx hZ hown (host := "") (Or.inl (hw _ (List.mem_of_getElem? (i := 200) rfl))) Via.refl F53 E49 (Or.inl (hw _ (List.mem_of_getElem? (i := 201) rfl))) (hw _ (List.mem_of_getElem? (i := 5) rfl)) (ty := .boolean) (by decide) rfl rfl g0 rfl rfl (hb hby d30_65) (fun T66 h68 A67 W69 => ?_)
  have E70 : Exa Z h68 r0 "java/lang/StringBuilder" := E49.wr W69
  have F71 : Fld Z h68 r0 "java/lang/AbstractStringBuilder" "value" "[B" (.ref v0) := F50.other W69 (Or.inr (slot_ne (Or.inl (hw _ (List.mem_of_getElem? (i := 45) rfl))) (Or.inl (hw _ (List.mem_of_getElem? (i := 201) rfl))) (by decide) (t := (.array .byte)) (t' := .boolean) (by decide) (by decide)))
  have F72 : Fld Z h68 r0 "java/lang/AbstractStringBuilder" "coder" "B" (.int (0 : Int32)) := F51.other W69 (Or.inr (slot_ne (Or.inl (hw _ (List.mem_of_getElem? (i := 43) rfl))) (Or.inl (hw _ (List.mem_of_getElem? (i := 201) rfl))) (by decide) (t := .byte) (t' := .boolean) (by decide) (by decide)))
  have F73 : Fld Z h68 r0 "java/lang/AbstractStringBuilder" "count" "I" (.int (Int32.ofNat (dp + xs.length))) := F52.other W69 (Or.inr (slot_ne (Or.inl (hw _ (List.mem_of_getElem? (i := 61) rfl))) (Or.inl (hw _ (List.mem_of_getElem? (i := 201) rfl))) (by decide) (t := .int) (t' := .boolean) (by decide) (by decide)))
  have F74 : Fld Z h68 r0 "java/lang/AbstractStringBuilder" "maybeLatin1" "Z" (.int (0 : Int32)) := F53.same W69
  have E75 : Exa Z h68 r1 "java/lang/StringBuilder" := E54.wr W69
  have F76 : Fld Z h68 r1 "java/lang/AbstractStringBuilder" "value" "[B" (.ref t0) := F55.other W69 (Or.inl (Ne.symm ne_r0_r1))
  have F77 : Fld Z h68 r1 "java/lang/AbstractStringBuilder" "coder" "B" (.int (0 : Int32)) := F56.other W69 (Or.inl (Ne.symm ne_r0_r1))
  have F78 : Fld Z h68 r1 "java/lang/AbstractStringBuilder" "count" "I" (.int (Int32.ofNat xs.length)) := F57.other W69 (Or.inl (Ne.symm ne_r0_r1))
  have F79 : Fld Z h68 r1 "java/lang/AbstractStringBuilder" "maybeLatin1" "Z" (.int (0 : Int32)) := F58.other W69 (Or.inl (Ne.symm ne_r0_r1))
  have V80 : own_Arr Z h68 t0 .byte (Int32.ofNat c1) f := V59.other W69 (Ne.symm ne_r0_t0)
  have K81 : Keep h0 h68 [r0, v0] := K60.wr W69 (Or.inl (List.mem_of_getElem? (i := 0) rfl))
  have V82 : own_Arr Z h68 v0 .byte (Int32.ofNat cap) (own_cpf f 0 dp xs.length g) := V61.other W69 ne_v0_r0
  show own_Go _ _ _ _ (T66.setTop (mkF m 68 #[.val (.ref r0), .val (.ref r1), .val (.int (Int32.ofNat xs.length))] []))
  refine own_go (fun t_ k_ => XS.aloadN A67.here hx rfl (hb hby d30_68) rfl rfl k_) ?_
  show own_Go _ _ _ _ (T66.setTop (mkF m 69 #[.val (.ref r0), .val (.ref r1), .val (.int (Int32.ofNat xs.length))] [(.ref r0)]))
  refine own_retA A67 hx hret rfl hlk (by decide) (by decide) rfl (hb hby d30_69) ?_
  exact ⟨rfl, K81, F71, F72, F73, F74, V82⟩
theorem ef_29 (m : MethodId) (r0 : Addr) (r1 : Addr) : entryFrame m #[(.ref r0), (.ref r1)] 2 = mkF m 0 #[.val (.ref r0), .val (.ref r1)] [] := by first | (simp [entryFrame, mkF, argsToLocals, Value.category]; done) | rfl
theorem d29_0 : decode jdk_68_method_25_code 0 = .ok (.aload_n 1, 1) := by decide +kernel
theorem d29_1 : decode jdk_68_method_25_code 1 = .ok (.ifnonnull 8, 3) := by decide +kernel
theorem d29_9 : decode jdk_68_method_25_code 9 = .ok (.aload_n 1, 1) := by decide +kernel
theorem d29_10 : decode jdk_68_method_25_code 10 = .ok (.instanceof 1, 3) := by decide +kernel
theorem d29_13 : decode jdk_68_method_25_code 13 = .ok (.ifCond .eq 12, 3) := by decide +kernel
theorem d29_25 : decode jdk_68_method_25_code 25 = .ok (.aload_n 1, 1) := by decide +kernel
theorem d29_26 : decode jdk_68_method_25_code 26 = .ok (.instanceof 10, 3) := by decide +kernel
theorem d29_29 : decode jdk_68_method_25_code 29 = .ok (.ifCond .eq 12, 3) := by decide +kernel
theorem d29_32 : decode jdk_68_method_25_code 32 = .ok (.aload_n 0, 1) := by decide +kernel
theorem d29_33 : decode jdk_68_method_25_code 33 = .ok (.aload_n 1, 1) := by decide +kernel
theorem d29_34 : decode jdk_68_method_25_code 34 = .ok (.checkcast 10, 3) := by decide +kernel
theorem d29_37 : decode jdk_68_method_25_code 37 = .ok (.invokevirtual 212, 3) := by decide +kernel
theorem pd__Ljava_lang_AbstractStringBuilder__Ljava_lang_AbstractStringBuilder_ : parseMethodDescriptor "(Ljava/lang/AbstractStringBuilder;)Ljava/lang/AbstractStringBuilder;" = some ⟨[(.object "java/lang/AbstractStringBuilder")], some (.object "java/lang/AbstractStringBuilder")⟩ := by decide +kernel
theorem d29_40 : decode jdk_68_method_25_code 40 = .ok (.areturn, 1) := by decide +kernel
set_option maxRecDepth 65536 in
set_option maxHeartbeats 40000000 in
theorem rm29 (l : Launch) (Z : State) (a0 : Array Value) (hw : ∀ d ∈ tables_1, d.before a0 Z = true) (r0 : Addr) (r1 : Addr) (z_C : Int32) (t0 : Addr) (f : Int32 → Int32) (xs : List Int32) (g : Int32 → Int32) (dp : Nat) (cap : Nat) (c1 : Nat) (v0 : Addr) (h0 : Heap) (n0 : Nat) (S_C0 : Sta Z h0 "java/lang/String" "COMPACT_STRINGS" "Z" (.int z_C)) (hz : ¬ z_C = 0) (Eb : Exa Z h0 r0 "java/lang/StringBuilder") (Fbv : Fld Z h0 r0 "java/lang/AbstractStringBuilder" "value" "[B" (.ref v0)) (Fbc : Fld Z h0 r0 "java/lang/AbstractStringBuilder" "coder" "B" (.int (0 : Int32))) (Fbn : Fld Z h0 r0 "java/lang/AbstractStringBuilder" "count" "I" (.int (Int32.ofNat dp))) (Fbm : Fld Z h0 r0 "java/lang/AbstractStringBuilder" "maybeLatin1" "Z" (.int (0 : Int32))) (Vb : own_Arr Z h0 v0 .byte (Int32.ofNat cap) g) (hcb : cap < 2 ^ 29) (E1 : Exa Z h0 r1 "java/lang/StringBuilder") (F1v : Fld Z h0 r1 "java/lang/AbstractStringBuilder" "value" "[B" (.ref t0)) (F1c : Fld Z h0 r1 "java/lang/AbstractStringBuilder" "coder" "B" (.int (0 : Int32))) (F1n : Fld Z h0 r1 "java/lang/AbstractStringBuilder" "count" "I" (.int (Int32.ofNat xs.length))) (F1m : Fld Z h0 r1 "java/lang/AbstractStringBuilder" "maybeLatin1" "Z" (.int (0 : Int32))) (V1 : own_Arr Z h0 t0 .byte (Int32.ofNat c1) f) (h1b : c1 < 2 ^ 29) (h1x : xs.length ≤ c1) (Bs : own_Byt f c1) (gv : n0 ≤ v0) (g0 : n0 ≤ r0) (ne_v0_r0 : v0 ≠ r0) (ne_v0_r1 : v0 ≠ r1) (ne_v0_t0 : v0 ≠ t0) (ne_r0_r1 : r0 ≠ r1) (ne_r0_t0 : r0 ≠ t0) (Bb : own_Byt g cap) (hfit : dp + xs.length ≤ cap) :
    own_Met l Z n0 (⟨"java/lang/AbstractStringBuilder", "append", "(Ljava/lang/CharSequence;)Ljava/lang/AbstractStringBuilder;"⟩ : MethodName) jdk_68_method_25_code 2 (some (.object "java/lang/AbstractStringBuilder")) ({ frames := 3, cells := 0, slots := 0, locals := 69 } : Room) #[(.ref r0), (.ref r1)] h0 (fun v h => v = some (.ref r0) ∧ Keep h0 h [r0, v0] ∧ Fld Z h r0 "java/lang/AbstractStringBuilder" "value" "[B" (.ref v0) ∧ Fld Z h r0 "java/lang/AbstractStringBuilder" "coder" "B" (.int (0 : Int32)) ∧ Fld Z h r0 "java/lang/AbstractStringBuilder" "count" "I" (.int (Int32.ofNat (dp + xs.length))) ∧ Fld Z h r0 "java/lang/AbstractStringBuilder" "maybeLatin1" "Z" (.int (0 : Int32)) ∧ own_Arr Z h v0 .byte (Int32.ofNat cap) (own_cpf f 0 dp xs.length g)) := by
  refine own_met (plainFor_of_name pn_10) ?_
  intro p e s m below meth c T0 hx hby hml hown hnm hret hlk hZ A0
  rw [ef_29]
  show own_Go _ _ _ _ (T0.setTop (mkF m 0 #[.val (.ref r0), .val (.ref r1)] []))
  refine own_go (fun t_ k_ => XS.aloadN A0.here hx rfl (hb hby d29_0) rfl rfl k_) ?_
  show own_Go _ _ _ _ (T0.setTop (mkF m 1 #[.val (.ref r0), .val (.ref r1)] [(.ref r1)]))
  refine own_go (fun t_ k_ => XS.ifnonnullYes A0.here hx rfl (pc0 := 1) (pc' := 9) rfl (hb hby d29_1) rfl (by decide) (by decide) k_) ?_
  show own_Go _ _ _ _ (T0.setTop (mkF m 9 #[.val (.ref r0), .val (.ref r1)] []))
  refine own_go (fun t_ k_ => XS.aloadN A0.here hx rfl (hb hby d29_9) rfl rfl k_) ?_
  show own_Go _ _ _ _ (T0.setTop (mkF m 10 #[.val (.ref r0), .val (.ref r1)] [(.ref r1)]))
  refine own_instN A0 hx hZ hown (hw _ (List.mem_of_getElem? (i := 174) rfl)) E1 (own_notSub (hw _ (List.mem_of_getElem? (i := 176) rfl)) (hw _ (List.mem_of_getElem? (i := 175) rfl)) (hw _ (List.mem_of_getElem? (i := 58) rfl)) (hw _ (List.mem_of_getElem? (i := 9) rfl)) (by decide) (by decide) (by decide)) rfl rfl (hb hby d29_10) (fun T1 A2 => ?_)
  show own_Go _ _ _ _ (T1.setTop (mkF m 13 #[.val (.ref r0), .val (.ref r1)] [(.int (0 : Int32))]))
  have hc3 : (0 : Int32) = (0 : Int32) := (by decide)
  refine own_go (fun t_ k_ => XS.ifYes A2.here hx rfl (pc0 := 13) (pc' := 25) rfl (hb hby d29_13) rfl ((if0 _ _).trans (teq hc3).1) (by decide) (by decide) k_) ?_
  show own_Go _ _ _ _ (T1.setTop (mkF m 25 #[.val (.ref r0), .val (.ref r1)] []))
  refine own_go (fun t_ k_ => XS.aloadN A2.here hx rfl (hb hby d29_25) rfl rfl k_) ?_
  show own_Go _ _ _ _ (T1.setTop (mkF m 26 #[.val (.ref r0), .val (.ref r1)] [(.ref r1)]))
  refine own_instY A2 hx hZ hown (hw _ (List.mem_of_getElem? (i := 177) rfl)) (Ins.of_exa E1 (hw _ (List.mem_of_getElem? (i := 21) rfl))) rfl rfl (hb hby d29_26) (fun T4 A5 => ?_)
  show own_Go _ _ _ _ (T4.setTop (mkF m 29 #[.val (.ref r0), .val (.ref r1)] [(.int (1 : Int32))]))
  have hc6 : ¬ ((1 : Int32) = (0 : Int32)) := (by decide)
  refine own_go (fun t_ k_ => XS.ifNo A5.here hx rfl (hb hby d29_29) rfl ((if0 _ _).trans (feq hc6).1) k_) ?_
  show own_Go _ _ _ _ (T4.setTop (mkF m 32 #[.val (.ref r0), .val (.ref r1)] []))
  refine own_go (fun t_ k_ => XS.aloadN A5.here hx rfl (hb hby d29_32) rfl rfl k_) ?_
  show own_Go _ _ _ _ (T4.setTop (mkF m 33 #[.val (.ref r0), .val (.ref r1)] [(.ref r0)]))
  refine own_go (fun t_ k_ => XS.aloadN A5.here hx rfl (hb hby d29_33) rfl rfl k_) ?_
  show own_Go _ _ _ _ (T4.setTop (mkF m 34 #[.val (.ref r0), .val (.ref r1)] [(.ref r1), (.ref r0)]))
  refine own_cast A5 hx hZ hown (hw _ (List.mem_of_getElem? (i := 177) rfl)) (Ins.of_exa E1 (hw _ (List.mem_of_getElem? (i := 21) rfl))) rfl rfl (hb hby d29_34) (fun T7 A8 => ?_)
  show own_Go _ _ _ _ (T7.setTop (mkF m 37 #[.val (.ref r0), .val (.ref r1)] [(.ref r1), (.ref r0)]))
  refine own_callV A8 hx hZ (y := (⟨"java/lang/AbstractStringBuilder", "append", "(Ljava/lang/AbstractStringBuilder;)Ljava/lang/AbstractStringBuilder;"⟩ : MethodName)) (z := (⟨"java/lang/AbstractStringBuilder", "append", "(Ljava/lang/AbstractStringBuilder;)Ljava/lang/AbstractStringBuilder;"⟩ : MethodName)) hown (hw _ (List.mem_of_getElem? (i := 178) rfl)) (hw _ (List.mem_of_getElem? (i := 179) rfl)) (hw _ (List.mem_of_getElem? (i := 181) rfl)) (hw _ (List.mem_of_getElem? (i := 180) rfl)) (hw _ (List.mem_of_getElem? (i := 22) rfl)) (hw _ (List.mem_of_getElem? (i := 182) rfl)) (notFace_of_selects (args := #[]) (mvT hZ (hw _ (List.mem_of_getElem? (i := 181) rfl)))) (by decide) (b := r0) (argsL := [(.ref r1)]) (rest := []) Eb (rm30 l Z a0 hw r0 r1 z_C t0 f xs g dp cap c1 v0 h0 n0 S_C0 hz Eb Fbv Fbc Fbn Fbm Vb hcb E1 F1v F1c F1n F1m V1 h1b h1x Bs gv g0 ne_v0_r0 ne_v0_r1 ne_v0_t0 ne_r0_r1 ne_r0_t0 Bb hfit) 0 (by decide) (by decide) rfl (by rw [hml]; rfl) (lenOf pd__Ljava_lang_AbstractStringBuilder__Ljava_lang_AbstractStringBuilder_ rfl) rfl (by show 2 * 0 + _ ≤ _; exact Nat.le_of_eq rfl) (hb hby d29_37) (by decide) (by decide) (fun v12 T9 h11 A10 hQ13 => ?_)
  obtain ⟨rfl, K14, F15, F16, F17, F18, V19⟩ := hQ13
  have E20 : Exa Z h11 r0 "java/lang/StringBuilder" := Eb.keep K14
  have E21 : Exa Z h11 r1 "java/lang/StringBuilder" := E1.keep K14
  have F22 : Fld Z h11 r1 "java/lang/AbstractStringBuilder" "value" "[B" (.ref t0) := F1v.keep K14 (ninS (Ne.symm ne_r0_r1) (ninS (Ne.symm ne_v0_r1) nin0))
  have F23 : Fld Z h11 r1 "java/lang/AbstractStringBuilder" "coder" "B" (.int (0 : Int32)) := F1c.keep K14 (ninS (Ne.symm ne_r0_r1) (ninS (Ne.symm ne_v0_r1) nin0))
  have F24 : Fld Z h11 r1 "java/lang/AbstractStringBuilder" "count" "I" (.int (Int32.ofNat xs.length)) := F1n.keep K14 (ninS (Ne.symm ne_r0_r1) (ninS (Ne.symm ne_v0_r1) nin0))
  have F25 : Fld Z h11 r1 "java/lang/AbstractStringBuilder" "maybeLatin1" "Z" (.int (0 : Int32)) := F1m.keep K14 (ninS (Ne.symm ne_r0_r1) (ninS (Ne.symm ne_v0_r1) nin0))
  have V26 : own_Arr Z h11 t0 .byte (Int32.ofNat c1) f := V1.keep K14 (ninS (Ne.symm ne_r0_t0) (ninS (Ne.symm ne_v0_t0) nin0))
  have K27 : Keep h0 h11 [r0, v0] := (Keep.refl h0 [r0, v0]).trans K14 (allS (Or.inl (List.mem_of_getElem? (i := 0) rfl)) (allS (Or.inl (List.mem_of_getElem? (i := 1) rfl)) all0))
  show own_Go _ _ _ _ (T9.setTop (mkF m 40 #[.val (.ref r0), .val (.ref r1)] [(.ref r0)]))
  refine own_retA A10 hx hret rfl hlk (by decide) (by decide) rfl (hb hby d29_40) ?_
  exact ⟨rfl, K27, F15, F16, F17, F18, V19⟩
theorem ef_28 (m : MethodId) (r0 : Addr) (r1 : Addr) : entryFrame m #[(.ref r0), (.ref r1)] 2 = mkF m 0 #[.val (.ref r0), .val (.ref r1)] [] := by first | (simp [entryFrame, mkF, argsToLocals, Value.category]; done) | rfl
theorem d28_0 : decode jdk_67_method_9_code 0 = .ok (.aload_n 0, 1) := by decide +kernel
theorem d28_1 : decode jdk_67_method_9_code 1 = .ok (.aload_n 1, 1) := by decide +kernel
theorem d28_2 : decode jdk_67_method_9_code 2 = .ok (.invokespecial 35, 3) := by decide +kernel
theorem pd__Ljava_lang_CharSequence__Ljava_lang_AbstractStringBuilder_ : parseMethodDescriptor "(Ljava/lang/CharSequence;)Ljava/lang/AbstractStringBuilder;" = some ⟨[(.object "java/lang/CharSequence")], some (.object "java/lang/AbstractStringBuilder")⟩ := by decide +kernel
theorem d28_5 : decode jdk_67_method_9_code 5 = .ok (.pop, 1) := by decide +kernel
theorem d28_6 : decode jdk_67_method_9_code 6 = .ok (.aload_n 0, 1) := by decide +kernel
theorem d28_7 : decode jdk_67_method_9_code 7 = .ok (.areturn, 1) := by decide +kernel
set_option maxRecDepth 65536 in
set_option maxHeartbeats 40000000 in
theorem rm28 (l : Launch) (Z : State) (a0 : Array Value) (hw : ∀ d ∈ tables_1, d.before a0 Z = true) (r0 : Addr) (r1 : Addr) (z_C : Int32) (t0 : Addr) (f : Int32 → Int32) (xs : List Int32) (g : Int32 → Int32) (dp : Nat) (cap : Nat) (c1 : Nat) (v0 : Addr) (h0 : Heap) (n0 : Nat) (S_C0 : Sta Z h0 "java/lang/String" "COMPACT_STRINGS" "Z" (.int z_C)) (hz : ¬ z_C = 0) (Eb : Exa Z h0 r0 "java/lang/StringBuilder") (Fbv : Fld Z h0 r0 "java/lang/AbstractStringBuilder" "value" "[B" (.ref v0)) (Fbc : Fld Z h0 r0 "java/lang/AbstractStringBuilder" "coder" "B" (.int (0 : Int32))) (Fbn : Fld Z h0 r0 "java/lang/AbstractStringBuilder" "count" "I" (.int (Int32.ofNat dp))) (Fbm : Fld Z h0 r0 "java/lang/AbstractStringBuilder" "maybeLatin1" "Z" (.int (0 : Int32))) (Vb : own_Arr Z h0 v0 .byte (Int32.ofNat cap) g) (hcb : cap < 2 ^ 29) (E1 : Exa Z h0 r1 "java/lang/StringBuilder") (F1v : Fld Z h0 r1 "java/lang/AbstractStringBuilder" "value" "[B" (.ref t0)) (F1c : Fld Z h0 r1 "java/lang/AbstractStringBuilder" "coder" "B" (.int (0 : Int32))) (F1n : Fld Z h0 r1 "java/lang/AbstractStringBuilder" "count" "I" (.int (Int32.ofNat xs.length))) (F1m : Fld Z h0 r1 "java/lang/AbstractStringBuilder" "maybeLatin1" "Z" (.int (0 : Int32))) (V1 : own_Arr Z h0 t0 .byte (Int32.ofNat c1) f) (h1b : c1 < 2 ^ 29) (h1x : xs.length ≤ c1) (Bs : own_Byt f c1) (gv : n0 ≤ v0) (g0 : n0 ≤ r0) (ne_v0_r0 : v0 ≠ r0) (ne_v0_r1 : v0 ≠ r1) (ne_v0_t0 : v0 ≠ t0) (ne_r0_r1 : r0 ≠ r1) (ne_r0_t0 : r0 ≠ t0) (Bb : own_Byt g cap) (hfit : dp + xs.length ≤ cap) :
    own_Met l Z n0 (⟨"java/lang/StringBuilder", "append", "(Ljava/lang/CharSequence;)Ljava/lang/StringBuilder;"⟩ : MethodName) jdk_67_method_9_code 2 (some (.object "java/lang/StringBuilder")) ({ frames := 4, cells := 0, slots := 0, locals := 82 } : Room) #[(.ref r0), (.ref r1)] h0 (fun v h => v = some (.ref r0) ∧ Keep h0 h [r0, v0] ∧ Fld Z h r0 "java/lang/AbstractStringBuilder" "value" "[B" (.ref v0) ∧ Fld Z h r0 "java/lang/AbstractStringBuilder" "coder" "B" (.int (0 : Int32)) ∧ Fld Z h r0 "java/lang/AbstractStringBuilder" "count" "I" (.int (Int32.ofNat (dp + xs.length))) ∧ Fld Z h r0 "java/lang/AbstractStringBuilder" "maybeLatin1" "Z" (.int (0 : Int32)) ∧ own_Arr Z h v0 .byte (Int32.ofNat cap) (own_cpf f 0 dp xs.length g)) := by
  refine own_met (plainFor_of_name pn_8) ?_
  intro p e s m below meth c T0 hx hby hml hown hnm hret hlk hZ A0
  rw [ef_28]
  show own_Go _ _ _ _ (T0.setTop (mkF m 0 #[.val (.ref r0), .val (.ref r1)] []))
  refine own_go (fun t_ k_ => XS.aloadN A0.here hx rfl (hb hby d28_0) rfl rfl k_) ?_
  show own_Go _ _ _ _ (T0.setTop (mkF m 1 #[.val (.ref r0), .val (.ref r1)] [(.ref r0)]))
  refine own_go (fun t_ k_ => XS.aloadN A0.here hx rfl (hb hby d28_1) rfl rfl k_) ?_
  show own_Go _ _ _ _ (T0.setTop (mkF m 2 #[.val (.ref r0), .val (.ref r1)] [(.ref r1), (.ref r0)]))
  refine own_callU A0 hx hZ (y := (⟨"java/lang/AbstractStringBuilder", "append", "(Ljava/lang/CharSequence;)Ljava/lang/AbstractStringBuilder;"⟩ : MethodName)) hown (hw _ (List.mem_of_getElem? (i := 170) rfl)) (hw _ (List.mem_of_getElem? (i := 171) rfl)) (hw _ (List.mem_of_getElem? (i := 65) rfl)) rfl (hw _ (List.mem_of_getElem? (i := 58) rfl)) (by decide) (hw _ (List.mem_of_getElem? (i := 22) rfl)) (hw _ (List.mem_of_getElem? (i := 173) rfl)) (by decide) (b := r0) (argsL := [(.ref r1)]) (rest := []) (Ins.of_exa Eb (hw _ (List.mem_of_getElem? (i := 21) rfl))) (rm29 l Z a0 hw r0 r1 z_C t0 f xs g dp cap c1 v0 h0 n0 S_C0 hz Eb Fbv Fbc Fbn Fbm Vb hcb E1 F1v F1c F1n F1m V1 h1b h1x Bs gv g0 ne_v0_r0 ne_v0_r1 ne_v0_t0 ne_r0_r1 ne_r0_t0 Bb hfit) 0 (by decide) (by decide) rfl (by rw [hml]; rfl) (lenOf pd__Ljava_lang_CharSequence__Ljava_lang_AbstractStringBuilder_ rfl) rfl (by show 2 * 0 + _ ≤ _; exact Nat.le_of_eq rfl) (hb hby d28_2) (by decide) (by decide) (fun v4 T1 h3 A2 hQ5 => ?_)
  obtain ⟨rfl, K6, F7, F8, F9, F10, V11⟩ := hQ5
  have E12 : Exa Z h3 r0 "java/lang/StringBuilder" := Eb.keep K6
  have E13 : Exa Z h3 r1 "java/lang/StringBuilder" := E1.keep K6
  have F14 : Fld Z h3 r1 "java/lang/AbstractStringBuilder" "value" "[B" (.ref t0) := F1v.keep K6 (ninS (Ne.symm ne_r0_r1) (ninS (Ne.symm ne_v0_r1) nin0))
  have F15 : Fld Z h3 r1 "java/lang/AbstractStringBuilder" "coder" "B" (.int (0 : Int32)) := F1c.keep K6 (ninS (Ne.symm ne_r0_r1) (ninS (Ne.symm ne_v0_r1) nin0))
  have F16 : Fld Z h3 r1 "java/lang/AbstractStringBuilder" "count" "I" (.int (Int32.ofNat xs.length)) := F1n.keep K6 (ninS (Ne.symm ne_r0_r1) (ninS (Ne.symm ne_v0_r1) nin0))
  have F17 : Fld Z h3 r1 "java/lang/AbstractStringBuilder" "maybeLatin1" "Z" (.int (0 : Int32)) := F1m.keep K6 (ninS (Ne.symm ne_r0_r1) (ninS (Ne.symm ne_v0_r1) nin0))
  have V18 : own_Arr Z h3 t0 .byte (Int32.ofNat c1) f := V1.keep K6 (ninS (Ne.symm ne_r0_t0) (ninS (Ne.symm ne_v0_t0) nin0))
  have K19 : Keep h0 h3 [r0, v0] := (Keep.refl h0 [r0, v0]).trans K6 (allS (Or.inl (List.mem_of_getElem? (i := 0) rfl)) (allS (Or.inl (List.mem_of_getElem? (i := 1) rfl)) all0))
  show own_Go _ _ _ _ (T1.setTop (mkF m 5 #[.val (.ref r0), .val (.ref r1)] [(.ref r0)]))
  refine own_go (fun t_ k_ => XS.pop A2.here hx rfl (hb hby d28_5) rfl rfl k_) ?_
  show own_Go _ _ _ _ (T1.setTop (mkF m 6 #[.val (.ref r0), .val (.ref r1)] []))
  refine own_go (fun t_ k_ => XS.aloadN A2.here hx rfl (hb hby d28_6) rfl rfl k_) ?_
  show own_Go _ _ _ _ (T1.setTop (mkF m 7 #[.val (.ref r0), .val (.ref r1)] [(.ref r0)]))
  refine own_retA A2 hx hret rfl hlk (by decide) (by decide) rfl (hb hby d28_7) ?_
  exact ⟨rfl, K19, F7, F8, F9, F10, V11⟩
set_option maxRecDepth 65536 in
set_option maxHeartbeats 40000000 in
theorem rm9_g38 (l : Launch) (Z : State) (a0 : Array Value) (hw : ∀ d ∈ tables_1, d.before a0 Z = true) (r0 : Addr) (r1 : Addr) (z_C : Int32) (t0 : Addr) (f : Int32 → Int32) (xs : List Int32) (g : Int32 → Int32) (v0 : Addr) (h0 : Heap) (n0 : Nat) (O0 : Old Z n0 h0) (hz : ¬ z_C = 0) (S_COMPACT_STRINGS : Sta Z Z.heap "java/lang/String" "COMPACT_STRINGS" "Z" (.int z_C)) (Z0 : n0 ≤ h0.size) (Eb : Exa Z h0 r0 "java/lang/StringBuilder") (Fbv : Fld Z h0 r0 "java/lang/AbstractStringBuilder" "value" "[B" (.ref v0)) (Fbc : Fld Z h0 r0 "java/lang/AbstractStringBuilder" "coder" "B" (.int (0 : Int32))) (Fbn : Fld Z h0 r0 "java/lang/AbstractStringBuilder" "count" "I" (.int (Int32.ofNat 17))) (Fbm : Fld Z h0 r0 "java/lang/AbstractStringBuilder" "maybeLatin1" "Z" (.int (0 : Int32))) (Vb : own_Arr Z h0 v0 .byte (Int32.ofNat 18) g) (Es : Exa Z h0 r1 "java/lang/String") (Fcs : Fld Z h0 r1 "java/lang/String" "coder" "B" (.int (0 : Int32))) (Fvs : Fld Z h0 r1 "java/lang/String" "value" "[B" (.ref t0)) (Vs : own_Arr Z h0 t0 .byte (Int32.ofNat xs.length) f) (g0 : n0 ≤ r0) (ne_v0_r0 : v0 ≠ r0) (ne_r0_r1 : r0 ≠ r1) (ne_r0_t0 : r0 ≠ t0) (Bs : own_Byt f xs.length) (Bb : own_Byt g 18) (hx3 : xs.length = 3) :
    own_Met l Z n0 (⟨"java/lang/AbstractStringBuilder", "append", "(Ljava/lang/String;)Ljava/lang/AbstractStringBuilder;"⟩ : MethodName) jdk_68_method_22_code 3 (some (.object "java/lang/AbstractStringBuilder")) ({ frames := 4, cells := 1, slots := 38, locals := 69 } : Room) #[(.ref r0), (.ref r1)] h0 (fun v h => v = some (.ref r0) ∧ Keep h0 h [r0] ∧ ∃ v1, n0 ≤ v1 ∧ h0.size ≤ v1 ∧ Fld Z h r0 "java/lang/AbstractStringBuilder" "value" "[B" (.ref v1) ∧ Fld Z h r0 "java/lang/AbstractStringBuilder" "coder" "B" (.int (0 : Int32)) ∧ Fld Z h r0 "java/lang/AbstractStringBuilder" "count" "I" (.int (Int32.ofNat 20)) ∧ Fld Z h r0 "java/lang/AbstractStringBuilder" "maybeLatin1" "Z" (.int (0 : Int32)) ∧ own_Arr Z h v1 .byte (Int32.ofNat 38) (own_cpf f 0 17 xs.length (own_cpf g 0 0 18 (fun _ => 0)))) := by
  refine own_met (plainFor_of_name pn_10) ?_
  intro p e s m below meth c T0 hx hby hml hown hnm hret hlk hZ A0
  rw [ef_9]
  show own_Go _ _ _ _ (T0.setTop (mkF m 0 #[.val (.ref r0), .val (.ref r1), .unset] []))
  refine own_go (fun t_ k_ => XS.aloadN A0.here hx rfl (hb hby d9_0) rfl rfl k_) ?_
  show own_Go _ _ _ _ (T0.setTop (mkF m 1 #[.val (.ref r0), .val (.ref r1), .unset] [(.ref r1)]))
  refine own_go (fun t_ k_ => XS.ifnonnullYes A0.here hx rfl (pc0 := 1) (pc' := 9) rfl (hb hby d9_1) rfl (by decide) (by decide) k_) ?_
  show own_Go _ _ _ _ (T0.setTop (mkF m 9 #[.val (.ref r0), .val (.ref r1), .unset] []))
  refine own_go (fun t_ k_ => XS.aloadN A0.here hx rfl (hb hby d9_9) rfl rfl k_) ?_
  show own_Go _ _ _ _ (T0.setTop (mkF m 10 #[.val (.ref r0), .val (.ref r1), .unset] [(.ref r1)]))
  refine own_callV A0 hx hZ (y := (⟨"java/lang/String", "length", "()I"⟩ : MethodName)) (z := (⟨"java/lang/String", "length", "()I"⟩ : MethodName)) hown (hw _ (List.mem_of_getElem? (i := 27) rfl)) (hw _ (List.mem_of_getElem? (i := 28) rfl)) (hw _ (List.mem_of_getElem? (i := 30) rfl)) (hw _ (List.mem_of_getElem? (i := 29) rfl)) (hw _ (List.mem_of_getElem? (i := 8) rfl)) (hw _ (List.mem_of_getElem? (i := 31) rfl)) (notFace_of_selects (args := #[]) (mvT hZ (hw _ (List.mem_of_getElem? (i := 30) rfl)))) (by decide) (b := r1) (argsL := []) (rest := []) Es (rm5 l Z a0 hw r1 z_C t0 f xs h0 n0 (S_COMPACT_STRINGS.ext O0.2) hz Es Fcs Fvs Vs) 0 (by decide) (by decide) rfl (by rw [hml]; rfl) (lenOf pd___I rfl) rfl (by show 2 * 0 + _ ≤ _; exact Nat.le_of_eq rfl) (hb hby d9_10) (by decide) (by decide) (fun v4 T1 h3 A2 hQ5 => ?_)
  obtain ⟨rfl, rfl⟩ := hQ5
  show own_Go _ _ _ _ (T1.setTop (mkF m 13 #[.val (.ref r0), .val (.ref r1), .unset] [(.int (Int32.ofNat xs.length))]))
  refine own_go (fun t_ k_ => XS.istoreN A2.here hx rfl (hb hby d9_13) rfl (l' := #[.val (.ref r0), .val (.ref r1), .val (.int (Int32.ofNat xs.length))]) rfl k_) ?_
  show own_Go _ _ _ _ (T1.setTop (mkF m 14 #[.val (.ref r0), .val (.ref r1), .val (.int (Int32.ofNat xs.length))] []))
  refine own_go (fun t_ k_ => XS.aloadN A2.here hx rfl (hb hby d9_14) rfl rfl k_) ?_
  show own_Go _ _ _ _ (T1.setTop (mkF m 15 #[.val (.ref r0), .val (.ref r1), .val (.int (Int32.ofNat xs.length))] [(.ref r0)]))
  refine own_go (fun t_ k_ => XS.aloadN A2.here hx rfl (hb hby d9_15) rfl rfl k_) ?_
  show own_Go _ _ _ _ (T1.setTop (mkF m 16 #[.val (.ref r0), .val (.ref r1), .val (.int (Int32.ofNat xs.length))] [(.ref r0), (.ref r0)]))
  refine own_getF A2 hx hZ hown (host := "") (Or.inl (hw _ (List.mem_of_getElem? (i := 60) rfl))) Via.refl Fbn rfl rfl (hb hby d9_16) (fun T6 A7 => ?_)
  show own_Go _ _ _ _ (T6.setTop (mkF m 19 #[.val (.ref r0), .val (.ref r1), .val (.int (Int32.ofNat xs.length))] [(.int (Int32.ofNat 17)), (.ref r0)]))
  refine own_go (fun t_ k_ => XS.iloadN A7.here hx rfl (hb hby d9_19) rfl k_) ?_
  show own_Go _ _ _ _ (T6.setTop (mkF m 20 #[.val (.ref r0), .val (.ref r1), .val (.int (Int32.ofNat xs.length))] [(.int (Int32.ofNat xs.length)), (.int (Int32.ofNat 17)), (.ref r0)]))
  refine own_go (fun t_ k_ => XS.iadd A7.here hx rfl (hb hby d9_20) rfl k_) ?_
  show own_Go _ _ _ _ (T6.setTop (mkF m 21 #[.val (.ref r0), .val (.ref r1), .val (.int (Int32.ofNat xs.length))] [(.int ((Int32.ofNat 17) + (Int32.ofNat xs.length))), (.ref r0)]))
  rw [show ((Int32.ofNat 17) + (Int32.ofNat xs.length)) = (20 : Int32) from by rw [hx3]; rfl]
  show own_Go _ _ _ _ (T6.setTop (mkF m 21 #[.val (.ref r0), .val (.ref r1), .val (.int (Int32.ofNat xs.length))] [(.int (20 : Int32)), (.ref r0)]))
  refine own_callP A7 hx hZ (y := (⟨"java/lang/AbstractStringBuilder", "ensureCapacityInternal", "(I)V"⟩ : MethodName)) hown (hw _ (List.mem_of_getElem? (i := 62) rfl)) (hw _ (List.mem_of_getElem? (i := 63) rfl)) (hw _ (List.mem_of_getElem? (i := 64) rfl)) (hw _ (List.mem_of_getElem? (i := 65) rfl)) rfl (hw _ (List.mem_of_getElem? (i := 22) rfl)) (hw _ (List.mem_of_getElem? (i := 66) rfl)) (by decide) (b := r0) (argsL := [(.int (20 : Int32))]) (rest := []) Eb (rm10_g38 l Z a0 hw r0 v0 g (Int32.ofNat 17) h0 n0 Z0 Eb Fbv Fbc Vb Fbn Fbm g0 ne_v0_r0 Bb) 0 (by decide) (by decide) rfl (by rw [hml]; rfl) (lenOf pd__I_V rfl) rfl (by show 2 * 0 + _ ≤ _; exact Nat.le_of_eq rfl) (hb hby d9_21) (by decide) (by decide) (fun v11 T8 h10 A9 hQ12 => ?_)
  obtain ⟨rfl, K13, t14, gt15, nt16, F17, F18, F19, F20, V21⟩ := hQ12
  have ne_r0_t14 : r0 ≠ t14 := Nat.ne_of_lt (Nat.lt_of_lt_of_le Eb.lt nt16)
  have ne_v0_t14 : v0 ≠ t14 := Nat.ne_of_lt (Nat.lt_of_lt_of_le Vb.lt nt16)
  have ne_r1_t14 : r1 ≠ t14 := Nat.ne_of_lt (Nat.lt_of_lt_of_le Es.lt nt16)
  have ne_t0_t14 : t0 ≠ t14 := Nat.ne_of_lt (Nat.lt_of_lt_of_le Vs.lt nt16)
  have nw_t14 : h0.size ≤ t14 := Nat.le_trans (Keep.refl h0 [r0]).1 nt16
  have O22 : Old Z n0 h10 := O0.keep K13 (allS g0 all0)
  have Z23 : n0 ≤ h10.size := Nat.le_trans Z0 K13.1
  have E24 : Exa Z h10 r0 "java/lang/StringBuilder" := Eb.keep K13
  have V25 : own_Arr Z h10 v0 .byte (Int32.ofNat 18) g := Vb.keep K13 (ninS ne_v0_r0 nin0)
  have E26 : Exa Z h10 r1 "java/lang/String" := Es.keep K13
  have F27 : Fld Z h10 r1 "java/lang/String" "coder" "B" (.int (0 : Int32)) := Fcs.keep K13 (ninS (Ne.symm ne_r0_r1) nin0)
  have F28 : Fld Z h10 r1 "java/lang/String" "value" "[B" (.ref t0) := Fvs.keep K13 (ninS (Ne.symm ne_r0_r1) nin0)
  have V29 : own_Arr Z h10 t0 .byte (Int32.ofNat xs.length) f := Vs.keep K13 (ninS (Ne.symm ne_r0_t0) nin0)
  have K30 : Keep h0 h10 [r0] := (Keep.refl h0 [r0]).trans K13 (allS (Or.inl (List.mem_of_getElem? (i := 0) rfl)) all0)
  show own_Go _ _ _ _ (T8.setTop (mkF m 24 #[.val (.ref r0), .val (.ref r1), .val (.int (Int32.ofNat xs.length))] []))
  refine own_go (fun t_ k_ => XS.aloadN A9.here hx rfl (hb hby d9_24) rfl rfl k_) ?_
  show own_Go _ _ _ _ (T8.setTop (mkF m 25 #[.val (.ref r0), .val (.ref r1), .val (.int (Int32.ofNat xs.length))] [(.ref r0)]))
  refine own_go (fun t_ k_ => XS.aloadN A9.here hx rfl (hb hby d9_25) rfl rfl k_) ?_
  show own_Go _ _ _ _ (T8.setTop (mkF m 26 #[.val (.ref r0), .val (.ref r1), .val (.int (Int32.ofNat xs.length))] [(.ref r0), (.ref r0)]))
  refine own_getF A9 hx hZ hown (host := "") (Or.inl (hw _ (List.mem_of_getElem? (i := 60) rfl))) Via.refl F19 rfl rfl (hb hby d9_26) (fun T31 A32 => ?_)
  show own_Go _ _ _ _ (T31.setTop (mkF m 29 #[.val (.ref r0), .val (.ref r1), .val (.int (Int32.ofNat xs.length))] [(.int (Int32.ofNat 17)), (.ref r0)]))
  refine own_go (fun t_ k_ => XS.aloadN A32.here hx rfl (hb hby d9_29) rfl rfl k_) ?_
  show own_Go _ _ _ _ (T31.setTop (mkF m 30 #[.val (.ref r0), .val (.ref r1), .val (.int (Int32.ofNat xs.length))] [(.ref r1), (.int (Int32.ofNat 17)), (.ref r0)]))
  refine own_callP A32 hx hZ (y := (⟨"java/lang/AbstractStringBuilder", "putStringAt", "(ILjava/lang/String;)V"⟩ : MethodName)) hown (hw _ (List.mem_of_getElem? (i := 67) rfl)) (hw _ (List.mem_of_getElem? (i := 68) rfl)) (hw _ (List.mem_of_getElem? (i := 69) rfl)) (hw _ (List.mem_of_getElem? (i := 65) rfl)) rfl (hw _ (List.mem_of_getElem? (i := 22) rfl)) (hw _ (List.mem_of_getElem? (i := 71) rfl)) (by decide) (b := r0) (argsL := [(.int (Int32.ofNat 17)), (.ref r1)]) (rest := []) E24 (rm11 l Z a0 hw r0 r1 z_C t0 f xs (own_cpf g 0 0 18 (fun _ => 0)) 17 38 t14 (Int32.ofNat 17) h10 n0 (S_COMPACT_STRINGS.ext O22.2) hz E24 F17 F18 F19 F20 V21 (by decide) E26 F27 F28 V29 gt15 (Ne.symm ne_r0_t14) (Ne.symm ne_r1_t14) (Ne.symm ne_t0_t14) Bs (own_Byt.cp (fun k hk => rfl) Bb (by omega) (by decide)) (by omega)) 0 (by decide) (by decide) rfl (by rw [hml]; rfl) (lenOf pd__ILjava_lang_String__V rfl) rfl (by show 2 * 0 + _ ≤ _; exact Nat.le_of_eq rfl) (hb hby d9_30) (by decide) (by decide) (fun v36 T33 h35 A34 hQ37 => ?_)
  obtain ⟨rfl, K38, V39⟩ := hQ37
  have O40 : Old Z n0 h35 := O22.keep K38 (allS gt15 all0)
  have Z41 : n0 ≤ h35.size := Nat.le_trans Z23 K38.1
  have E42 : Exa Z h35 r0 "java/lang/StringBuilder" := E24.keep K38
  have V43 : own_Arr Z h35 v0 .byte (Int32.ofNat 18) g := V25.keep K38 (ninS ne_v0_t14 nin0)
  have E44 : Exa Z h35 r1 "java/lang/String" := E26.keep K38
  have F45 : Fld Z h35 r1 "java/lang/String" "coder" "B" (.int (0 : Int32)) := F27.keep K38 (ninS ne_r1_t14 nin0)
  have F46 : Fld Z h35 r1 "java/lang/String" "value" "[B" (.ref t0) := F28.keep K38 (ninS ne_r1_t14 nin0)
  have V47 : own_Arr Z h35 t0 .byte (Int32.ofNat xs.length) f := V29.keep K38 (ninS ne_t0_t14 nin0)
  have K48 : Keep h0 h35 [r0] := K30.trans K38 (allS (Or.inr nw_t14) all0)
  have F49 : Fld Z h35 r0 "java/lang/AbstractStringBuilder" "maybeLatin1" "Z" (.int (0 : Int32)) := F20.keep K38 (ninS ne_r0_t14 nin0)
  have F50 : Fld Z h35 r0 "java/lang/AbstractStringBuilder" "value" "[B" (.ref t14) := F17.keep K38 (ninS ne_r0_t14 nin0)
  have F51 : Fld Z h35 r0 "java/lang/AbstractStringBuilder" "coder" "B" (.int (0 : Int32)) := F18.keep K38 (ninS ne_r0_t14 nin0)
  have F52 : Fld Z h35 r0 "java/lang/AbstractStringBuilder" "count" "I" (.int (Int32.ofNat 17)) := F19.keep K38 (ninS ne_r0_t14 nin0)
  show own_Go _ _ _ _ (T33.setTop (mkF m 33 #[.val (.ref r0), .val (.ref r1), .val (.int (Int32.ofNat xs.length))] []))
  refine own_go (fun t_ k_ => XS.aloadN A34.here hx rfl (hb hby d9_33) rfl rfl k_) ?_
  show own_Go _ _ _ _ (T33.setTop (mkF m 34 #[.val (.ref r0), .val (.ref r1), .val (.int (Int32.ofNat xs.length))] [(.ref r0)]))
  refine own_go (fun t_ k_ => XS.dup A34.here hx rfl (hb hby d9_34) rfl rfl k_) ?_
  show own_Go _ _ _ _ (T33.setTop (mkF m 35 #[.val (.ref r0), .val (.ref r1), .val (.int (Int32.ofNat xs.length))] [(.ref r0), (.ref r0)]))
  refine own_getF A34 hx hZ hown (host := "") (Or.inl (hw _ (List.mem_of_getElem? (i := 60) rfl))) Via.refl F52 rfl rfl (hb hby d9_35) (fun T53 A54 => ?_)
  show own_Go _ _ _ _ (T53.setTop (mkF m 38 #[.val (.ref r0), .val (.ref r1), .val (.int (Int32.ofNat xs.length))] [(.int (Int32.ofNat 17)), (.ref r0)]))
  refine own_go (fun t_ k_ => XS.iloadN A54.here hx rfl (hb hby d9_38) rfl k_) ?_
  show own_Go _ _ _ _ (T53.setTop (mkF m 39 #[.val (.ref r0), .val (.ref r1), .val (.int (Int32.ofNat xs.length))] [(.int (Int32.ofNat xs.length)), (.int (Int32.ofNat 17)), (.ref r0)]))
  refine own_go (fun t_ k_ => XS.iadd A54.here hx rfl (hb hby d9_39) rfl k_) ?_
  show own_Go _ _ _ _ (T53.setTop (mkF m 40 #[.val (.ref r0), .val (.ref r1), .val (.int (Int32.ofNat xs.length))] [(.int ((Int32.ofNat 17) + (Int32.ofNat xs.length))), (.ref r0)]))
  rw [show ((Int32.ofNat 17) + (Int32.ofNat xs.length)) = (Int32.ofNat 20) from by rw [hx3]; rfl]
  show own_Go _ _ _ _ (T53.setTop (mkF m 40 #[.val (.ref r0), .val (.ref r1), .val (.int (Int32.ofNat xs.length))] [(.int (Int32.ofNat 20)), (.ref r0)]))
  refine own_putF A54 hx hZ hown (host := "") (Or.inl (hw _ (List.mem_of_getElem? (i := 60) rfl))) Via.refl F52 E42 (Or.inl (hw _ (List.mem_of_getElem? (i := 61) rfl))) (hw _ (List.mem_of_getElem? (i := 5) rfl)) (ty := .int) (by decide) rfl rfl g0 rfl rfl (hb hby d9_40) (fun T55 h57 A56 W58 => ?_)
  have O59 : Old Z n0 h57 := O40.wr W58 g0
  have Z60 : n0 ≤ h57.size := Nat.le_trans Z41 (Nat.le_of_eq (Wr.size W58).symm)
  have E61 : Exa Z h57 r0 "java/lang/StringBuilder" := E42.wr W58
  have V62 : own_Arr Z h57 v0 .byte (Int32.ofNat 18) g := V43.other W58 ne_v0_r0
  have E63 : Exa Z h57 r1 "java/lang/String" := E44.wr W58
  have F64 : Fld Z h57 r1 "java/lang/String" "coder" "B" (.int (0 : Int32)) := F45.other W58 (Or.inl (Ne.symm ne_r0_r1))
  have F65 : Fld Z h57 r1 "java/lang/String" "value" "[B" (.ref t0) := F46.other W58 (Or.inl (Ne.symm ne_r0_r1))
  have V66 : own_Arr Z h57 t0 .byte (Int32.ofNat xs.length) f := V47.other W58 (Ne.symm ne_r0_t0)
  have K67 : Keep h0 h57 [r0] := K48.wr W58 (Or.inl (List.mem_of_getElem? (i := 0) rfl))
  have F68 : Fld Z h57 r0 "java/lang/AbstractStringBuilder" "maybeLatin1" "Z" (.int (0 : Int32)) := F49.other W58 (Or.inr (slot_ne (Or.inl (hw _ (List.mem_of_getElem? (i := 201) rfl))) (Or.inl (hw _ (List.mem_of_getElem? (i := 61) rfl))) (by decide) (t := .boolean) (t' := .int) (by decide) (by decide)))
  have F69 : Fld Z h57 r0 "java/lang/AbstractStringBuilder" "value" "[B" (.ref t14) := F50.other W58 (Or.inr (slot_ne (Or.inl (hw _ (List.mem_of_getElem? (i := 45) rfl))) (Or.inl (hw _ (List.mem_of_getElem? (i := 61) rfl))) (by decide) (t := (.array .byte)) (t' := .int) (by decide) (by decide)))
  have F70 : Fld Z h57 r0 "java/lang/AbstractStringBuilder" "coder" "B" (.int (0 : Int32)) := F51.other W58 (Or.inr (slot_ne (Or.inl (hw _ (List.mem_of_getElem? (i := 43) rfl))) (Or.inl (hw _ (List.mem_of_getElem? (i := 61) rfl))) (by decide) (t := .byte) (t' := .int) (by decide) (by decide)))
  have F71 : Fld Z h57 r0 "java/lang/AbstractStringBuilder" "count" "I" (.int (Int32.ofNat 20)) := F52.same W58
  have V72 : own_Arr Z h57 t14 .byte (Int32.ofNat 38) (own_cpf f 0 17 xs.length (own_cpf g 0 0 18 (fun _ => 0))) := V39.other W58 (Ne.symm ne_r0_t14)
  show own_Go _ _ _ _ (T55.setTop (mkF m 43 #[.val (.ref r0), .val (.ref r1), .val (.int (Int32.ofNat xs.length))] []))
  refine own_go (fun t_ k_ => XS.aloadN A56.here hx rfl (hb hby d9_43) rfl rfl k_) ?_
  show own_Go _ _ _ _ (T55.setTop (mkF m 44 #[.val (.ref r0), .val (.ref r1), .val (.int (Int32.ofNat xs.length))] [(.ref r0)]))
  refine own_retA A56 hx hret rfl hlk (by decide) (by decide) rfl (hb hby d9_44) ?_
  exact ⟨rfl, K67, t14, gt15, nw_t14, F69, F70, F71, F68, V72⟩
set_option maxRecDepth 65536 in
set_option maxHeartbeats 40000000 in
theorem rm8_g38 (l : Launch) (Z : State) (a0 : Array Value) (hw : ∀ d ∈ tables_1, d.before a0 Z = true) (r0 : Addr) (r1 : Addr) (z_C : Int32) (t0 : Addr) (f : Int32 → Int32) (xs : List Int32) (g : Int32 → Int32) (v0 : Addr) (h0 : Heap) (n0 : Nat) (O0 : Old Z n0 h0) (hz : ¬ z_C = 0) (S_COMPACT_STRINGS : Sta Z Z.heap "java/lang/String" "COMPACT_STRINGS" "Z" (.int z_C)) (Z0 : n0 ≤ h0.size) (Eb : Exa Z h0 r0 "java/lang/StringBuilder") (Fbv : Fld Z h0 r0 "java/lang/AbstractStringBuilder" "value" "[B" (.ref v0)) (Fbc : Fld Z h0 r0 "java/lang/AbstractStringBuilder" "coder" "B" (.int (0 : Int32))) (Fbn : Fld Z h0 r0 "java/lang/AbstractStringBuilder" "count" "I" (.int (Int32.ofNat 17))) (Fbm : Fld Z h0 r0 "java/lang/AbstractStringBuilder" "maybeLatin1" "Z" (.int (0 : Int32))) (Vb : own_Arr Z h0 v0 .byte (Int32.ofNat 18) g) (Es : Exa Z h0 r1 "java/lang/String") (Fcs : Fld Z h0 r1 "java/lang/String" "coder" "B" (.int (0 : Int32))) (Fvs : Fld Z h0 r1 "java/lang/String" "value" "[B" (.ref t0)) (Vs : own_Arr Z h0 t0 .byte (Int32.ofNat xs.length) f) (g0 : n0 ≤ r0) (ne_v0_r0 : v0 ≠ r0) (ne_r0_r1 : r0 ≠ r1) (ne_r0_t0 : r0 ≠ t0) (Bs : own_Byt f xs.length) (Bb : own_Byt g 18) (hx3 : xs.length = 3) :
    own_Met l Z n0 (⟨"java/lang/StringBuilder", "append", "(Ljava/lang/String;)Ljava/lang/StringBuilder;"⟩ : MethodName) jdk_67_method_7_code 2 (some (.object "java/lang/StringBuilder")) ({ frames := 5, cells := 1, slots := 38, locals := 83 } : Room) #[(.ref r0), (.ref r1)] h0 (fun v h => v = some (.ref r0) ∧ Keep h0 h [r0] ∧ ∃ v1, n0 ≤ v1 ∧ h0.size ≤ v1 ∧ Fld Z h r0 "java/lang/AbstractStringBuilder" "value" "[B" (.ref v1) ∧ Fld Z h r0 "java/lang/AbstractStringBuilder" "coder" "B" (.int (0 : Int32)) ∧ Fld Z h r0 "java/lang/AbstractStringBuilder" "count" "I" (.int (Int32.ofNat 20)) ∧ Fld Z h r0 "java/lang/AbstractStringBuilder" "maybeLatin1" "Z" (.int (0 : Int32)) ∧ own_Arr Z h v1 .byte (Int32.ofNat 38) (own_cpf f 0 17 xs.length (own_cpf g 0 0 18 (fun _ => 0)))) := by
  refine own_met (plainFor_of_name pn_8) ?_
  intro p e s m below meth c T0 hx hby hml hown hnm hret hlk hZ A0
  rw [ef_8]
  show own_Go _ _ _ _ (T0.setTop (mkF m 0 #[.val (.ref r0), .val (.ref r1)] []))
  refine own_go (fun t_ k_ => XS.aloadN A0.here hx rfl (hb hby d8_0) rfl rfl k_) ?_
  show own_Go _ _ _ _ (T0.setTop (mkF m 1 #[.val (.ref r0), .val (.ref r1)] [(.ref r0)]))
  refine own_go (fun t_ k_ => XS.aloadN A0.here hx rfl (hb hby d8_1) rfl rfl k_) ?_
  show own_Go _ _ _ _ (T0.setTop (mkF m 2 #[.val (.ref r0), .val (.ref r1)] [(.ref r1), (.ref r0)]))
  refine own_callU A0 hx hZ (y := (⟨"java/lang/AbstractStringBuilder", "append", "(Ljava/lang/String;)Ljava/lang/AbstractStringBuilder;"⟩ : MethodName)) hown (hw _ (List.mem_of_getElem? (i := 57) rfl)) (hw _ (List.mem_of_getElem? (i := 48) rfl)) (hw _ (List.mem_of_getElem? (i := 65) rfl)) rfl (hw _ (List.mem_of_getElem? (i := 58) rfl)) (by decide) (hw _ (List.mem_of_getElem? (i := 22) rfl)) (hw _ (List.mem_of_getElem? (i := 59) rfl)) (by decide) (b := r0) (argsL := [(.ref r1)]) (rest := []) (Ins.of_exa Eb (hw _ (List.mem_of_getElem? (i := 21) rfl))) (rm9_g38 l Z a0 hw r0 r1 z_C t0 f xs g v0 h0 n0 O0 hz S_COMPACT_STRINGS Z0 Eb Fbv Fbc Fbn Fbm Vb Es Fcs Fvs Vs g0 ne_v0_r0 ne_r0_r1 ne_r0_t0 Bs Bb hx3) 0 (by decide) (by decide) rfl (by rw [hml]; rfl) (lenOf pd__Ljava_lang_String__Ljava_lang_AbstractStringBuilder_ rfl) rfl (by show 2 * 0 + _ ≤ _; exact Nat.le_of_eq rfl) (hb hby d8_2) (by decide) (by decide) (fun v4 T1 h3 A2 hQ5 => ?_)
  obtain ⟨rfl, K6, t7, gt8, nt9, F10, F11, F12, F13, V14⟩ := hQ5
  have ne_r0_t7 : r0 ≠ t7 := Nat.ne_of_lt (Nat.lt_of_lt_of_le Eb.lt nt9)
  have ne_v0_t7 : v0 ≠ t7 := Nat.ne_of_lt (Nat.lt_of_lt_of_le Vb.lt nt9)
  have ne_r1_t7 : r1 ≠ t7 := Nat.ne_of_lt (Nat.lt_of_lt_of_le Es.lt nt9)
  have ne_t0_t7 : t0 ≠ t7 := Nat.ne_of_lt (Nat.lt_of_lt_of_le Vs.lt nt9)
  have nw_t7 : h0.size ≤ t7 := Nat.le_trans (Keep.refl h0 [r0]).1 nt9
  have O15 : Old Z n0 h3 := O0.keep K6 (allS g0 all0)
  have Z16 : n0 ≤ h3.size := Nat.le_trans Z0 K6.1
  have E17 : Exa Z h3 r0 "java/lang/StringBuilder" := Eb.keep K6
  have V18 : own_Arr Z h3 v0 .byte (Int32.ofNat 18) g := Vb.keep K6 (ninS ne_v0_r0 nin0)
  have E19 : Exa Z h3 r1 "java/lang/String" := Es.keep K6
  have F20 : Fld Z h3 r1 "java/lang/String" "coder" "B" (.int (0 : Int32)) := Fcs.keep K6 (ninS (Ne.symm ne_r0_r1) nin0)
  have F21 : Fld Z h3 r1 "java/lang/String" "value" "[B" (.ref t0) := Fvs.keep K6 (ninS (Ne.symm ne_r0_r1) nin0)
  have V22 : own_Arr Z h3 t0 .byte (Int32.ofNat xs.length) f := Vs.keep K6 (ninS (Ne.symm ne_r0_t0) nin0)
  have K23 : Keep h0 h3 [r0] := (Keep.refl h0 [r0]).trans K6 (allS (Or.inl (List.mem_of_getElem? (i := 0) rfl)) all0)
  show own_Go _ _ _ _ (T1.setTop (mkF m 5 #[.val (.ref r0), .val (.ref r1)] [(.ref r0)]))
  refine own_go (fun t_ k_ => XS.pop A2.here hx rfl (hb hby d8_5) rfl rfl k_) ?_
  show own_Go _ _ _ _ (T1.setTop (mkF m 6 #[.val (.ref r0), .val (.ref r1)] []))
  refine own_go (fun t_ k_ => XS.aloadN A2.here hx rfl (hb hby d8_6) rfl rfl k_) ?_
  show own_Go _ _ _ _ (T1.setTop (mkF m 7 #[.val (.ref r0), .val (.ref r1)] [(.ref r0)]))
  refine own_retA A2 hx hret rfl hlk (by decide) (by decide) rfl (hb hby d8_7) ?_
  exact ⟨rfl, K23, t7, gt8, nw_t7, F10, F11, F12, F13, V14⟩
theorem ef_3 (m : MethodId) (r0 : Addr) (r1 : Addr) : entryFrame m #[(.ref r0), (.ref r1)] 5 = mkF m 0 #[.val (.ref r0), .val (.ref r1), .unset, .unset, .unset] [] := by first | (simp [entryFrame, mkF, argsToLocals, Value.category]; done) | rfl
theorem d3_0 : decode jdk_68_method_3_code 0 = .ok (.aload_n 0, 1) := by decide +kernel
theorem d3_1 : decode jdk_68_method_3_code 1 = .ok (.invokespecial 3, 3) := by decide +kernel
theorem d3_4 : decode jdk_68_method_3_code 4 = .ok (.aload_n 1, 1) := by decide +kernel
theorem d3_5 : decode jdk_68_method_3_code 5 = .ok (.invokevirtual 32, 3) := by decide +kernel
theorem d3_8 : decode jdk_68_method_3_code 8 = .ok (.istore_n 2, 1) := by decide +kernel
theorem d3_9 : decode jdk_68_method_3_code 9 = .ok (.iload_n 2, 1) := by decide +kernel
theorem d3_10 : decode jdk_68_method_3_code 10 = .ok (.ldc 38, 2) := by decide +kernel
theorem d3_12 : decode jdk_68_method_3_code 12 = .ok (.if_icmp .ge 10, 3) := by decide +kernel
theorem d3_15 : decode jdk_68_method_3_code 15 = .ok (.iload_n 2, 1) := by decide +kernel
theorem d3_16 : decode jdk_68_method_3_code 16 = .ok (.bipush 16, 2) := by decide +kernel
theorem d3_18 : decode jdk_68_method_3_code 18 = .ok (.iadd, 1) := by decide +kernel
theorem d3_19 : decode jdk_68_method_3_code 19 = .ok (.goto 5, 3) := by decide +kernel
theorem d3_24 : decode jdk_68_method_3_code 24 = .ok (.istore_n 3, 1) := by decide +kernel
theorem d3_25 : decode jdk_68_method_3_code 25 = .ok (.aload_n 1, 1) := by decide +kernel
theorem d3_26 : decode jdk_68_method_3_code 26 = .ok (.invokevirtual 40, 3) := by decide +kernel
theorem d3_29 : decode jdk_68_method_3_code 29 = .ok (.istore 4, 2) := by decide +kernel
theorem d3_31 : decode jdk_68_method_3_code 31 = .ok (.aload_n 0, 1) := by decide +kernel
theorem d3_32 : decode jdk_68_method_3_code 32 = .ok (.iload 4, 2) := by decide +kernel
theorem d3_34 : decode jdk_68_method_3_code 34 = .ok (.putfield 22, 3) := by decide +kernel
theorem d3_37 : decode jdk_68_method_3_code 37 = .ok (.aload_n 0, 1) := by decide +kernel
theorem d3_38 : decode jdk_68_method_3_code 38 = .ok (.iload 4, 2) := by decide +kernel
theorem d3_40 : decode jdk_68_method_3_code 40 = .ok (.ifCond .ne 9, 3) := by decide +kernel
theorem d3_43 : decode jdk_68_method_3_code 43 = .ok (.iload_n 3, 1) := by decide +kernel
theorem d3_44 : decode jdk_68_method_3_code 44 = .ok (.newarray .byte, 2) := by decide +kernel
theorem d3_46 : decode jdk_68_method_3_code 46 = .ok (.goto 7, 3) := by decide +kernel
theorem d3_53 : decode jdk_68_method_3_code 53 = .ok (.putfield 15, 3) := by decide +kernel
theorem d3_56 : decode jdk_68_method_3_code 56 = .ok (.aload_n 0, 1) := by decide +kernel
theorem d3_57 : decode jdk_68_method_3_code 57 = .ok (.aload_n 1, 1) := by decide +kernel
theorem d3_58 : decode jdk_68_method_3_code 58 = .ok (.invokevirtual 43, 3) := by decide +kernel
theorem d3_61 : decode jdk_68_method_3_code 61 = .ok (.pop, 1) := by decide +kernel
theorem d3_62 : decode jdk_68_method_3_code 62 = .ok (.return_, 1) := by decide +kernel
set_option maxRecDepth 65536 in
set_option maxHeartbeats 40000000 in
theorem rm3 (l : Launch) (Z : State) (a0 : Array Value) (hw : ∀ d ∈ tables_1, d.before a0 Z = true) (r0 : Addr) (r1 : Addr) (z_C : Int32) (t0 : Addr) (f : Int32 → Int32) (xs : List Int32) (h0 : Heap) (n0 : Nat) (O0 : Old Z n0 h0) (hz : ¬ z_C = 0) (S_COMPACT_STRINGS : Sta Z Z.heap "java/lang/String" "COMPACT_STRINGS" "Z" (.int z_C)) (Z0 : n0 ≤ h0.size) (Eb : Exa Z h0 r0 "java/lang/StringBuilder") (F0v : Fld Z h0 r0 "java/lang/AbstractStringBuilder" "value" "[B" .null) (F0c : Fld Z h0 r0 "java/lang/AbstractStringBuilder" "coder" "B" (.int (0 : Int32))) (F0n : Fld Z h0 r0 "java/lang/AbstractStringBuilder" "count" "I" (.int (0 : Int32))) (F0m : Fld Z h0 r0 "java/lang/AbstractStringBuilder" "maybeLatin1" "Z" (.int (0 : Int32))) (Es : Exa Z h0 r1 "java/lang/String") (Fcs : Fld Z h0 r1 "java/lang/String" "coder" "B" (.int (0 : Int32))) (Fvs : Fld Z h0 r1 "java/lang/String" "value" "[B" (.ref t0)) (Vs : own_Arr Z h0 t0 .byte (Int32.ofNat xs.length) f) (g0 : n0 ≤ r0) (ne_r0_r1 : r0 ≠ r1) (ne_r0_t0 : r0 ≠ t0) (Bs : own_Byt f xs.length) (hx2 : xs.length = 2) :
    own_Met l Z n0 (⟨"java/lang/AbstractStringBuilder", "<init>", "(Ljava/lang/String;)V"⟩ : MethodName) jdk_68_method_3_code 5 none ({ frames := 6, cells := 1, slots := 18, locals := 109 } : Room) #[(.ref r0), (.ref r1)] h0 (fun v h => v = none ∧ Keep h0 h [r0] ∧ ∃ v0, n0 ≤ v0 ∧ h0.size ≤ v0 ∧ Fld Z h r0 "java/lang/AbstractStringBuilder" "value" "[B" (.ref v0) ∧ Fld Z h r0 "java/lang/AbstractStringBuilder" "coder" "B" (.int (0 : Int32)) ∧ Fld Z h r0 "java/lang/AbstractStringBuilder" "count" "I" (.int (Int32.ofNat (0 + xs.length))) ∧ Fld Z h r0 "java/lang/AbstractStringBuilder" "maybeLatin1" "Z" (.int (0 : Int32)) ∧ own_Arr Z h v0 .byte (Int32.ofNat 18) (own_cpf f 0 0 xs.length (fun _ => 0))) := by
  refine own_met (plainFor_of_name pn_10) ?_
  intro p e s m below meth c T0 hx hby hml hown hnm hret hlk hZ A0
  rw [ef_3]
  show own_Go _ _ _ _ (T0.setTop (mkF m 0 #[.val (.ref r0), .val (.ref r1), .unset, .unset, .unset] []))
  refine own_go (fun t_ k_ => XS.aloadN A0.here hx rfl (hb hby d3_0) rfl rfl k_) ?_
  show own_Go _ _ _ _ (T0.setTop (mkF m 1 #[.val (.ref r0), .val (.ref r1), .unset, .unset, .unset] [(.ref r0)]))
  refine own_initO A0 hx hZ hown (hw _ (List.mem_of_getElem? (i := 24) rfl)) (hw _ (List.mem_of_getElem? (i := 25) rfl)) (hw _ (List.mem_of_getElem? (i := 26) rfl)) rfl (by rw [hml]; rfl) rfl (hb hby d3_1) (by decide) 0 (by show 2 * 0 + _ ≤ _; exact Nat.le_of_eq rfl) (by decide) (fun T1 A2 => ?_)
  show own_Go _ _ _ _ (T1.setTop (mkF m 4 #[.val (.ref r0), .val (.ref r1), .unset, .unset, .unset] []))
  refine own_go (fun t_ k_ => XS.aloadN A2.here hx rfl (hb hby d3_4) rfl rfl k_) ?_
  show own_Go _ _ _ _ (T1.setTop (mkF m 5 #[.val (.ref r0), .val (.ref r1), .unset, .unset, .unset] [(.ref r1)]))
  refine own_callV A2 hx hZ (y := (⟨"java/lang/String", "length", "()I"⟩ : MethodName)) (z := (⟨"java/lang/String", "length", "()I"⟩ : MethodName)) hown (hw _ (List.mem_of_getElem? (i := 27) rfl)) (hw _ (List.mem_of_getElem? (i := 28) rfl)) (hw _ (List.mem_of_getElem? (i := 30) rfl)) (hw _ (List.mem_of_getElem? (i := 29) rfl)) (hw _ (List.mem_of_getElem? (i := 8) rfl)) (hw _ (List.mem_of_getElem? (i := 31) rfl)) (notFace_of_selects (args := #[]) (mvT hZ (hw _ (List.mem_of_getElem? (i := 30) rfl)))) (by decide) (b := r1) (argsL := []) (rest := []) Es (rm5 l Z a0 hw r1 z_C t0 f xs h0 n0 (S_COMPACT_STRINGS.ext O0.2) hz Es Fcs Fvs Vs) 0 (by decide) (by decide) rfl (by rw [hml]; rfl) (lenOf pd___I rfl) rfl (by show 2 * 0 + _ ≤ _; exact Nat.le_of_eq rfl) (hb hby d3_5) (by decide) (by decide) (fun v6 T3 h5 A4 hQ7 => ?_)
  obtain ⟨rfl, rfl⟩ := hQ7
  show own_Go _ _ _ _ (T3.setTop (mkF m 8 #[.val (.ref r0), .val (.ref r1), .unset, .unset, .unset] [(.int (Int32.ofNat xs.length))]))
  rw [show (Int32.ofNat xs.length) = (2 : Int32) from by rw [hx2]; rfl]
  show own_Go _ _ _ _ (T3.setTop (mkF m 8 #[.val (.ref r0), .val (.ref r1), .unset, .unset, .unset] [(.int (2 : Int32))]))
  refine own_go (fun t_ k_ => XS.istoreN A4.here hx rfl (hb hby d3_8) rfl (l' := #[.val (.ref r0), .val (.ref r1), .val (.int (2 : Int32)), .unset, .unset]) rfl k_) ?_
  show own_Go _ _ _ _ (T3.setTop (mkF m 9 #[.val (.ref r0), .val (.ref r1), .val (.int (2 : Int32)), .unset, .unset] []))
  refine own_go (fun t_ k_ => XS.iloadN A4.here hx rfl (hb hby d3_9) rfl k_) ?_
  show own_Go _ _ _ _ (T3.setTop (mkF m 10 #[.val (.ref r0), .val (.ref r1), .val (.int (2 : Int32)), .unset, .unset] [(.int (2 : Int32))]))
  refine own_ldcI A4 hx hZ hown (hw _ (List.mem_of_getElem? (i := 40) rfl)) rfl (hb hby d3_10) ?_
  show own_Go _ _ _ _ (T3.setTop (mkF m 12 #[.val (.ref r0), .val (.ref r1), .val (.int (2 : Int32)), .unset, .unset] [(.int (2147483631 : Int32)), (.int (2 : Int32))]))
  have hc8 : (2 : Int32) < (2147483631 : Int32) := (by decide)
  refine own_go (fun t_ k_ => XS.icmpNo A4.here hx rfl (hb hby d3_12) rfl (tlt hc8).2.1 k_) ?_
  show own_Go _ _ _ _ (T3.setTop (mkF m 15 #[.val (.ref r0), .val (.ref r1), .val (.int (2 : Int32)), .unset, .unset] []))
  refine own_go (fun t_ k_ => XS.iloadN A4.here hx rfl (hb hby d3_15) rfl k_) ?_
  show own_Go _ _ _ _ (T3.setTop (mkF m 16 #[.val (.ref r0), .val (.ref r1), .val (.int (2 : Int32)), .unset, .unset] [(.int (2 : Int32))]))
  refine own_go (fun t_ k_ => XS.bipush A4.here hx rfl (hb hby d3_16) k_) ?_
  show own_Go _ _ _ _ (T3.setTop (mkF m 18 #[.val (.ref r0), .val (.ref r1), .val (.int (2 : Int32)), .unset, .unset] [(.int (16 : Int32)), (.int (2 : Int32))]))
  refine own_go (fun t_ k_ => XS.iadd A4.here hx rfl (hb hby d3_18) rfl k_) ?_
  show own_Go _ _ _ _ (T3.setTop (mkF m 19 #[.val (.ref r0), .val (.ref r1), .val (.int (2 : Int32)), .unset, .unset] [(.int (18 : Int32))]))
  refine own_go (fun t_ k_ => XS.goto A4.here hx rfl (pc0 := 19) (pc' := 24) rfl (hb hby d3_19) (by decide) (by decide) k_) ?_
  show own_Go _ _ _ _ (T3.setTop (mkF m 24 #[.val (.ref r0), .val (.ref r1), .val (.int (2 : Int32)), .unset, .unset] [(.int (18 : Int32))]))
  refine own_go (fun t_ k_ => XS.istoreN A4.here hx rfl (hb hby d3_24) rfl (l' := #[.val (.ref r0), .val (.ref r1), .val (.int (2 : Int32)), .val (.int (18 : Int32)), .unset]) rfl k_) ?_
  show own_Go _ _ _ _ (T3.setTop (mkF m 25 #[.val (.ref r0), .val (.ref r1), .val (.int (2 : Int32)), .val (.int (18 : Int32)), .unset] []))
  refine own_go (fun t_ k_ => XS.aloadN A4.here hx rfl (hb hby d3_25) rfl rfl k_) ?_
  show own_Go _ _ _ _ (T3.setTop (mkF m 26 #[.val (.ref r0), .val (.ref r1), .val (.int (2 : Int32)), .val (.int (18 : Int32)), .unset] [(.ref r1)]))
  refine own_callV A4 hx hZ (y := (⟨"java/lang/String", "coder", "()B"⟩ : MethodName)) (z := (⟨"java/lang/String", "coder", "()B"⟩ : MethodName)) hown (hw _ (List.mem_of_getElem? (i := 41) rfl)) (hw _ (List.mem_of_getElem? (i := 34) rfl)) (hw _ (List.mem_of_getElem? (i := 36) rfl)) (hw _ (List.mem_of_getElem? (i := 35) rfl)) (hw _ (List.mem_of_getElem? (i := 8) rfl)) (hw _ (List.mem_of_getElem? (i := 37) rfl)) (notFace_of_selects (args := #[]) (mvT hZ (hw _ (List.mem_of_getElem? (i := 36) rfl)))) (by decide) (b := r1) (argsL := []) (rest := []) Es (rm6 l Z a0 hw r1 z_C h0 n0 (S_COMPACT_STRINGS.ext O0.2) hz Fcs) 0 (by decide) (by decide) rfl (by rw [hml]; rfl) (lenOf pd___B rfl) rfl (by show 2 * 0 + _ ≤ _; exact Nat.le_of_eq rfl) (hb hby d3_26) (by decide) (by decide) (fun v12 T9 h11 A10 hQ13 => ?_)
  obtain ⟨rfl, rfl⟩ := hQ13
  show own_Go _ _ _ _ (T9.setTop (mkF m 29 #[.val (.ref r0), .val (.ref r1), .val (.int (2 : Int32)), .val (.int (18 : Int32)), .unset] [(.int (0 : Int32))]))
  refine own_go (fun t_ k_ => XS.istore A10.here hx rfl (hb hby d3_29) rfl (l' := #[.val (.ref r0), .val (.ref r1), .val (.int (2 : Int32)), .val (.int (18 : Int32)), .val (.int (0 : Int32))]) rfl k_) ?_
  show own_Go _ _ _ _ (T9.setTop (mkF m 31 #[.val (.ref r0), .val (.ref r1), .val (.int (2 : Int32)), .val (.int (18 : Int32)), .val (.int (0 : Int32))] []))
  refine own_go (fun t_ k_ => XS.aloadN A10.here hx rfl (hb hby d3_31) rfl rfl k_) ?_
  show own_Go _ _ _ _ (T9.setTop (mkF m 32 #[.val (.ref r0), .val (.ref r1), .val (.int (2 : Int32)), .val (.int (18 : Int32)), .val (.int (0 : Int32))] [(.ref r0)]))
  refine own_go (fun t_ k_ => XS.iload A10.here hx rfl (hb hby d3_32) rfl k_) ?_
  show own_Go _ _ _ _ (T9.setTop (mkF m 34 #[.val (.ref r0), .val (.ref r1), .val (.int (2 : Int32)), .val (.int (18 : Int32)), .val (.int (0 : Int32))] [(.int (0 : Int32)), (.ref r0)]))
  refine own_putF A10 hx hZ hown (host := "") (Or.inl (hw _ (List.mem_of_getElem? (i := 42) rfl))) Via.refl F0c Eb (Or.inl (hw _ (List.mem_of_getElem? (i := 43) rfl))) (hw _ (List.mem_of_getElem? (i := 5) rfl)) (ty := .byte) (by decide) rfl rfl g0 rfl rfl (hb hby d3_34) (fun T14 h16 A15 W17 => ?_)
  have O18 : Old Z n0 h16 := O0.wr W17 g0
  have Z19 : n0 ≤ h16.size := Nat.le_trans Z0 (Nat.le_of_eq (Wr.size W17).symm)
  have E20 : Exa Z h16 r0 "java/lang/StringBuilder" := Eb.wr W17
  have F21 : Fld Z h16 r0 "java/lang/AbstractStringBuilder" "value" "[B" .null := F0v.other W17 (Or.inr (slot_ne (Or.inl (hw _ (List.mem_of_getElem? (i := 45) rfl))) (Or.inl (hw _ (List.mem_of_getElem? (i := 43) rfl))) (by decide) (t := (.array .byte)) (t' := .byte) (by decide) (by decide)))
  have F22 : Fld Z h16 r0 "java/lang/AbstractStringBuilder" "coder" "B" (.int (0 : Int32)) := F0c.same W17
  have F23 : Fld Z h16 r0 "java/lang/AbstractStringBuilder" "count" "I" (.int (0 : Int32)) := F0n.other W17 (Or.inr (slot_ne (Or.inl (hw _ (List.mem_of_getElem? (i := 61) rfl))) (Or.inl (hw _ (List.mem_of_getElem? (i := 43) rfl))) (by decide) (t := .int) (t' := .byte) (by decide) (by decide)))
  have F24 : Fld Z h16 r0 "java/lang/AbstractStringBuilder" "maybeLatin1" "Z" (.int (0 : Int32)) := F0m.other W17 (Or.inr (slot_ne (Or.inl (hw _ (List.mem_of_getElem? (i := 201) rfl))) (Or.inl (hw _ (List.mem_of_getElem? (i := 43) rfl))) (by decide) (t := .boolean) (t' := .byte) (by decide) (by decide)))
  have E25 : Exa Z h16 r1 "java/lang/String" := Es.wr W17
  have F26 : Fld Z h16 r1 "java/lang/String" "coder" "B" (.int (0 : Int32)) := Fcs.other W17 (Or.inl (Ne.symm ne_r0_r1))
  have F27 : Fld Z h16 r1 "java/lang/String" "value" "[B" (.ref t0) := Fvs.other W17 (Or.inl (Ne.symm ne_r0_r1))
  have V28 : own_Arr Z h16 t0 .byte (Int32.ofNat xs.length) f := Vs.other W17 (Ne.symm ne_r0_t0)
  have K29 : Keep h0 h16 [r0] := (Keep.refl h0 [r0]).wr W17 (Or.inl (List.mem_of_getElem? (i := 0) rfl))
  show own_Go _ _ _ _ (T14.setTop (mkF m 37 #[.val (.ref r0), .val (.ref r1), .val (.int (2 : Int32)), .val (.int (18 : Int32)), .val (.int (0 : Int32))] []))
  refine own_go (fun t_ k_ => XS.aloadN A15.here hx rfl (hb hby d3_37) rfl rfl k_) ?_
  show own_Go _ _ _ _ (T14.setTop (mkF m 38 #[.val (.ref r0), .val (.ref r1), .val (.int (2 : Int32)), .val (.int (18 : Int32)), .val (.int (0 : Int32))] [(.ref r0)]))
  refine own_go (fun t_ k_ => XS.iload A15.here hx rfl (hb hby d3_38) rfl k_) ?_
  show own_Go _ _ _ _ (T14.setTop (mkF m 40 #[.val (.ref r0), .val (.ref r1), .val (.int (2 : Int32)), .val (.int (18 : Int32)), .val (.int (0 : Int32))] [(.int (0 : Int32)), (.ref r0)]))
  have hc30 : (0 : Int32) = (0 : Int32) := (by decide)
  refine own_go (fun t_ k_ => XS.ifNo A15.here hx rfl (hb hby d3_40) rfl ((if0 _ _).trans (teq hc30).2) k_) ?_
  show own_Go _ _ _ _ (T14.setTop (mkF m 43 #[.val (.ref r0), .val (.ref r1), .val (.int (2 : Int32)), .val (.int (18 : Int32)), .val (.int (0 : Int32))] [(.ref r0)]))
  refine own_go (fun t_ k_ => XS.iloadN A15.here hx rfl (hb hby d3_43) rfl k_) ?_
  show own_Go _ _ _ _ (T14.setTop (mkF m 44 #[.val (.ref r0), .val (.ref r1), .val (.int (2 : Int32)), .val (.int (18 : Int32)), .val (.int (0 : Int32))] [(.int (18 : Int32)), (.ref r0)]))
  refine own_newP A15 hx hZ (hw _ (List.mem_of_getElem? (i := 10) rfl)) rfl rfl (hb hby d3_44) rfl (by decide) 18 (by decide) (by decide) (by decide) (by decide) (fun T31 h33 b34 ha_b34 A32 E35 V36 R37 => ?_)
  have ne_r0_b34 : r0 ≠ b34 := Nat.ne_of_lt (by rw [ha_b34]; exact E20.lt)
  have ne_r1_b34 : r1 ≠ b34 := Nat.ne_of_lt (by rw [ha_b34]; exact E25.lt)
  have ne_t0_b34 : t0 ≠ b34 := Nat.ne_of_lt (by rw [ha_b34]; exact V28.lt)
  have g_b34 : n0 ≤ b34 := by rw [ha_b34]; exact Z19
  have nw_b34 : h0.size ≤ b34 := by rw [ha_b34]; exact K29.1
  have O38 : Old Z n0 h33 := O18.ext E35
  have Z39 : n0 ≤ h33.size := Nat.le_trans Z19 E35.1
  have E40 : Exa Z h33 r0 "java/lang/StringBuilder" := E20.ext E35
  have F41 : Fld Z h33 r0 "java/lang/AbstractStringBuilder" "value" "[B" .null := F21.ext E35
  have F42 : Fld Z h33 r0 "java/lang/AbstractStringBuilder" "coder" "B" (.int (0 : Int32)) := F22.ext E35
  have F43 : Fld Z h33 r0 "java/lang/AbstractStringBuilder" "count" "I" (.int (0 : Int32)) := F23.ext E35
  have F44 : Fld Z h33 r0 "java/lang/AbstractStringBuilder" "maybeLatin1" "Z" (.int (0 : Int32)) := F24.ext E35
  have E45 : Exa Z h33 r1 "java/lang/String" := E25.ext E35
  have F46 : Fld Z h33 r1 "java/lang/String" "coder" "B" (.int (0 : Int32)) := F26.ext E35
  have F47 : Fld Z h33 r1 "java/lang/String" "value" "[B" (.ref t0) := F27.ext E35
  have V48 : own_Arr Z h33 t0 .byte (Int32.ofNat xs.length) f := V28.ext E35
  have K49 : Keep h0 h33 [r0] := K29.ext E35
  show own_Go _ _ _ _ (T31.setTop (mkF m 46 #[.val (.ref r0), .val (.ref r1), .val (.int (2 : Int32)), .val (.int (18 : Int32)), .val (.int (0 : Int32))] [(.ref b34), (.ref r0)]))
  refine own_go (fun t_ k_ => XS.goto A32.here hx rfl (pc0 := 46) (pc' := 53) rfl (hb hby d3_46) (by decide) (by decide) k_) ?_
  show own_Go _ _ _ _ (T31.setTop (mkF m 53 #[.val (.ref r0), .val (.ref r1), .val (.int (2 : Int32)), .val (.int (18 : Int32)), .val (.int (0 : Int32))] [(.ref b34), (.ref r0)]))
  refine own_putF A32 hx hZ hown (host := "") (Or.inl (hw _ (List.mem_of_getElem? (i := 44) rfl))) Via.refl F41 E40 (Or.inl (hw _ (List.mem_of_getElem? (i := 45) rfl))) (hw _ (List.mem_of_getElem? (i := 5) rfl)) (ty := (.array .byte)) (by decide) rfl rfl g0 rfl rfl (hb hby d3_53) (fun T50 h52 A51 W53 => ?_)
  have O54 : Old Z n0 h52 := O38.wr W53 g0
  have Z55 : n0 ≤ h52.size := Nat.le_trans Z39 (Nat.le_of_eq (Wr.size W53).symm)
  have E56 : Exa Z h52 r0 "java/lang/StringBuilder" := E40.wr W53
  have F57 : Fld Z h52 r0 "java/lang/AbstractStringBuilder" "value" "[B" (.ref b34) := F41.same W53
  have F58 : Fld Z h52 r0 "java/lang/AbstractStringBuilder" "coder" "B" (.int (0 : Int32)) := F42.other W53 (Or.inr (slot_ne (Or.inl (hw _ (List.mem_of_getElem? (i := 43) rfl))) (Or.inl (hw _ (List.mem_of_getElem? (i := 45) rfl))) (by decide) (t := .byte) (t' := (.array .byte)) (by decide) (by decide)))
  have F59 : Fld Z h52 r0 "java/lang/AbstractStringBuilder" "count" "I" (.int (0 : Int32)) := F43.other W53 (Or.inr (slot_ne (Or.inl (hw _ (List.mem_of_getElem? (i := 61) rfl))) (Or.inl (hw _ (List.mem_of_getElem? (i := 45) rfl))) (by decide) (t := .int) (t' := (.array .byte)) (by decide) (by decide)))
  have F60 : Fld Z h52 r0 "java/lang/AbstractStringBuilder" "maybeLatin1" "Z" (.int (0 : Int32)) := F44.other W53 (Or.inr (slot_ne (Or.inl (hw _ (List.mem_of_getElem? (i := 201) rfl))) (Or.inl (hw _ (List.mem_of_getElem? (i := 45) rfl))) (by decide) (t := .boolean) (t' := (.array .byte)) (by decide) (by decide)))
  have E61 : Exa Z h52 r1 "java/lang/String" := E45.wr W53
  have F62 : Fld Z h52 r1 "java/lang/String" "coder" "B" (.int (0 : Int32)) := F46.other W53 (Or.inl (Ne.symm ne_r0_r1))
  have F63 : Fld Z h52 r1 "java/lang/String" "value" "[B" (.ref t0) := F47.other W53 (Or.inl (Ne.symm ne_r0_r1))
  have V64 : own_Arr Z h52 t0 .byte (Int32.ofNat xs.length) f := V48.other W53 (Ne.symm ne_r0_t0)
  have K65 : Keep h0 h52 [r0] := K49.wr W53 (Or.inl (List.mem_of_getElem? (i := 0) rfl))
  have V66 : own_Arr Z h52 b34 .byte (18 : Int32) (fun _ => 0) := V36.other W53 (Ne.symm ne_r0_b34)
  show own_Go _ _ _ _ (T50.setTop (mkF m 56 #[.val (.ref r0), .val (.ref r1), .val (.int (2 : Int32)), .val (.int (18 : Int32)), .val (.int (0 : Int32))] []))
  refine own_go (fun t_ k_ => XS.aloadN A51.here hx rfl (hb hby d3_56) rfl rfl k_) ?_
  show own_Go _ _ _ _ (T50.setTop (mkF m 57 #[.val (.ref r0), .val (.ref r1), .val (.int (2 : Int32)), .val (.int (18 : Int32)), .val (.int (0 : Int32))] [(.ref r0)]))
  refine own_go (fun t_ k_ => XS.aloadN A51.here hx rfl (hb hby d3_57) rfl rfl k_) ?_
  show own_Go _ _ _ _ (T50.setTop (mkF m 58 #[.val (.ref r0), .val (.ref r1), .val (.int (2 : Int32)), .val (.int (18 : Int32)), .val (.int (0 : Int32))] [(.ref r1), (.ref r0)]))
  refine own_callV A51 hx hZ (y := (⟨"java/lang/AbstractStringBuilder", "append", "(Ljava/lang/String;)Ljava/lang/AbstractStringBuilder;"⟩ : MethodName)) (z := (⟨"java/lang/StringBuilder", "append", "(Ljava/lang/String;)Ljava/lang/AbstractStringBuilder;"⟩ : MethodName)) hown (hw _ (List.mem_of_getElem? (i := 46) rfl)) (hw _ (List.mem_of_getElem? (i := 47) rfl)) (hw _ (List.mem_of_getElem? (i := 49) rfl)) (hw _ (List.mem_of_getElem? (i := 50) rfl)) (hw _ (List.mem_of_getElem? (i := 6) rfl)) (hw _ (List.mem_of_getElem? (i := 51) rfl)) (own_notFace (args := #[]) (mvT hZ (hw _ (List.mem_of_getElem? (i := 65) rfl))) rfl) (by decide) (b := r0) (argsL := [(.ref r1)]) (rest := []) E56 (rm7 l Z a0 hw r0 r1 z_C t0 f xs (fun _ => 0) 0 18 b34 h52 n0 (S_COMPACT_STRINGS.ext O54.2) hz E56 F57 F58 F59 F60 V66 (by decide) E61 F62 F63 V64 g_b34 g0 (Ne.symm ne_r0_b34) (Ne.symm ne_r1_b34) (Ne.symm ne_t0_b34) ne_r0_r1 ne_r0_t0 Bs (fun k hk => rfl) (by omega)) 0 (by decide) (by decide) rfl (by rw [hml]; rfl) (lenOf pd__Ljava_lang_String__Ljava_lang_AbstractStringBuilder_ rfl) rfl (by show 2 * 0 + _ ≤ _; exact Nat.le_of_eq rfl) (hb hby d3_58) (by decide) (by decide) (fun v70 T67 h69 A68 hQ71 => ?_)
  obtain ⟨rfl, K72, F73, F74, F75, F76, V77⟩ := hQ71
  have O78 : Old Z n0 h69 := O54.keep K72 (allS g0 (allS g_b34 all0))
  have Z79 : n0 ≤ h69.size := Nat.le_trans Z55 K72.1
  have E80 : Exa Z h69 r0 "java/lang/StringBuilder" := E56.keep K72
  have E81 : Exa Z h69 r1 "java/lang/String" := E61.keep K72
  have F82 : Fld Z h69 r1 "java/lang/String" "coder" "B" (.int (0 : Int32)) := F62.keep K72 (ninS (Ne.symm ne_r0_r1) (ninS ne_r1_b34 nin0))
  have F83 : Fld Z h69 r1 "java/lang/String" "value" "[B" (.ref t0) := F63.keep K72 (ninS (Ne.symm ne_r0_r1) (ninS ne_r1_b34 nin0))
  have V84 : own_Arr Z h69 t0 .byte (Int32.ofNat xs.length) f := V64.keep K72 (ninS (Ne.symm ne_r0_t0) (ninS ne_t0_b34 nin0))
  have K85 : Keep h0 h69 [r0] := K65.trans K72 (allS (Or.inl (List.mem_of_getElem? (i := 0) rfl)) (allS (Or.inr nw_b34) all0))
  show own_Go _ _ _ _ (T67.setTop (mkF m 61 #[.val (.ref r0), .val (.ref r1), .val (.int (2 : Int32)), .val (.int (18 : Int32)), .val (.int (0 : Int32))] [(.ref r0)]))
  refine own_go (fun t_ k_ => XS.pop A68.here hx rfl (hb hby d3_61) rfl rfl k_) ?_
  show own_Go _ _ _ _ (T67.setTop (mkF m 62 #[.val (.ref r0), .val (.ref r1), .val (.int (2 : Int32)), .val (.int (18 : Int32)), .val (.int (0 : Int32))] []))
  refine own_retV A68 hx hret hlk (by decide) (by decide) (hb hby d3_62) ?_
  exact ⟨rfl, K85, b34, g_b34, nw_b34, F73, F74, F75, F76, V77⟩
theorem ef_2 (m : MethodId) (r0 : Addr) (r1 : Addr) : entryFrame m #[(.ref r0), (.ref r1)] 2 = mkF m 0 #[.val (.ref r0), .val (.ref r1)] [] := by first | (simp [entryFrame, mkF, argsToLocals, Value.category]; done) | rfl
theorem d2_0 : decode jdk_67_method_3_code 0 = .ok (.aload_n 0, 1) := by decide +kernel
theorem d2_1 : decode jdk_67_method_3_code 1 = .ok (.aload_n 1, 1) := by decide +kernel
theorem d2_2 : decode jdk_67_method_3_code 2 = .ok (.invokespecial 7, 3) := by decide +kernel
theorem d2_5 : decode jdk_67_method_3_code 5 = .ok (.return_, 1) := by decide +kernel
set_option maxRecDepth 65536 in
set_option maxHeartbeats 40000000 in
theorem rm2 (l : Launch) (Z : State) (a0 : Array Value) (hw : ∀ d ∈ tables_1, d.before a0 Z = true) (r0 : Addr) (r1 : Addr) (z_C : Int32) (t0 : Addr) (f : Int32 → Int32) (xs : List Int32) (h0 : Heap) (n0 : Nat) (O0 : Old Z n0 h0) (hz : ¬ z_C = 0) (S_COMPACT_STRINGS : Sta Z Z.heap "java/lang/String" "COMPACT_STRINGS" "Z" (.int z_C)) (Z0 : n0 ≤ h0.size) (Eb : Exa Z h0 r0 "java/lang/StringBuilder") (F0v : Fld Z h0 r0 "java/lang/AbstractStringBuilder" "value" "[B" .null) (F0c : Fld Z h0 r0 "java/lang/AbstractStringBuilder" "coder" "B" (.int (0 : Int32))) (F0n : Fld Z h0 r0 "java/lang/AbstractStringBuilder" "count" "I" (.int (0 : Int32))) (F0m : Fld Z h0 r0 "java/lang/AbstractStringBuilder" "maybeLatin1" "Z" (.int (0 : Int32))) (Es : Exa Z h0 r1 "java/lang/String") (Fcs : Fld Z h0 r1 "java/lang/String" "coder" "B" (.int (0 : Int32))) (Fvs : Fld Z h0 r1 "java/lang/String" "value" "[B" (.ref t0)) (Vs : own_Arr Z h0 t0 .byte (Int32.ofNat xs.length) f) (g0 : n0 ≤ r0) (ne_r0_r1 : r0 ≠ r1) (ne_r0_t0 : r0 ≠ t0) (Bs : own_Byt f xs.length) (hx2 : xs.length = 2) :
    own_Met l Z n0 (⟨"java/lang/StringBuilder", "<init>", "(Ljava/lang/String;)V"⟩ : MethodName) jdk_67_method_3_code 2 none ({ frames := 7, cells := 1, slots := 18, locals := 125 } : Room) #[(.ref r0), (.ref r1)] h0 (fun v h => v = none ∧ Keep h0 h [r0] ∧ ∃ v0, n0 ≤ v0 ∧ h0.size ≤ v0 ∧ Fld Z h r0 "java/lang/AbstractStringBuilder" "value" "[B" (.ref v0) ∧ Fld Z h r0 "java/lang/AbstractStringBuilder" "coder" "B" (.int (0 : Int32)) ∧ Fld Z h r0 "java/lang/AbstractStringBuilder" "count" "I" (.int (Int32.ofNat (0 + xs.length))) ∧ Fld Z h r0 "java/lang/AbstractStringBuilder" "maybeLatin1" "Z" (.int (0 : Int32)) ∧ own_Arr Z h v0 .byte (Int32.ofNat 18) (own_cpf f 0 0 xs.length (fun _ => 0))) := by
  refine own_met (plainFor_of_name pn_8) ?_
  intro p e s m below meth c T0 hx hby hml hown hnm hret hlk hZ A0
  rw [ef_2]
  show own_Go _ _ _ _ (T0.setTop (mkF m 0 #[.val (.ref r0), .val (.ref r1)] []))
  refine own_go (fun t_ k_ => XS.aloadN A0.here hx rfl (hb hby d2_0) rfl rfl k_) ?_
  show own_Go _ _ _ _ (T0.setTop (mkF m 1 #[.val (.ref r0), .val (.ref r1)] [(.ref r0)]))
  refine own_go (fun t_ k_ => XS.aloadN A0.here hx rfl (hb hby d2_1) rfl rfl k_) ?_
  show own_Go _ _ _ _ (T0.setTop (mkF m 2 #[.val (.ref r0), .val (.ref r1)] [(.ref r1), (.ref r0)]))
  refine own_callI A0 hx hZ (y := (⟨"java/lang/AbstractStringBuilder", "<init>", "(Ljava/lang/String;)V"⟩ : MethodName)) rfl hown (hw _ (List.mem_of_getElem? (i := 18) rfl)) (hw _ (List.mem_of_getElem? (i := 19) rfl)) (hw _ (List.mem_of_getElem? (i := 22) rfl)) (hw _ (List.mem_of_getElem? (i := 23) rfl)) (by decide) (b := r0) (argsL := [(.ref r1)]) (rest := []) (rm3 l Z a0 hw r0 r1 z_C t0 f xs h0 n0 O0 hz S_COMPACT_STRINGS Z0 Eb F0v F0c F0n F0m Es Fcs Fvs Vs g0 ne_r0_r1 ne_r0_t0 Bs hx2) 0 (by decide) (by decide) rfl (by rw [hml]; rfl) (lenOf pd__Ljava_lang_String__V rfl) rfl (by show 2 * 0 + _ ≤ _; exact Nat.le_of_eq rfl) (hb hby d2_2) (by decide) (by decide) (fun v4 T1 h3 A2 hQ5 => ?_)
  obtain ⟨rfl, K6, t7, gt8, nt9, F10, F11, F12, F13, V14⟩ := hQ5
  have ne_r0_t7 : r0 ≠ t7 := Nat.ne_of_lt (Nat.lt_of_lt_of_le Eb.lt nt9)
  have ne_r1_t7 : r1 ≠ t7 := Nat.ne_of_lt (Nat.lt_of_lt_of_le Es.lt nt9)
  have ne_t0_t7 : t0 ≠ t7 := Nat.ne_of_lt (Nat.lt_of_lt_of_le Vs.lt nt9)
  have nw_t7 : h0.size ≤ t7 := Nat.le_trans (Keep.refl h0 [r0]).1 nt9
  have O15 : Old Z n0 h3 := O0.keep K6 (allS g0 all0)
  have Z16 : n0 ≤ h3.size := Nat.le_trans Z0 K6.1
  have E17 : Exa Z h3 r0 "java/lang/StringBuilder" := Eb.keep K6
  have E18 : Exa Z h3 r1 "java/lang/String" := Es.keep K6
  have F19 : Fld Z h3 r1 "java/lang/String" "coder" "B" (.int (0 : Int32)) := Fcs.keep K6 (ninS (Ne.symm ne_r0_r1) nin0)
  have F20 : Fld Z h3 r1 "java/lang/String" "value" "[B" (.ref t0) := Fvs.keep K6 (ninS (Ne.symm ne_r0_r1) nin0)
  have V21 : own_Arr Z h3 t0 .byte (Int32.ofNat xs.length) f := Vs.keep K6 (ninS (Ne.symm ne_r0_t0) nin0)
  have K22 : Keep h0 h3 [r0] := (Keep.refl h0 [r0]).trans K6 (allS (Or.inl (List.mem_of_getElem? (i := 0) rfl)) all0)
  show own_Go _ _ _ _ (T1.setTop (mkF m 5 #[.val (.ref r0), .val (.ref r1)] []))
  refine own_retV A2 hx hret hlk (by decide) (by decide) (hb hby d2_5) ?_
  exact ⟨rfl, K22, t7, gt8, nw_t7, F10, F11, F12, F13, V14⟩
theorem ef_35 (m : MethodId) (p0 : Int32) (p1 : Int32) : entryFrame m #[(.int p0), (.int p1)] 2 = mkF m 0 #[.val (.int p0), .val (.int p1)] [] := by first | (simp [entryFrame, mkF, argsToLocals, Value.category]; done) | rfl
theorem d35_0 : decode jdk_65_method_131_code 0 = .ok (.iload_n 1, 1) := by decide +kernel
theorem d35_1 : decode jdk_65_method_131_code 1 = .ok (.iload_n 0, 1) := by decide +kernel
theorem d35_2 : decode jdk_65_method_131_code 2 = .ok (.if_icmp .ge 35, 3) := by decide +kernel
theorem d35_37 : decode jdk_65_method_131_code 37 = .ok (.return_, 1) := by decide +kernel
set_option maxRecDepth 65536 in
set_option maxHeartbeats 40000000 in
theorem rm35 (l : Launch) (Z : State) (a0 : Array Value) (hw : ∀ d ∈ tables_1, d.before a0 Z = true) (p0 : Int32) (p1 : Int32) (h0 : Heap) (n0 : Nat) (hL : ¬ p1 < p0) :
    own_Met l Z n0 (⟨"java/util/Arrays", "checkLength", "(II)V"⟩ : MethodName) jdk_65_method_131_code 2 none ({ frames := 0, cells := 0, slots := 0, locals := 0 } : Room) #[(.int p0), (.int p1)] h0 (fun v h => v = none ∧ h0 = h) := by
  refine own_met (plainFor_of_name pn_46) ?_
  intro p e s m below meth c T0 hx hby hml hown hnm hret hlk hZ A0
  rw [ef_35]
  show own_Go _ _ _ _ (T0.setTop (mkF m 0 #[.val (.int p0), .val (.int p1)] []))
  refine own_go (fun t_ k_ => XS.iloadN A0.here hx rfl (hb hby d35_0) rfl k_) ?_
  show own_Go _ _ _ _ (T0.setTop (mkF m 1 #[.val (.int p0), .val (.int p1)] [(.int p1)]))
  refine own_go (fun t_ k_ => XS.iloadN A0.here hx rfl (hb hby d35_1) rfl k_) ?_
  show own_Go _ _ _ _ (T0.setTop (mkF m 2 #[.val (.int p0), .val (.int p1)] [(.int p0), (.int p1)]))
  have hc1 : ¬ (p1 < p0) := hL
  refine own_go (fun t_ k_ => XS.icmpYes A0.here hx rfl (pc0 := 2) (pc' := 37) rfl (hb hby d35_2) rfl (flt hc1).2.1 (by decide) (by decide) k_) ?_
  show own_Go _ _ _ _ (T0.setTop (mkF m 37 #[.val (.int p0), .val (.int p1)] []))
  refine own_retV A0 hx hret hlk (by decide) (by decide) (hb hby d35_37) ?_
  exact ⟨rfl, rfl⟩
theorem own_minG (n cap : Nat) (h : n < cap) (hc : cap < 2 ^ 29) : f36 (Int32.ofNat cap) (Int32.ofNat n) = Int32.ofNat n := if_pos ((own_nlt (by omega) (by omega)).mpr h)
theorem ef_34 (m : MethodId) (r0 : Addr) (y1 : Int32) (y2 : Int32) : entryFrame m #[(.ref r0), (.int y1), (.int y2)] 5 = mkF m 0 #[.val (.ref r0), .val (.int y1), .val (.int y2), .unset, .unset] [] := by first | (simp [entryFrame, mkF, argsToLocals, Value.category]; done) | rfl
theorem d34_0 : decode jdk_65_method_133_code 0 = .ok (.iload_n 1, 1) := by decide +kernel
theorem d34_1 : decode jdk_65_method_133_code 1 = .ok (.iload_n 2, 1) := by decide +kernel
theorem d34_2 : decode jdk_65_method_133_code 2 = .ok (.invokestatic 343, 3) := by decide +kernel
theorem pd__II_V : parseMethodDescriptor "(II)V" = some ⟨[.int, .int], none⟩ := by decide +kernel
theorem d34_5 : decode jdk_65_method_133_code 5 = .ok (.iload_n 2, 1) := by decide +kernel
theorem d34_6 : decode jdk_65_method_133_code 6 = .ok (.iload_n 1, 1) := by decide +kernel
theorem d34_7 : decode jdk_65_method_133_code 7 = .ok (.isub, 1) := by decide +kernel
theorem d34_8 : decode jdk_65_method_133_code 8 = .ok (.istore_n 3, 1) := by decide +kernel
theorem d34_9 : decode jdk_65_method_133_code 9 = .ok (.iload_n 3, 1) := by decide +kernel
theorem d34_10 : decode jdk_65_method_133_code 10 = .ok (.newarray .byte, 2) := by decide +kernel
theorem d34_12 : decode jdk_65_method_133_code 12 = .ok (.astore 4, 2) := by decide +kernel
theorem d34_14 : decode jdk_65_method_133_code 14 = .ok (.aload_n 0, 1) := by decide +kernel
theorem d34_15 : decode jdk_65_method_133_code 15 = .ok (.iload_n 1, 1) := by decide +kernel
theorem d34_16 : decode jdk_65_method_133_code 16 = .ok (.aload 4, 2) := by decide +kernel
theorem d34_18 : decode jdk_65_method_133_code 18 = .ok (.iconst 0, 1) := by decide +kernel
theorem d34_19 : decode jdk_65_method_133_code 19 = .ok (.aload_n 0, 1) := by decide +kernel
theorem d34_20 : decode jdk_65_method_133_code 20 = .ok (.arraylength, 1) := by decide +kernel
theorem d34_21 : decode jdk_65_method_133_code 21 = .ok (.iload_n 1, 1) := by decide +kernel
theorem d34_22 : decode jdk_65_method_133_code 22 = .ok (.isub, 1) := by decide +kernel
theorem d34_23 : decode jdk_65_method_133_code 23 = .ok (.iload_n 3, 1) := by decide +kernel
theorem d34_24 : decode jdk_65_method_133_code 24 = .ok (.invokestatic 304, 3) := by decide +kernel
theorem d34_27 : decode jdk_65_method_133_code 27 = .ok (.invokestatic 150, 3) := by decide +kernel
theorem d34_30 : decode jdk_65_method_133_code 30 = .ok (.aload 4, 2) := by decide +kernel
theorem d34_32 : decode jdk_65_method_133_code 32 = .ok (.areturn, 1) := by decide +kernel
set_option maxRecDepth 65536 in
set_option maxHeartbeats 40000000 in
theorem rm34 (l : Launch) (Z : State) (a0 : Array Value) (hw : ∀ d ∈ tables_1, d.before a0 Z = true) (r0 : Addr) (g : Int32 → Int32) (n : Nat) (cap : Nat) (h0 : Heap) (n0 : Nat) (Z0 : n0 ≤ h0.size) (Vb : own_Arr Z h0 r0 .byte (Int32.ofNat cap) g) (Bb : own_Byt g cap) (hn : n < cap) (hc6 : cap ≤ 256) :
    own_Met l Z n0 (⟨"java/util/Arrays", "copyOfRangeByte", "([BII)[B"⟩ : MethodName) jdk_65_method_133_code 5 (some (.array .byte)) ({ frames := 1, cells := 1, slots := 256, locals := 40 } : Room) #[(.ref r0), (.int (0 : Int32)), (.int (Int32.ofNat n))] h0 (fun v h => Keep h0 h [] ∧ ∃ t, v = some (.ref t) ∧ n0 ≤ t ∧ h0.size ≤ t ∧ own_Arr Z h t .byte (Int32.ofNat n) (own_cpf g 0 0 n (fun _ => 0))) := by
  refine own_met (plainFor_of_name pn_46) ?_
  intro p e s m below meth c T0 hx hby hml hown hnm hret hlk hZ A0
  rw [ef_34]
  show own_Go _ _ _ _ (T0.setTop (mkF m 0 #[.val (.ref r0), .val (.int (0 : Int32)), .val (.int (Int32.ofNat n)), .unset, .unset] []))
  refine own_go (fun t_ k_ => XS.iloadN A0.here hx rfl (hb hby d34_0) rfl k_) ?_
  show own_Go _ _ _ _ (T0.setTop (mkF m 1 #[.val (.ref r0), .val (.int (0 : Int32)), .val (.int (Int32.ofNat n)), .unset, .unset] [(.int (0 : Int32))]))
  refine own_go (fun t_ k_ => XS.iloadN A0.here hx rfl (hb hby d34_1) rfl k_) ?_
  show own_Go _ _ _ _ (T0.setTop (mkF m 2 #[.val (.ref r0), .val (.int (0 : Int32)), .val (.int (Int32.ofNat n)), .unset, .unset] [(.int (Int32.ofNat n)), (.int (0 : Int32))]))
  refine own_callS A0 hx hZ hown (y := (⟨"java/util/Arrays", "checkLength", "(II)V"⟩ : MethodName)) (hw _ (List.mem_of_getElem? (i := 205) rfl)) (hw _ (List.mem_of_getElem? (i := 206) rfl)) (hw _ (List.mem_of_getElem? (i := 147) rfl)) (hw _ (List.mem_of_getElem? (i := 207) rfl)) (by decide) (argsL := [(.int (0 : Int32)), (.int (Int32.ofNat n))]) (rest := []) (rm35 l Z a0 hw (0 : Int32) (Int32.ofNat n) h0 n0 (own_nn (by omega))) 0 (by decide) (by decide) rfl (by rw [hml]; rfl) (lenOf pd__II_V rfl) rfl (by show 2 * 0 + _ ≤ _; exact Nat.le_of_eq rfl) (hb hby d34_2) (by decide) (by decide) (fun v4 T1 h3 A2 hQ5 => ?_)
  obtain ⟨rfl, rfl⟩ := hQ5
  show own_Go _ _ _ _ (T1.setTop (mkF m 5 #[.val (.ref r0), .val (.int (0 : Int32)), .val (.int (Int32.ofNat n)), .unset, .unset] []))
  refine own_go (fun t_ k_ => XS.iloadN A2.here hx rfl (hb hby d34_5) rfl k_) ?_
  show own_Go _ _ _ _ (T1.setTop (mkF m 6 #[.val (.ref r0), .val (.int (0 : Int32)), .val (.int (Int32.ofNat n)), .unset, .unset] [(.int (Int32.ofNat n))]))
  refine own_go (fun t_ k_ => XS.iloadN A2.here hx rfl (hb hby d34_6) rfl k_) ?_
  show own_Go _ _ _ _ (T1.setTop (mkF m 7 #[.val (.ref r0), .val (.int (0 : Int32)), .val (.int (Int32.ofNat n)), .unset, .unset] [(.int (0 : Int32)), (.int (Int32.ofNat n))]))
  refine own_go (fun t_ k_ => XS.isub A2.here hx rfl (hb hby d34_7) rfl k_) ?_
  show own_Go _ _ _ _ (T1.setTop (mkF m 8 #[.val (.ref r0), .val (.int (0 : Int32)), .val (.int (Int32.ofNat n)), .unset, .unset] [(.int ((Int32.ofNat n) - (0 : Int32)))]))
  rw [own_sub0]
  show own_Go _ _ _ _ (T1.setTop (mkF m 8 #[.val (.ref r0), .val (.int (0 : Int32)), .val (.int (Int32.ofNat n)), .unset, .unset] [(.int (Int32.ofNat n))]))
  refine own_go (fun t_ k_ => XS.istoreN A2.here hx rfl (hb hby d34_8) rfl (l' := #[.val (.ref r0), .val (.int (0 : Int32)), .val (.int (Int32.ofNat n)), .val (.int (Int32.ofNat n)), .unset]) rfl k_) ?_
  show own_Go _ _ _ _ (T1.setTop (mkF m 9 #[.val (.ref r0), .val (.int (0 : Int32)), .val (.int (Int32.ofNat n)), .val (.int (Int32.ofNat n)), .unset] []))
  refine own_go (fun t_ k_ => XS.iloadN A2.here hx rfl (hb hby d34_9) rfl k_) ?_
  show own_Go _ _ _ _ (T1.setTop (mkF m 10 #[.val (.ref r0), .val (.int (0 : Int32)), .val (.int (Int32.ofNat n)), .val (.int (Int32.ofNat n)), .unset] [(.int (Int32.ofNat n))]))
  refine own_newP A2 hx hZ (hw _ (List.mem_of_getElem? (i := 10) rfl)) rfl rfl (hb hby d34_10) rfl (own_nn (by omega)) 256 (by rw [own_toN (by omega)]; omega) (by decide) (by decide) (by decide) (fun T6 h8 b9 ha_b9 A7 E10 V11 R12 => ?_)
  have ne_r0_b9 : r0 ≠ b9 := Nat.ne_of_lt (by rw [ha_b9]; exact Vb.lt)
  have g_b9 : n0 ≤ b9 := by rw [ha_b9]; exact Z0
  have nw_b9 : h0.size ≤ b9 := by rw [ha_b9]; exact (Keep.refl h0 []).1
  have Z13 : n0 ≤ h8.size := Nat.le_trans Z0 E10.1
  have K14 : Keep h0 h8 [] := (Keep.refl h0 []).ext E10
  have V15 : own_Arr Z h8 r0 .byte (Int32.ofNat cap) g := Vb.ext E10
  show own_Go _ _ _ _ (T6.setTop (mkF m 12 #[.val (.ref r0), .val (.int (0 : Int32)), .val (.int (Int32.ofNat n)), .val (.int (Int32.ofNat n)), .unset] [(.ref b9)]))
  refine own_go (fun t_ k_ => XS.astore A7.here hx rfl (hb hby d34_12) rfl rfl (l' := #[.val (.ref r0), .val (.int (0 : Int32)), .val (.int (Int32.ofNat n)), .val (.int (Int32.ofNat n)), .val (.ref b9)]) rfl k_) ?_
  show own_Go _ _ _ _ (T6.setTop (mkF m 14 #[.val (.ref r0), .val (.int (0 : Int32)), .val (.int (Int32.ofNat n)), .val (.int (Int32.ofNat n)), .val (.ref b9)] []))
  refine own_go (fun t_ k_ => XS.aloadN A7.here hx rfl (hb hby d34_14) rfl rfl k_) ?_
  show own_Go _ _ _ _ (T6.setTop (mkF m 15 #[.val (.ref r0), .val (.int (0 : Int32)), .val (.int (Int32.ofNat n)), .val (.int (Int32.ofNat n)), .val (.ref b9)] [(.ref r0)]))
  refine own_go (fun t_ k_ => XS.iloadN A7.here hx rfl (hb hby d34_15) rfl k_) ?_
  show own_Go _ _ _ _ (T6.setTop (mkF m 16 #[.val (.ref r0), .val (.int (0 : Int32)), .val (.int (Int32.ofNat n)), .val (.int (Int32.ofNat n)), .val (.ref b9)] [(.int (0 : Int32)), (.ref r0)]))
  refine own_go (fun t_ k_ => XS.aload A7.here hx rfl (hb hby d34_16) rfl rfl k_) ?_
  show own_Go _ _ _ _ (T6.setTop (mkF m 18 #[.val (.ref r0), .val (.int (0 : Int32)), .val (.int (Int32.ofNat n)), .val (.int (Int32.ofNat n)), .val (.ref b9)] [(.ref b9), (.int (0 : Int32)), (.ref r0)]))
  refine own_go (fun t_ k_ => XS.iconst A7.here hx rfl (hb hby d34_18) k_) ?_
  show own_Go _ _ _ _ (T6.setTop (mkF m 19 #[.val (.ref r0), .val (.int (0 : Int32)), .val (.int (Int32.ofNat n)), .val (.int (Int32.ofNat n)), .val (.ref b9)] [(.int (0 : Int32)), (.ref b9), (.int (0 : Int32)), (.ref r0)]))
  refine own_go (fun t_ k_ => XS.aloadN A7.here hx rfl (hb hby d34_19) rfl rfl k_) ?_
  show own_Go _ _ _ _ (T6.setTop (mkF m 20 #[.val (.ref r0), .val (.int (0 : Int32)), .val (.int (Int32.ofNat n)), .val (.int (Int32.ofNat n)), .val (.ref b9)] [(.ref r0), (.int (0 : Int32)), (.ref b9), (.int (0 : Int32)), (.ref r0)]))
  refine own_len A7 hx hZ V15 rfl rfl (hb hby d34_20) ?_
  show own_Go _ _ _ _ (T6.setTop (mkF m 21 #[.val (.ref r0), .val (.int (0 : Int32)), .val (.int (Int32.ofNat n)), .val (.int (Int32.ofNat n)), .val (.ref b9)] [(.int (Int32.ofNat cap)), (.int (0 : Int32)), (.ref b9), (.int (0 : Int32)), (.ref r0)]))
  refine own_go (fun t_ k_ => XS.iloadN A7.here hx rfl (hb hby d34_21) rfl k_) ?_
  show own_Go _ _ _ _ (T6.setTop (mkF m 22 #[.val (.ref r0), .val (.int (0 : Int32)), .val (.int (Int32.ofNat n)), .val (.int (Int32.ofNat n)), .val (.ref b9)] [(.int (0 : Int32)), (.int (Int32.ofNat cap)), (.int (0 : Int32)), (.ref b9), (.int (0 : Int32)), (.ref r0)]))
  refine own_go (fun t_ k_ => XS.isub A7.here hx rfl (hb hby d34_22) rfl k_) ?_
  show own_Go _ _ _ _ (T6.setTop (mkF m 23 #[.val (.ref r0), .val (.int (0 : Int32)), .val (.int (Int32.ofNat n)), .val (.int (Int32.ofNat n)), .val (.ref b9)] [(.int ((Int32.ofNat cap) - (0 : Int32))), (.int (0 : Int32)), (.ref b9), (.int (0 : Int32)), (.ref r0)]))
  rw [own_sub0]
  show own_Go _ _ _ _ (T6.setTop (mkF m 23 #[.val (.ref r0), .val (.int (0 : Int32)), .val (.int (Int32.ofNat n)), .val (.int (Int32.ofNat n)), .val (.ref b9)] [(.int (Int32.ofNat cap)), (.int (0 : Int32)), (.ref b9), (.int (0 : Int32)), (.ref r0)]))
  refine own_go (fun t_ k_ => XS.iloadN A7.here hx rfl (hb hby d34_23) rfl k_) ?_
  show own_Go _ _ _ _ (T6.setTop (mkF m 24 #[.val (.ref r0), .val (.int (0 : Int32)), .val (.int (Int32.ofNat n)), .val (.int (Int32.ofNat n)), .val (.ref b9)] [(.int (Int32.ofNat n)), (.int (Int32.ofNat cap)), (.int (0 : Int32)), (.ref b9), (.int (0 : Int32)), (.ref r0)]))
  refine own_callS A7 hx hZ hown (y := (⟨"java/lang/Math", "min", "(II)I"⟩ : MethodName)) (hw _ (List.mem_of_getElem? (i := 208) rfl)) (hw _ (List.mem_of_getElem? (i := 209) rfl)) (hw _ (List.mem_of_getElem? (i := 210) rfl)) (hw _ (List.mem_of_getElem? (i := 211) rfl)) (by decide) (argsL := [(.int (Int32.ofNat cap)), (.int (Int32.ofNat n))]) (rest := [(.int (0 : Int32)), (.ref b9), (.int (0 : Int32)), (.ref r0)]) (rm36 l Z a0 hw (Int32.ofNat cap) (Int32.ofNat n) h8 n0 ) 4 (by decide) (by decide) rfl (by rw [hml]; rfl) (lenOf pd__II_I rfl) rfl (by show 2 * 0 + _ ≤ _; exact Nat.le_of_eq rfl) (hb hby d34_24) (by decide) (by decide) (fun v19 T16 h18 A17 hQ20 => ?_)
  obtain ⟨rfl, rfl⟩ := hQ20
  show own_Go _ _ _ _ (T16.setTop (mkF m 27 #[.val (.ref r0), .val (.int (0 : Int32)), .val (.int (Int32.ofNat n)), .val (.int (Int32.ofNat n)), .val (.ref b9)] [(.int (f36 (Int32.ofNat cap) (Int32.ofNat n))), (.int (0 : Int32)), (.ref b9), (.int (0 : Int32)), (.ref r0)]))
  rw [own_minG n cap hn (by omega)]
  show own_Go _ _ _ _ (T16.setTop (mkF m 27 #[.val (.ref r0), .val (.int (0 : Int32)), .val (.int (Int32.ofNat n)), .val (.int (Int32.ofNat n)), .val (.ref b9)] [(.int (Int32.ofNat n)), (.int (0 : Int32)), (.ref b9), (.int (0 : Int32)), (.ref r0)]))
  refine own_cpL A17 hx hZ hown (hw _ (List.mem_of_getElem? (i := 212) rfl)) (hw _ (List.mem_of_getElem? (i := 86) rfl)) (hw _ (List.mem_of_getElem? (i := 84) rfl)) (hw _ (List.mem_of_getElem? (i := 85) rfl)) (na := cap) (nb := n) (sp := 0) (dp := 0) (nn := n) V15 V11 (by omega) (by omega) Bb (fun k hk => rfl) (by omega) (by omega) g_b9 rfl (by rw [hml]; rfl) (rest := []) rfl (hb hby d34_27) (by decide) 0 (by show 2 * 0 + _ ≤ _; exact Nat.le_of_eq rfl) (by decide +kernel) (fun T21 h23 A22 K24 V25 => ?_)
  have Z26 : n0 ≤ h23.size := Nat.le_trans Z13 K24.1
  have K27 : Keep h0 h23 [] := K14.trans K24 (allS (Or.inr nw_b9) all0)
  have V28 : own_Arr Z h23 r0 .byte (Int32.ofNat cap) g := V15.keep K24 (ninS ne_r0_b9 nin0)
  show own_Go _ _ _ _ (T21.setTop (mkF m 30 #[.val (.ref r0), .val (.int (0 : Int32)), .val (.int (Int32.ofNat n)), .val (.int (Int32.ofNat n)), .val (.ref b9)] []))
  refine own_go (fun t_ k_ => XS.aload A22.here hx rfl (hb hby d34_30) rfl rfl k_) ?_
  show own_Go _ _ _ _ (T21.setTop (mkF m 32 #[.val (.ref r0), .val (.int (0 : Int32)), .val (.int (Int32.ofNat n)), .val (.int (Int32.ofNat n)), .val (.ref b9)] [(.ref b9)]))
  refine own_retA A22 hx hret rfl hlk (by decide) (by decide) rfl (hb hby d34_32) ?_
  exact ⟨K27, b9, rfl, g_b9, nw_b9, V25⟩
theorem ef_26 (m : MethodId) (r0 : Addr) (y1 : Int32) (y2 : Int32) : entryFrame m #[(.ref r0), (.int y1), (.int y2)] 3 = mkF m 0 #[.val (.ref r0), .val (.int y1), .val (.int y2)] [] := by first | (simp [entryFrame, mkF, argsToLocals, Value.category]; done) | rfl
theorem d26_0 : decode jdk_65_method_132_code 0 = .ok (.iload_n 1, 1) := by decide +kernel
theorem d26_1 : decode jdk_65_method_132_code 1 = .ok (.ifCond .ne 9, 3) := by decide +kernel
theorem d26_4 : decode jdk_65_method_132_code 4 = .ok (.iload_n 2, 1) := by decide +kernel
theorem d26_5 : decode jdk_65_method_132_code 5 = .ok (.aload_n 0, 1) := by decide +kernel
theorem d26_6 : decode jdk_65_method_132_code 6 = .ok (.arraylength, 1) := by decide +kernel
theorem d26_7 : decode jdk_65_method_132_code 7 = .ok (.if_icmp .eq 10, 3) := by decide +kernel
theorem d26_10 : decode jdk_65_method_132_code 10 = .ok (.aload_n 0, 1) := by decide +kernel
theorem d26_11 : decode jdk_65_method_132_code 11 = .ok (.iload_n 1, 1) := by decide +kernel
theorem d26_12 : decode jdk_65_method_132_code 12 = .ok (.iload_n 2, 1) := by decide +kernel
theorem d26_13 : decode jdk_65_method_132_code 13 = .ok (.invokestatic 339, 3) := by decide +kernel
theorem pd___BII__B : parseMethodDescriptor "([BII)[B" = some ⟨[(.array .byte), .int, .int], some (.array .byte)⟩ := by decide +kernel
theorem d26_16 : decode jdk_65_method_132_code 16 = .ok (.areturn, 1) := by decide +kernel
set_option maxRecDepth 65536 in
set_option maxHeartbeats 40000000 in
theorem rm26 (l : Launch) (Z : State) (a0 : Array Value) (hw : ∀ d ∈ tables_1, d.before a0 Z = true) (r0 : Addr) (g : Int32 → Int32) (n : Nat) (cap : Nat) (h0 : Heap) (n0 : Nat) (Z0 : n0 ≤ h0.size) (Vb : own_Arr Z h0 r0 .byte (Int32.ofNat cap) g) (Bb : own_Byt g cap) (hn : n < cap) (hc6 : cap ≤ 256) :
    own_Met l Z n0 (⟨"java/util/Arrays", "copyOfRange", "([BII)[B"⟩ : MethodName) jdk_65_method_132_code 3 (some (.array .byte)) ({ frames := 2, cells := 1, slots := 256, locals := 56 } : Room) #[(.ref r0), (.int (0 : Int32)), (.int (Int32.ofNat n))] h0 (fun v h => Keep h0 h [] ∧ ∃ t, v = some (.ref t) ∧ n0 ≤ t ∧ h0.size ≤ t ∧ own_Arr Z h t .byte (Int32.ofNat n) (own_cpf g 0 0 n (fun _ => 0))) := by
  refine own_met (plainFor_of_name pn_46) ?_
  intro p e s m below meth c T0 hx hby hml hown hnm hret hlk hZ A0
  rw [ef_26]
  show own_Go _ _ _ _ (T0.setTop (mkF m 0 #[.val (.ref r0), .val (.int (0 : Int32)), .val (.int (Int32.ofNat n))] []))
  refine own_go (fun t_ k_ => XS.iloadN A0.here hx rfl (hb hby d26_0) rfl k_) ?_
  show own_Go _ _ _ _ (T0.setTop (mkF m 1 #[.val (.ref r0), .val (.int (0 : Int32)), .val (.int (Int32.ofNat n))] [(.int (0 : Int32))]))
  have hc1 : (0 : Int32) = (0 : Int32) := (by decide)
  refine own_go (fun t_ k_ => XS.ifNo A0.here hx rfl (hb hby d26_1) rfl ((if0 _ _).trans (teq hc1).2) k_) ?_
  show own_Go _ _ _ _ (T0.setTop (mkF m 4 #[.val (.ref r0), .val (.int (0 : Int32)), .val (.int (Int32.ofNat n))] []))
  refine own_go (fun t_ k_ => XS.iloadN A0.here hx rfl (hb hby d26_4) rfl k_) ?_
  show own_Go _ _ _ _ (T0.setTop (mkF m 5 #[.val (.ref r0), .val (.int (0 : Int32)), .val (.int (Int32.ofNat n))] [(.int (Int32.ofNat n))]))
  refine own_go (fun t_ k_ => XS.aloadN A0.here hx rfl (hb hby d26_5) rfl rfl k_) ?_
  show own_Go _ _ _ _ (T0.setTop (mkF m 6 #[.val (.ref r0), .val (.int (0 : Int32)), .val (.int (Int32.ofNat n))] [(.ref r0), (.int (Int32.ofNat n))]))
  refine own_len A0 hx hZ Vb rfl rfl (hb hby d26_6) ?_
  show own_Go _ _ _ _ (T0.setTop (mkF m 7 #[.val (.ref r0), .val (.int (0 : Int32)), .val (.int (Int32.ofNat n))] [(.int (Int32.ofNat cap)), (.int (Int32.ofNat n))]))
  have hc2 : ¬ ((Int32.ofNat n) = (Int32.ofNat cap)) := (fun z => by have := (own_neq (by omega) (by omega)).mp z; omega)
  refine own_go (fun t_ k_ => XS.icmpNo A0.here hx rfl (hb hby d26_7) rfl (feq hc2).1 k_) ?_
  show own_Go _ _ _ _ (T0.setTop (mkF m 10 #[.val (.ref r0), .val (.int (0 : Int32)), .val (.int (Int32.ofNat n))] []))
  refine own_go (fun t_ k_ => XS.aloadN A0.here hx rfl (hb hby d26_10) rfl rfl k_) ?_
  show own_Go _ _ _ _ (T0.setTop (mkF m 11 #[.val (.ref r0), .val (.int (0 : Int32)), .val (.int (Int32.ofNat n))] [(.ref r0)]))
  refine own_go (fun t_ k_ => XS.iloadN A0.here hx rfl (hb hby d26_11) rfl k_) ?_
  show own_Go _ _ _ _ (T0.setTop (mkF m 12 #[.val (.ref r0), .val (.int (0 : Int32)), .val (.int (Int32.ofNat n))] [(.int (0 : Int32)), (.ref r0)]))
  refine own_go (fun t_ k_ => XS.iloadN A0.here hx rfl (hb hby d26_12) rfl k_) ?_
  show own_Go _ _ _ _ (T0.setTop (mkF m 13 #[.val (.ref r0), .val (.int (0 : Int32)), .val (.int (Int32.ofNat n))] [(.int (Int32.ofNat n)), (.int (0 : Int32)), (.ref r0)]))
  refine own_callS A0 hx hZ hown (y := (⟨"java/util/Arrays", "copyOfRangeByte", "([BII)[B"⟩ : MethodName)) (hw _ (List.mem_of_getElem? (i := 202) rfl)) (hw _ (List.mem_of_getElem? (i := 203) rfl)) (hw _ (List.mem_of_getElem? (i := 147) rfl)) (hw _ (List.mem_of_getElem? (i := 204) rfl)) (by decide) (argsL := [(.ref r0), (.int (0 : Int32)), (.int (Int32.ofNat n))]) (rest := []) (rm34 l Z a0 hw r0 g n cap h0 n0 Z0 Vb Bb hn hc6) 0 (by decide) (by decide) rfl (by rw [hml]; rfl) (lenOf pd___BII__B rfl) rfl (by show 2 * 0 + _ ≤ _; exact Nat.le_of_eq rfl) (hb hby d26_13) (by decide) (by decide) (fun v6 T3 h5 A4 hQ7 => ?_)
  obtain ⟨K8, t9, rfl, gt10, nt11, V12⟩ := hQ7
  have ne_r0_t9 : r0 ≠ t9 := Nat.ne_of_lt (Nat.lt_of_lt_of_le Vb.lt nt11)
  have nw_t9 : h0.size ≤ t9 := Nat.le_trans (Keep.refl h0 []).1 nt11
  have Z13 : n0 ≤ h5.size := Nat.le_trans Z0 K8.1
  have K14 : Keep h0 h5 [] := (Keep.refl h0 []).trans K8 all0
  have V15 : own_Arr Z h5 r0 .byte (Int32.ofNat cap) g := Vb.keep K8 nin0
  show own_Go _ _ _ _ (T3.setTop (mkF m 16 #[.val (.ref r0), .val (.int (0 : Int32)), .val (.int (Int32.ofNat n))] [(.ref t9)]))
  refine own_retA A4 hx hret rfl hlk (by decide) (by decide) rfl (hb hby d26_16) ?_
  exact ⟨K14, t9, rfl, gt10, nw_t9, V12⟩
theorem ef_24 (m : MethodId) (r0 : Addr) (r1 : Addr) : entryFrame m #[(.ref r0), (.ref r1), .null] 5 = mkF m 0 #[.val (.ref r0), .val (.ref r1), .val .null, .unset, .unset] [] := by first | (simp [entryFrame, mkF, argsToLocals, Value.category]; done) | rfl
theorem d24_0 : decode jdk_42_method_150_code 0 = .ok (.aload_n 0, 1) := by decide +kernel
theorem d24_1 : decode jdk_42_method_150_code 1 = .ok (.invokespecial 1, 3) := by decide +kernel
theorem d24_4 : decode jdk_42_method_150_code 4 = .ok (.aload_n 1, 1) := by decide +kernel
theorem d24_5 : decode jdk_42_method_150_code 5 = .ok (.invokevirtual 552, 3) := by decide +kernel
theorem pd____B : parseMethodDescriptor "()[B" = some ⟨[], some (.array .byte)⟩ := by decide +kernel
theorem d24_8 : decode jdk_42_method_150_code 8 = .ok (.astore_n 3, 1) := by decide +kernel
theorem d24_9 : decode jdk_42_method_150_code 9 = .ok (.aload_n 1, 1) := by decide +kernel
theorem d24_10 : decode jdk_42_method_150_code 10 = .ok (.invokevirtual 549, 3) := by decide +kernel
theorem d24_13 : decode jdk_42_method_150_code 13 = .ok (.istore 4, 2) := by decide +kernel
theorem d24_15 : decode jdk_42_method_150_code 15 = .ok (.aload_n 1, 1) := by decide +kernel
theorem d24_16 : decode jdk_42_method_150_code 16 = .ok (.invokevirtual 1047, 3) := by decide +kernel
theorem d24_19 : decode jdk_42_method_150_code 19 = .ok (.ifCond .eq 22, 3) := by decide +kernel
theorem d24_22 : decode jdk_42_method_150_code 22 = .ok (.aload_n 0, 1) := by decide +kernel
theorem d24_23 : decode jdk_42_method_150_code 23 = .ok (.iconst 0, 1) := by decide +kernel
theorem d24_24 : decode jdk_42_method_150_code 24 = .ok (.putfield 15, 3) := by decide +kernel
theorem d24_27 : decode jdk_42_method_150_code 27 = .ok (.aload_n 0, 1) := by decide +kernel
theorem d24_28 : decode jdk_42_method_150_code 28 = .ok (.aload_n 3, 1) := by decide +kernel
theorem d24_29 : decode jdk_42_method_150_code 29 = .ok (.iconst 0, 1) := by decide +kernel
theorem d24_30 : decode jdk_42_method_150_code 30 = .ok (.iload 4, 2) := by decide +kernel
theorem d24_32 : decode jdk_42_method_150_code 32 = .ok (.invokestatic 54, 3) := by decide +kernel
theorem d24_35 : decode jdk_42_method_150_code 35 = .ok (.putfield 9, 3) := by decide +kernel
theorem d24_38 : decode jdk_42_method_150_code 38 = .ok (.goto 59, 3) := by decide +kernel
theorem d24_97 : decode jdk_42_method_150_code 97 = .ok (.return_, 1) := by decide +kernel
set_option maxRecDepth 65536 in
set_option maxHeartbeats 40000000 in
theorem rm24 (l : Launch) (Z : State) (a0 : Array Value) (hw : ∀ d ∈ tables_1, d.before a0 Z = true) (r0 : Addr) (r1 : Addr) (z_C : Int32) (v0 : Addr) (g : Int32 → Int32) (n : Nat) (cap : Nat) (h0 : Heap) (n0 : Nat) (S_C0 : Sta Z h0 "java/lang/String" "COMPACT_STRINGS" "Z" (.int z_C)) (hz : ¬ z_C = 0) (Z0 : n0 ≤ h0.size) (E0 : Exa Z h0 r0 "java/lang/String") (Fv0 : Fld Z h0 r0 "java/lang/String" "value" "[B" .null) (Fc0 : Fld Z h0 r0 "java/lang/String" "coder" "B" (.int (0 : Int32))) (g0 : n0 ≤ r0) (Eb : Exa Z h0 r1 "java/lang/StringBuilder") (Fbv : Fld Z h0 r1 "java/lang/AbstractStringBuilder" "value" "[B" (.ref v0)) (Fbc : Fld Z h0 r1 "java/lang/AbstractStringBuilder" "coder" "B" (.int (0 : Int32))) (Fbn : Fld Z h0 r1 "java/lang/AbstractStringBuilder" "count" "I" (.int (Int32.ofNat n))) (Fbm : Fld Z h0 r1 "java/lang/AbstractStringBuilder" "maybeLatin1" "Z" (.int (0 : Int32))) (Vb : own_Arr Z h0 v0 .byte (Int32.ofNat cap) g) (Bb : own_Byt g cap) (hn : n < cap) (hc6 : cap ≤ 256) (ne_r0_r1 : r0 ≠ r1) (ne_r0_v0 : r0 ≠ v0) :
    own_Met l Z n0 (⟨"java/lang/String", "<init>", "(Ljava/lang/AbstractStringBuilder;Ljava/lang/Void;)V"⟩ : MethodName) jdk_42_method_150_code 5 none ({ frames := 3, cells := 1, slots := 256, locals := 71 } : Room) #[(.ref r0), (.ref r1), .null] h0 (fun v h => v = none ∧ Keep h0 h [r0] ∧ Fld Z h r0 "java/lang/String" "coder" "B" (.int (0 : Int32)) ∧ ∃ t, n0 ≤ t ∧ h0.size ≤ t ∧ Fld Z h r0 "java/lang/String" "value" "[B" (.ref t) ∧ own_Arr Z h t .byte (Int32.ofNat n) (own_cpf g 0 0 n (fun _ => 0))) := by
  refine own_met (plainFor_of_name pn_6) ?_
  intro p e s m below meth c T0 hx hby hml hown hnm hret hlk hZ A0
  rw [ef_24]
  show own_Go _ _ _ _ (T0.setTop (mkF m 0 #[.val (.ref r0), .val (.ref r1), .val .null, .unset, .unset] []))
  refine own_go (fun t_ k_ => XS.aloadN A0.here hx rfl (hb hby d24_0) rfl rfl k_) ?_
  show own_Go _ _ _ _ (T0.setTop (mkF m 1 #[.val (.ref r0), .val (.ref r1), .val .null, .unset, .unset] [(.ref r0)]))
  refine own_initO A0 hx hZ hown (hw _ (List.mem_of_getElem? (i := 136) rfl)) (hw _ (List.mem_of_getElem? (i := 25) rfl)) (hw _ (List.mem_of_getElem? (i := 26) rfl)) rfl (by rw [hml]; rfl) rfl (hb hby d24_1) (by decide) 0 (by show 2 * 0 + _ ≤ _; exact Nat.le_of_eq rfl) (by decide) (fun T1 A2 => ?_)
  show own_Go _ _ _ _ (T1.setTop (mkF m 4 #[.val (.ref r0), .val (.ref r1), .val .null, .unset, .unset] []))
  refine own_go (fun t_ k_ => XS.aloadN A2.here hx rfl (hb hby d24_4) rfl rfl k_) ?_
  show own_Go _ _ _ _ (T1.setTop (mkF m 5 #[.val (.ref r0), .val (.ref r1), .val .null, .unset, .unset] [(.ref r1)]))
  refine own_callV A2 hx hZ (y := (⟨"java/lang/AbstractStringBuilder", "getValue", "()[B"⟩ : MethodName)) (z := (⟨"java/lang/AbstractStringBuilder", "getValue", "()[B"⟩ : MethodName)) hown (hw _ (List.mem_of_getElem? (i := 137) rfl)) (hw _ (List.mem_of_getElem? (i := 138) rfl)) (hw _ (List.mem_of_getElem? (i := 140) rfl)) (hw _ (List.mem_of_getElem? (i := 139) rfl)) (hw _ (List.mem_of_getElem? (i := 22) rfl)) (hw _ (List.mem_of_getElem? (i := 141) rfl)) (notFace_of_selects (args := #[]) (mvT hZ (hw _ (List.mem_of_getElem? (i := 140) rfl)))) (by decide) (b := r1) (argsL := []) (rest := []) Eb (rm25 l Z a0 hw r1 v0 h0 n0 Fbv) 0 (by decide) (by decide) rfl (by rw [hml]; rfl) (lenOf pd____B rfl) rfl (by show 2 * 0 + _ ≤ _; exact Nat.le_of_eq rfl) (hb hby d24_5) (by decide) (by decide) (fun v6 T3 h5 A4 hQ7 => ?_)
  obtain ⟨rfl, rfl⟩ := hQ7
  show own_Go _ _ _ _ (T3.setTop (mkF m 8 #[.val (.ref r0), .val (.ref r1), .val .null, .unset, .unset] [(.ref v0)]))
  refine own_go (fun t_ k_ => XS.astoreN A4.here hx rfl (hb hby d24_8) rfl rfl (l' := #[.val (.ref r0), .val (.ref r1), .val .null, .val (.ref v0), .unset]) rfl k_) ?_
  show own_Go _ _ _ _ (T3.setTop (mkF m 9 #[.val (.ref r0), .val (.ref r1), .val .null, .val (.ref v0), .unset] []))
  refine own_go (fun t_ k_ => XS.aloadN A4.here hx rfl (hb hby d24_9) rfl rfl k_) ?_
  show own_Go _ _ _ _ (T3.setTop (mkF m 10 #[.val (.ref r0), .val (.ref r1), .val .null, .val (.ref v0), .unset] [(.ref r1)]))
  refine own_callV A4 hx hZ (y := (⟨"java/lang/AbstractStringBuilder", "length", "()I"⟩ : MethodName)) (z := (⟨"java/lang/StringBuilder", "length", "()I"⟩ : MethodName)) hown (hw _ (List.mem_of_getElem? (i := 142) rfl)) (hw _ (List.mem_of_getElem? (i := 114) rfl)) (hw _ (List.mem_of_getElem? (i := 143) rfl)) (hw _ (List.mem_of_getElem? (i := 109) rfl)) (hw _ (List.mem_of_getElem? (i := 6) rfl)) (hw _ (List.mem_of_getElem? (i := 111) rfl)) (own_notFace (args := #[]) (mvT hZ (hw _ (List.mem_of_getElem? (i := 65) rfl))) rfl) (by decide) (b := r1) (argsL := []) (rest := []) Eb (rm18 l Z a0 hw r1 (Int32.ofNat n) h0 n0 Eb Fbn) 0 (by decide) (by decide) rfl (by rw [hml]; rfl) (lenOf pd___I rfl) rfl (by show 2 * 0 + _ ≤ _; exact Nat.le_of_eq rfl) (hb hby d24_10) (by decide) (by decide) (fun v11 T8 h10 A9 hQ12 => ?_)
  obtain ⟨rfl, rfl⟩ := hQ12
  show own_Go _ _ _ _ (T8.setTop (mkF m 13 #[.val (.ref r0), .val (.ref r1), .val .null, .val (.ref v0), .unset] [(.int (Int32.ofNat n))]))
  refine own_go (fun t_ k_ => XS.istore A9.here hx rfl (hb hby d24_13) rfl (l' := #[.val (.ref r0), .val (.ref r1), .val .null, .val (.ref v0), .val (.int (Int32.ofNat n))]) rfl k_) ?_
  show own_Go _ _ _ _ (T8.setTop (mkF m 15 #[.val (.ref r0), .val (.ref r1), .val .null, .val (.ref v0), .val (.int (Int32.ofNat n))] []))
  refine own_go (fun t_ k_ => XS.aloadN A9.here hx rfl (hb hby d24_15) rfl rfl k_) ?_
  show own_Go _ _ _ _ (T8.setTop (mkF m 16 #[.val (.ref r0), .val (.ref r1), .val .null, .val (.ref v0), .val (.int (Int32.ofNat n))] [(.ref r1)]))
  refine own_callV A9 hx hZ (y := (⟨"java/lang/AbstractStringBuilder", "isLatin1", "()Z"⟩ : MethodName)) (z := (⟨"java/lang/AbstractStringBuilder", "isLatin1", "()Z"⟩ : MethodName)) hown (hw _ (List.mem_of_getElem? (i := 144) rfl)) (hw _ (List.mem_of_getElem? (i := 99) rfl)) (hw _ (List.mem_of_getElem? (i := 101) rfl)) (hw _ (List.mem_of_getElem? (i := 100) rfl)) (hw _ (List.mem_of_getElem? (i := 22) rfl)) (hw _ (List.mem_of_getElem? (i := 102) rfl)) (notFace_of_selects (args := #[]) (mvT hZ (hw _ (List.mem_of_getElem? (i := 101) rfl)))) (by decide) (b := r1) (argsL := []) (rest := []) Eb (rm16 l Z a0 hw r1 z_C h0 n0 S_C0 hz Fbc) 0 (by decide) (by decide) rfl (by rw [hml]; rfl) (lenOf pd___Z rfl) rfl (by show 2 * 0 + _ ≤ _; exact Nat.le_of_eq rfl) (hb hby d24_16) (by decide) (by decide) (fun v16 T13 h15 A14 hQ17 => ?_)
  obtain ⟨rfl, rfl⟩ := hQ17
  show own_Go _ _ _ _ (T13.setTop (mkF m 19 #[.val (.ref r0), .val (.ref r1), .val .null, .val (.ref v0), .val (.int (Int32.ofNat n))] [(.int (1 : Int32))]))
  have hc18 : ¬ ((1 : Int32) = (0 : Int32)) := (by decide)
  refine own_go (fun t_ k_ => XS.ifNo A14.here hx rfl (hb hby d24_19) rfl ((if0 _ _).trans (feq hc18).1) k_) ?_
  show own_Go _ _ _ _ (T13.setTop (mkF m 22 #[.val (.ref r0), .val (.ref r1), .val .null, .val (.ref v0), .val (.int (Int32.ofNat n))] []))
  refine own_go (fun t_ k_ => XS.aloadN A14.here hx rfl (hb hby d24_22) rfl rfl k_) ?_
  show own_Go _ _ _ _ (T13.setTop (mkF m 23 #[.val (.ref r0), .val (.ref r1), .val .null, .val (.ref v0), .val (.int (Int32.ofNat n))] [(.ref r0)]))
  refine own_go (fun t_ k_ => XS.iconst A14.here hx rfl (hb hby d24_23) k_) ?_
  show own_Go _ _ _ _ (T13.setTop (mkF m 24 #[.val (.ref r0), .val (.ref r1), .val .null, .val (.ref v0), .val (.int (Int32.ofNat n))] [(.int (0 : Int32)), (.ref r0)]))
  refine own_putF A14 hx hZ hown (host := "") (Or.inl (hw _ (List.mem_of_getElem? (i := 39) rfl))) Via.refl Fc0 E0 (Or.inr ⟨(hw _ (List.mem_of_getElem? (i := 12) rfl)), rfl, hnm⟩) (hw _ (List.mem_of_getElem? (i := 9) rfl)) (ty := .byte) (by decide) rfl rfl g0 rfl rfl (hb hby d24_24) (fun T19 h21 A20 W22 => ?_)
  have Z23 : n0 ≤ h21.size := Nat.le_trans Z0 (Nat.le_of_eq (Wr.size W22).symm)
  have E24 : Exa Z h21 r0 "java/lang/String" := E0.wr W22
  have F25 : Fld Z h21 r0 "java/lang/String" "value" "[B" .null := Fv0.other W22 (Or.inr (slot_ne (Or.inr (hw _ (List.mem_of_getElem? (i := 11) rfl))) (Or.inr (hw _ (List.mem_of_getElem? (i := 12) rfl))) (by decide) (t := (.array .byte)) (t' := .byte) (by decide) (by decide)))
  have F26 : Fld Z h21 r0 "java/lang/String" "coder" "B" (.int (0 : Int32)) := Fc0.same W22
  have K27 : Keep h0 h21 [r0] := (Keep.refl h0 [r0]).wr W22 (Or.inl (List.mem_of_getElem? (i := 0) rfl))
  have E28 : Exa Z h21 r1 "java/lang/StringBuilder" := Eb.wr W22
  have F29 : Fld Z h21 r1 "java/lang/AbstractStringBuilder" "value" "[B" (.ref v0) := Fbv.other W22 (Or.inl (Ne.symm ne_r0_r1))
  have F30 : Fld Z h21 r1 "java/lang/AbstractStringBuilder" "coder" "B" (.int (0 : Int32)) := Fbc.other W22 (Or.inl (Ne.symm ne_r0_r1))
  have F31 : Fld Z h21 r1 "java/lang/AbstractStringBuilder" "count" "I" (.int (Int32.ofNat n)) := Fbn.other W22 (Or.inl (Ne.symm ne_r0_r1))
  have F32 : Fld Z h21 r1 "java/lang/AbstractStringBuilder" "maybeLatin1" "Z" (.int (0 : Int32)) := Fbm.other W22 (Or.inl (Ne.symm ne_r0_r1))
  have V33 : own_Arr Z h21 v0 .byte (Int32.ofNat cap) g := Vb.other W22 (Ne.symm ne_r0_v0)
  show own_Go _ _ _ _ (T19.setTop (mkF m 27 #[.val (.ref r0), .val (.ref r1), .val .null, .val (.ref v0), .val (.int (Int32.ofNat n))] []))
  refine own_go (fun t_ k_ => XS.aloadN A20.here hx rfl (hb hby d24_27) rfl rfl k_) ?_
  show own_Go _ _ _ _ (T19.setTop (mkF m 28 #[.val (.ref r0), .val (.ref r1), .val .null, .val (.ref v0), .val (.int (Int32.ofNat n))] [(.ref r0)]))
  refine own_go (fun t_ k_ => XS.aloadN A20.here hx rfl (hb hby d24_28) rfl rfl k_) ?_
  show own_Go _ _ _ _ (T19.setTop (mkF m 29 #[.val (.ref r0), .val (.ref r1), .val .null, .val (.ref v0), .val (.int (Int32.ofNat n))] [(.ref v0), (.ref r0)]))
  refine own_go (fun t_ k_ => XS.iconst A20.here hx rfl (hb hby d24_29) k_) ?_
  show own_Go _ _ _ _ (T19.setTop (mkF m 30 #[.val (.ref r0), .val (.ref r1), .val .null, .val (.ref v0), .val (.int (Int32.ofNat n))] [(.int (0 : Int32)), (.ref v0), (.ref r0)]))
  refine own_go (fun t_ k_ => XS.iload A20.here hx rfl (hb hby d24_30) rfl k_) ?_
  show own_Go _ _ _ _ (T19.setTop (mkF m 32 #[.val (.ref r0), .val (.ref r1), .val .null, .val (.ref v0), .val (.int (Int32.ofNat n))] [(.int (Int32.ofNat n)), (.int (0 : Int32)), (.ref v0), (.ref r0)]))
  refine own_callS A20 hx hZ hown (y := (⟨"java/util/Arrays", "copyOfRange", "([BII)[B"⟩ : MethodName)) (hw _ (List.mem_of_getElem? (i := 145) rfl)) (hw _ (List.mem_of_getElem? (i := 146) rfl)) (hw _ (List.mem_of_getElem? (i := 147) rfl)) (hw _ (List.mem_of_getElem? (i := 148) rfl)) (by decide) (argsL := [(.ref v0), (.int (0 : Int32)), (.int (Int32.ofNat n))]) (rest := [(.ref r0)]) (rm26 l Z a0 hw v0 g n cap h21 n0 Z23 V33 Bb hn hc6) 1 (by decide) (by decide) rfl (by rw [hml]; rfl) (lenOf pd___BII__B rfl) rfl (by show 2 * 0 + _ ≤ _; exact Nat.le_of_eq rfl) (hb hby d24_32) (by decide) (by decide) (fun v37 T34 h36 A35 hQ38 => ?_)
  obtain ⟨K39, t40, rfl, gt41, nt42, V43⟩ := hQ38
  have ne_r0_t40 : r0 ≠ t40 := Nat.ne_of_lt (Nat.lt_of_lt_of_le E24.lt nt42)
  have ne_r1_t40 : r1 ≠ t40 := Nat.ne_of_lt (Nat.lt_of_lt_of_le E28.lt nt42)
  have ne_v0_t40 : v0 ≠ t40 := Nat.ne_of_lt (Nat.lt_of_lt_of_le V33.lt nt42)
  have nw_t40 : h0.size ≤ t40 := Nat.le_trans K27.1 nt42
  have Z44 : n0 ≤ h36.size := Nat.le_trans Z23 K39.1
  have E45 : Exa Z h36 r0 "java/lang/String" := E24.keep K39
  have F46 : Fld Z h36 r0 "java/lang/String" "value" "[B" .null := F25.keep K39 nin0
  have F47 : Fld Z h36 r0 "java/lang/String" "coder" "B" (.int (0 : Int32)) := F26.keep K39 nin0
  have K48 : Keep h0 h36 [r0] := K27.trans K39 all0
  have E49 : Exa Z h36 r1 "java/lang/StringBuilder" := E28.keep K39
  have F50 : Fld Z h36 r1 "java/lang/AbstractStringBuilder" "value" "[B" (.ref v0) := F29.keep K39 nin0
  have F51 : Fld Z h36 r1 "java/lang/AbstractStringBuilder" "coder" "B" (.int (0 : Int32)) := F30.keep K39 nin0
  have F52 : Fld Z h36 r1 "java/lang/AbstractStringBuilder" "count" "I" (.int (Int32.ofNat n)) := F31.keep K39 nin0
  have F53 : Fld Z h36 r1 "java/lang/AbstractStringBuilder" "maybeLatin1" "Z" (.int (0 : Int32)) := F32.keep K39 nin0
  have V54 : own_Arr Z h36 v0 .byte (Int32.ofNat cap) g := V33.keep K39 nin0
  show own_Go _ _ _ _ (T34.setTop (mkF m 35 #[.val (.ref r0), .val (.ref r1), .val .null, .val (.ref v0), .val (.int (Int32.ofNat n))] [(.ref t40), (.ref r0)]))
  refine own_putF A35 hx hZ hown (host := "") (Or.inl (hw _ (List.mem_of_getElem? (i := 32) rfl))) Via.refl F46 E45 (Or.inr ⟨(hw _ (List.mem_of_getElem? (i := 11) rfl)), rfl, hnm⟩) (hw _ (List.mem_of_getElem? (i := 9) rfl)) (ty := (.array .byte)) (by decide) rfl rfl g0 rfl rfl (hb hby d24_35) (fun T55 h57 A56 W58 => ?_)
  have Z59 : n0 ≤ h57.size := Nat.le_trans Z44 (Nat.le_of_eq (Wr.size W58).symm)
  have E60 : Exa Z h57 r0 "java/lang/String" := E45.wr W58
  have F61 : Fld Z h57 r0 "java/lang/String" "value" "[B" (.ref t40) := F46.same W58
  have F62 : Fld Z h57 r0 "java/lang/String" "coder" "B" (.int (0 : Int32)) := F47.other W58 (Or.inr (slot_ne (Or.inr (hw _ (List.mem_of_getElem? (i := 12) rfl))) (Or.inr (hw _ (List.mem_of_getElem? (i := 11) rfl))) (by decide) (t := .byte) (t' := (.array .byte)) (by decide) (by decide)))
  have K63 : Keep h0 h57 [r0] := K48.wr W58 (Or.inl (List.mem_of_getElem? (i := 0) rfl))
  have E64 : Exa Z h57 r1 "java/lang/StringBuilder" := E49.wr W58
  have F65 : Fld Z h57 r1 "java/lang/AbstractStringBuilder" "value" "[B" (.ref v0) := F50.other W58 (Or.inl (Ne.symm ne_r0_r1))
  have F66 : Fld Z h57 r1 "java/lang/AbstractStringBuilder" "coder" "B" (.int (0 : Int32)) := F51.other W58 (Or.inl (Ne.symm ne_r0_r1))
  have F67 : Fld Z h57 r1 "java/lang/AbstractStringBuilder" "count" "I" (.int (Int32.ofNat n)) := F52.other W58 (Or.inl (Ne.symm ne_r0_r1))
  have F68 : Fld Z h57 r1 "java/lang/AbstractStringBuilder" "maybeLatin1" "Z" (.int (0 : Int32)) := F53.other W58 (Or.inl (Ne.symm ne_r0_r1))
  have V69 : own_Arr Z h57 v0 .byte (Int32.ofNat cap) g := V54.other W58 (Ne.symm ne_r0_v0)
  have V70 : own_Arr Z h57 t40 .byte (Int32.ofNat n) (own_cpf g 0 0 n (fun _ => 0)) := V43.other W58 (Ne.symm ne_r0_t40)
  show own_Go _ _ _ _ (T55.setTop (mkF m 38 #[.val (.ref r0), .val (.ref r1), .val .null, .val (.ref v0), .val (.int (Int32.ofNat n))] []))
  refine own_go (fun t_ k_ => XS.goto A56.here hx rfl (pc0 := 38) (pc' := 97) rfl (hb hby d24_38) (by decide) (by decide) k_) ?_
  show own_Go _ _ _ _ (T55.setTop (mkF m 97 #[.val (.ref r0), .val (.ref r1), .val .null, .val (.ref v0), .val (.int (Int32.ofNat n))] []))
  refine own_retV A56 hx hret hlk (by decide) (by decide) (hb hby d24_97) ?_
  exact ⟨rfl, K63, F62, t40, gt41, nw_t40, F61, V70⟩
theorem ef_23 (m : MethodId) (r0 : Addr) (r1 : Addr) : entryFrame m #[(.ref r0), (.ref r1)] 2 = mkF m 0 #[.val (.ref r0), .val (.ref r1)] [] := by first | (simp [entryFrame, mkF, argsToLocals, Value.category]; done) | rfl
theorem d23_0 : decode jdk_42_method_53_code 0 = .ok (.aload_n 0, 1) := by decide +kernel
theorem d23_1 : decode jdk_42_method_53_code 1 = .ok (.aload_n 1, 1) := by decide +kernel
theorem d23_2 : decode jdk_42_method_53_code 2 = .ok (.aconst_null, 1) := by decide +kernel
theorem d23_3 : decode jdk_42_method_53_code 3 = .ok (.invokespecial 489, 3) := by decide +kernel
theorem pd__Ljava_lang_AbstractStringBuilder_Ljava_lang_Void__V : parseMethodDescriptor "(Ljava/lang/AbstractStringBuilder;Ljava/lang/Void;)V" = some ⟨[(.object "java/lang/AbstractStringBuilder"), (.object "java/lang/Void")], none⟩ := by decide +kernel
theorem d23_6 : decode jdk_42_method_53_code 6 = .ok (.return_, 1) := by decide +kernel
set_option maxRecDepth 65536 in
set_option maxHeartbeats 40000000 in
theorem rm23 (l : Launch) (Z : State) (a0 : Array Value) (hw : ∀ d ∈ tables_1, d.before a0 Z = true) (r0 : Addr) (r1 : Addr) (z_C : Int32) (v0 : Addr) (g : Int32 → Int32) (n : Nat) (cap : Nat) (h0 : Heap) (n0 : Nat) (S_C0 : Sta Z h0 "java/lang/String" "COMPACT_STRINGS" "Z" (.int z_C)) (hz : ¬ z_C = 0) (Z0 : n0 ≤ h0.size) (E0 : Exa Z h0 r0 "java/lang/String") (Fv0 : Fld Z h0 r0 "java/lang/String" "value" "[B" .null) (Fc0 : Fld Z h0 r0 "java/lang/String" "coder" "B" (.int (0 : Int32))) (g0 : n0 ≤ r0) (Eb : Exa Z h0 r1 "java/lang/StringBuilder") (Fbv : Fld Z h0 r1 "java/lang/AbstractStringBuilder" "value" "[B" (.ref v0)) (Fbc : Fld Z h0 r1 "java/lang/AbstractStringBuilder" "coder" "B" (.int (0 : Int32))) (Fbn : Fld Z h0 r1 "java/lang/AbstractStringBuilder" "count" "I" (.int (Int32.ofNat n))) (Fbm : Fld Z h0 r1 "java/lang/AbstractStringBuilder" "maybeLatin1" "Z" (.int (0 : Int32))) (Vb : own_Arr Z h0 v0 .byte (Int32.ofNat cap) g) (Bb : own_Byt g cap) (hn : n < cap) (hc6 : cap ≤ 256) (ne_r0_r1 : r0 ≠ r1) (ne_r0_v0 : r0 ≠ v0) :
    own_Met l Z n0 (⟨"java/lang/String", "<init>", "(Ljava/lang/StringBuilder;)V"⟩ : MethodName) jdk_42_method_53_code 2 none ({ frames := 4, cells := 1, slots := 256, locals := 87 } : Room) #[(.ref r0), (.ref r1)] h0 (fun v h => v = none ∧ Keep h0 h [r0] ∧ Fld Z h r0 "java/lang/String" "coder" "B" (.int (0 : Int32)) ∧ ∃ t, n0 ≤ t ∧ h0.size ≤ t ∧ Fld Z h r0 "java/lang/String" "value" "[B" (.ref t) ∧ own_Arr Z h t .byte (Int32.ofNat n) (own_cpf g 0 0 n (fun _ => 0))) := by
  refine own_met (plainFor_of_name pn_6) ?_
  intro p e s m below meth c T0 hx hby hml hown hnm hret hlk hZ A0
  rw [ef_23]
  show own_Go _ _ _ _ (T0.setTop (mkF m 0 #[.val (.ref r0), .val (.ref r1)] []))
  refine own_go (fun t_ k_ => XS.aloadN A0.here hx rfl (hb hby d23_0) rfl rfl k_) ?_
  show own_Go _ _ _ _ (T0.setTop (mkF m 1 #[.val (.ref r0), .val (.ref r1)] [(.ref r0)]))
  refine own_go (fun t_ k_ => XS.aloadN A0.here hx rfl (hb hby d23_1) rfl rfl k_) ?_
  show own_Go _ _ _ _ (T0.setTop (mkF m 2 #[.val (.ref r0), .val (.ref r1)] [(.ref r1), (.ref r0)]))
  refine own_go (fun t_ k_ => XS.aconstNull A0.here hx rfl (hb hby d23_2) k_) ?_
  show own_Go _ _ _ _ (T0.setTop (mkF m 3 #[.val (.ref r0), .val (.ref r1)] [.null, (.ref r1), (.ref r0)]))
  refine own_callI A0 hx hZ (y := (⟨"java/lang/String", "<init>", "(Ljava/lang/AbstractStringBuilder;Ljava/lang/Void;)V"⟩ : MethodName)) rfl hown (hw _ (List.mem_of_getElem? (i := 133) rfl)) (hw _ (List.mem_of_getElem? (i := 134) rfl)) (hw _ (List.mem_of_getElem? (i := 8) rfl)) (hw _ (List.mem_of_getElem? (i := 135) rfl)) (by decide) (b := r0) (argsL := [(.ref r1), .null]) (rest := []) (rm24 l Z a0 hw r0 r1 z_C v0 g n cap h0 n0 S_C0 hz Z0 E0 Fv0 Fc0 g0 Eb Fbv Fbc Fbn Fbm Vb Bb hn hc6 ne_r0_r1 ne_r0_v0) 0 (by decide) (by decide) rfl (by rw [hml]; rfl) (lenOf pd__Ljava_lang_AbstractStringBuilder_Ljava_lang_Void__V rfl) rfl (by show 2 * 0 + _ ≤ _; exact Nat.le_of_eq rfl) (hb hby d23_3) (by decide) (by decide) (fun v4 T1 h3 A2 hQ5 => ?_)
  obtain ⟨rfl, K6, F7, t8, gt9, nt10, F11, V12⟩ := hQ5
  have ne_r0_t8 : r0 ≠ t8 := Nat.ne_of_lt (Nat.lt_of_lt_of_le E0.lt nt10)
  have ne_r1_t8 : r1 ≠ t8 := Nat.ne_of_lt (Nat.lt_of_lt_of_le Eb.lt nt10)
  have ne_v0_t8 : v0 ≠ t8 := Nat.ne_of_lt (Nat.lt_of_lt_of_le Vb.lt nt10)
  have nw_t8 : h0.size ≤ t8 := Nat.le_trans (Keep.refl h0 [r0]).1 nt10
  have Z13 : n0 ≤ h3.size := Nat.le_trans Z0 K6.1
  have E14 : Exa Z h3 r0 "java/lang/String" := E0.keep K6
  have K15 : Keep h0 h3 [r0] := (Keep.refl h0 [r0]).trans K6 (allS (Or.inl (List.mem_of_getElem? (i := 0) rfl)) all0)
  have E16 : Exa Z h3 r1 "java/lang/StringBuilder" := Eb.keep K6
  have F17 : Fld Z h3 r1 "java/lang/AbstractStringBuilder" "value" "[B" (.ref v0) := Fbv.keep K6 (ninS (Ne.symm ne_r0_r1) nin0)
  have F18 : Fld Z h3 r1 "java/lang/AbstractStringBuilder" "coder" "B" (.int (0 : Int32)) := Fbc.keep K6 (ninS (Ne.symm ne_r0_r1) nin0)
  have F19 : Fld Z h3 r1 "java/lang/AbstractStringBuilder" "count" "I" (.int (Int32.ofNat n)) := Fbn.keep K6 (ninS (Ne.symm ne_r0_r1) nin0)
  have F20 : Fld Z h3 r1 "java/lang/AbstractStringBuilder" "maybeLatin1" "Z" (.int (0 : Int32)) := Fbm.keep K6 (ninS (Ne.symm ne_r0_r1) nin0)
  have V21 : own_Arr Z h3 v0 .byte (Int32.ofNat cap) g := Vb.keep K6 (ninS (Ne.symm ne_r0_v0) nin0)
  show own_Go _ _ _ _ (T1.setTop (mkF m 6 #[.val (.ref r0), .val (.ref r1)] []))
  refine own_retV A2 hx hret hlk (by decide) (by decide) (hb hby d23_6) ?_
  exact ⟨rfl, K15, F7, t8, gt9, nw_t8, F11, V12⟩
theorem ef_22 (m : MethodId) (r0 : Addr) : entryFrame m #[(.ref r0)] 1 = mkF m 0 #[.val (.ref r0)] [] := by first | (simp [entryFrame, mkF, argsToLocals, Value.category]; done) | rfl
theorem d22_0 : decode jdk_67_method_42_code 0 = .ok (.new 18, 3) := by decide +kernel
theorem d22_3 : decode jdk_67_method_42_code 3 = .ok (.dup, 1) := by decide +kernel
theorem d22_4 : decode jdk_67_method_42_code 4 = .ok (.aload_n 0, 1) := by decide +kernel
theorem d22_5 : decode jdk_67_method_42_code 5 = .ok (.invokespecial 137, 3) := by decide +kernel
theorem pd__Ljava_lang_StringBuilder__V : parseMethodDescriptor "(Ljava/lang/StringBuilder;)V" = some ⟨[(.object "java/lang/StringBuilder")], none⟩ := by decide +kernel
theorem d22_8 : decode jdk_67_method_42_code 8 = .ok (.areturn, 1) := by decide +kernel
set_option maxRecDepth 65536 in
set_option maxHeartbeats 40000000 in
theorem rm22 (l : Launch) (Z : State) (a0 : Array Value) (hw : ∀ d ∈ tables_1, d.before a0 Z = true) (r0 : Addr) (z_C : Int32) (v0 : Addr) (g : Int32 → Int32) (n : Nat) (cap : Nat) (h0 : Heap) (n0 : Nat) (O0 : Old Z n0 h0) (hz : ¬ z_C = 0) (S_COMPACT_STRINGS : Sta Z Z.heap "java/lang/String" "COMPACT_STRINGS" "Z" (.int z_C)) (Z0 : n0 ≤ h0.size) (Eb : Exa Z h0 r0 "java/lang/StringBuilder") (Fbv : Fld Z h0 r0 "java/lang/AbstractStringBuilder" "value" "[B" (.ref v0)) (Fbc : Fld Z h0 r0 "java/lang/AbstractStringBuilder" "coder" "B" (.int (0 : Int32))) (Fbn : Fld Z h0 r0 "java/lang/AbstractStringBuilder" "count" "I" (.int (Int32.ofNat n))) (Fbm : Fld Z h0 r0 "java/lang/AbstractStringBuilder" "maybeLatin1" "Z" (.int (0 : Int32))) (Vb : own_Arr Z h0 v0 .byte (Int32.ofNat cap) g) (Bb : own_Byt g cap) (hn : n < cap) (hc6 : cap ≤ 256) :
    own_Met l Z n0 (⟨"java/lang/StringBuilder", "toString", "()Ljava/lang/String;"⟩ : MethodName) jdk_67_method_42_code 1 (some (.object "java/lang/String")) ({ frames := 5, cells := 2, slots := 260, locals := 101 } : Room) #[(.ref r0)] h0 (fun v h => Keep h0 h [] ∧ ∃ x t, v = some (.ref x) ∧ n0 ≤ x ∧ h0.size ≤ x ∧ Exa Z h x "java/lang/String" ∧ Fld Z h x "java/lang/String" "coder" "B" (.int (0 : Int32)) ∧ Fld Z h x "java/lang/String" "value" "[B" (.ref t) ∧ own_Arr Z h t .byte (Int32.ofNat n) (own_cpf g 0 0 n (fun _ => 0))) := by
  refine own_met (plainFor_of_name pn_8) ?_
  intro p e s m below meth c T0 hx hby hml hown hnm hret hlk hZ A0
  rw [ef_22]
  show own_Go _ _ _ _ (T0.setTop (mkF m 0 #[.val (.ref r0)] []))
  refine own_newO A0 hx hZ hown (hw _ (List.mem_of_getElem? (i := 128) rfl)) (hw _ (List.mem_of_getElem? (i := 9) rfl)) (hw _ (List.mem_of_getElem? (i := 8) rfl)) rfl (hb hby d22_0) (by decide) (by decide) (fun T1 h3 b4 ha_b4 A2 E5 X6 D7 => ?_)
  have ne_r0_b4 : r0 ≠ b4 := Nat.ne_of_lt (by rw [ha_b4]; exact Eb.lt)
  have ne_v0_b4 : v0 ≠ b4 := Nat.ne_of_lt (by rw [ha_b4]; exact Vb.lt)
  have g_b4 : n0 ≤ b4 := by rw [ha_b4]; exact Z0
  have nw_b4 : h0.size ≤ b4 := by rw [ha_b4]; exact (Keep.refl h0 []).1
  have O9 : Old Z n0 h3 := O0.ext E5
  have Z10 : n0 ≤ h3.size := Nat.le_trans Z0 E5.1
  have K11 : Keep h0 h3 [] := (Keep.refl h0 []).ext E5
  have E12 : Exa Z h3 r0 "java/lang/StringBuilder" := Eb.ext E5
  have F13 : Fld Z h3 r0 "java/lang/AbstractStringBuilder" "value" "[B" (.ref v0) := Fbv.ext E5
  have F14 : Fld Z h3 r0 "java/lang/AbstractStringBuilder" "coder" "B" (.int (0 : Int32)) := Fbc.ext E5
  have F15 : Fld Z h3 r0 "java/lang/AbstractStringBuilder" "count" "I" (.int (Int32.ofNat n)) := Fbn.ext E5
  have F16 : Fld Z h3 r0 "java/lang/AbstractStringBuilder" "maybeLatin1" "Z" (.int (0 : Int32)) := Fbm.ext E5
  have V17 : own_Arr Z h3 v0 .byte (Int32.ofNat cap) g := Vb.ext E5
  have F18 : Fld Z h3 b4 "java/lang/String" "value" "[B" .null := D7 (Or.inr (hw _ (List.mem_of_getElem? (i := 11) rfl))) (ty := (.array .byte)) (by decide)
  have F19 : Fld Z h3 b4 "java/lang/String" "coder" "B" (.int (0 : Int32)) := D7 (Or.inr (hw _ (List.mem_of_getElem? (i := 12) rfl))) (ty := .byte) (by decide)
  show own_Go _ _ _ _ (T1.setTop (mkF m 3 #[.val (.ref r0)] [(.ref b4)]))
  refine own_go (fun t_ k_ => XS.dup A2.here hx rfl (hb hby d22_3) rfl rfl k_) ?_
  show own_Go _ _ _ _ (T1.setTop (mkF m 4 #[.val (.ref r0)] [(.ref b4), (.ref b4)]))
  refine own_go (fun t_ k_ => XS.aloadN A2.here hx rfl (hb hby d22_4) rfl rfl k_) ?_
  show own_Go _ _ _ _ (T1.setTop (mkF m 5 #[.val (.ref r0)] [(.ref r0), (.ref b4), (.ref b4)]))
  refine own_callI A2 hx hZ (y := (⟨"java/lang/String", "<init>", "(Ljava/lang/StringBuilder;)V"⟩ : MethodName)) rfl hown (hw _ (List.mem_of_getElem? (i := 129) rfl)) (hw _ (List.mem_of_getElem? (i := 130) rfl)) (hw _ (List.mem_of_getElem? (i := 8) rfl)) (hw _ (List.mem_of_getElem? (i := 132) rfl)) (by decide) (b := b4) (argsL := [(.ref r0)]) (rest := [(.ref b4)]) (rm23 l Z a0 hw b4 r0 z_C v0 g n cap h3 n0 (S_COMPACT_STRINGS.ext O9.2) hz Z10 X6 F18 F19 g_b4 E12 F13 F14 F15 F16 V17 Bb hn hc6 (Ne.symm ne_r0_b4) (Ne.symm ne_v0_b4)) 1 (by decide) (by decide) rfl (by rw [hml]; rfl) (lenOf pd__Ljava_lang_StringBuilder__V rfl) rfl (by show 2 * 0 + _ ≤ _; exact Nat.le_of_eq rfl) (hb hby d22_5) (by decide) (by decide) (fun v23 T20 h22 A21 hQ24 => ?_)
  obtain ⟨rfl, K25, F26, t27, gt28, nt29, F30, V31⟩ := hQ24
  have ne_r0_t27 : r0 ≠ t27 := Nat.ne_of_lt (Nat.lt_of_lt_of_le E12.lt nt29)
  have ne_v0_t27 : v0 ≠ t27 := Nat.ne_of_lt (Nat.lt_of_lt_of_le V17.lt nt29)
  have ne_b4_t27 : b4 ≠ t27 := Nat.ne_of_lt (Nat.lt_of_lt_of_le X6.lt nt29)
  have nw_t27 : h0.size ≤ t27 := Nat.le_trans K11.1 nt29
  have O32 : Old Z n0 h22 := O9.keep K25 (allS g_b4 all0)
  have Z33 : n0 ≤ h22.size := Nat.le_trans Z10 K25.1
  have K34 : Keep h0 h22 [] := K11.trans K25 (allS (Or.inr nw_b4) all0)
  have E35 : Exa Z h22 r0 "java/lang/StringBuilder" := E12.keep K25
  have F36 : Fld Z h22 r0 "java/lang/AbstractStringBuilder" "value" "[B" (.ref v0) := F13.keep K25 (ninS ne_r0_b4 nin0)
  have F37 : Fld Z h22 r0 "java/lang/AbstractStringBuilder" "coder" "B" (.int (0 : Int32)) := F14.keep K25 (ninS ne_r0_b4 nin0)
  have F38 : Fld Z h22 r0 "java/lang/AbstractStringBuilder" "count" "I" (.int (Int32.ofNat n)) := F15.keep K25 (ninS ne_r0_b4 nin0)
  have F39 : Fld Z h22 r0 "java/lang/AbstractStringBuilder" "maybeLatin1" "Z" (.int (0 : Int32)) := F16.keep K25 (ninS ne_r0_b4 nin0)
  have V40 : own_Arr Z h22 v0 .byte (Int32.ofNat cap) g := V17.keep K25 (ninS ne_v0_b4 nin0)
  have E41 : Exa Z h22 b4 "java/lang/String" := X6.keep K25
  show own_Go _ _ _ _ (T20.setTop (mkF m 8 #[.val (.ref r0)] [(.ref b4)]))
  refine own_retA A21 hx hret rfl hlk (by decide) (by decide) rfl (hb hby d22_8) ?_
  exact ⟨K34, b4, t27, rfl, g_b4, nw_b4, E41, F26, F30, V31⟩
theorem d26_17 : decode jdk_65_method_132_code 17 = .ok (.aload_n 0, 1) := by decide +kernel
theorem d26_18 : decode jdk_65_method_132_code 18 = .ok (.invokevirtual 310, 3) := by decide +kernel
theorem d26_21 : decode jdk_65_method_132_code 21 = .ok (.checkcast 311, 3) := by decide +kernel
theorem d26_24 : decode jdk_65_method_132_code 24 = .ok (.areturn, 1) := by decide +kernel
set_option maxRecDepth 65536 in
set_option maxHeartbeats 40000000 in
theorem rm26_0 (l : Launch) (Z : State) (a0 : Array Value) (hw : ∀ d ∈ tables_1, d.before a0 Z = true) (r0 : Addr) (g : Int32 → Int32) (h0 : Heap) (n0 : Nat) (Z0 : n0 ≤ h0.size) (Vb : own_Arr Z h0 r0 .byte (0 : Int32) g) (EB : Exa Z h0 r0 "[B") :
    own_Met l Z n0 (⟨"java/util/Arrays", "copyOfRange", "([BII)[B"⟩ : MethodName) jdk_65_method_132_code 3 (some (.array .byte)) ({ frames := 1, cells := 1, slots := 0, locals := 14 } : Room) #[(.ref r0), (.int (0 : Int32)), (.int (0 : Int32))] h0 (fun v h => Keep h0 h [] ∧ ∃ t, v = some (.ref t) ∧ n0 ≤ t ∧ h0.size ≤ t ∧ own_Arr Z h t .byte (0 : Int32) g) := by
  refine own_met (plainFor_of_name pn_46) ?_
  intro p e s m below meth c T0 hx hby hml hown hnm hret hlk hZ A0
  rw [ef_26]
  show own_Go _ _ _ _ (T0.setTop (mkF m 0 #[.val (.ref r0), .val (.int (0 : Int32)), .val (.int (0 : Int32))] []))
  refine own_go (fun t_ k_ => XS.iloadN A0.here hx rfl (hb hby d26_0) rfl k_) ?_
  show own_Go _ _ _ _ (T0.setTop (mkF m 1 #[.val (.ref r0), .val (.int (0 : Int32)), .val (.int (0 : Int32))] [(.int (0 : Int32))]))
  have hc1 : (0 : Int32) = (0 : Int32) := (by decide)
  refine own_go (fun t_ k_ => XS.ifNo A0.here hx rfl (hb hby d26_1) rfl ((if0 _ _).trans (teq hc1).2) k_) ?_
  show own_Go _ _ _ _ (T0.setTop (mkF m 4 #[.val (.ref r0), .val (.int (0 : Int32)), .val (.int (0 : Int32))] []))
  refine own_go (fun t_ k_ => XS.iloadN A0.here hx rfl (hb hby d26_4) rfl k_) ?_
  show own_Go _ _ _ _ (T0.setTop (mkF m 5 #[.val (.ref r0), .val (.int (0 : Int32)), .val (.int (0 : Int32))] [(.int (0 : Int32))]))
  refine own_go (fun t_ k_ => XS.aloadN A0.here hx rfl (hb hby d26_5) rfl rfl k_) ?_
  show own_Go _ _ _ _ (T0.setTop (mkF m 6 #[.val (.ref r0), .val (.int (0 : Int32)), .val (.int (0 : Int32))] [(.ref r0), (.int (0 : Int32))]))
  refine own_len A0 hx hZ Vb rfl rfl (hb hby d26_6) ?_
  show own_Go _ _ _ _ (T0.setTop (mkF m 7 #[.val (.ref r0), .val (.int (0 : Int32)), .val (.int (0 : Int32))] [(.int (0 : Int32)), (.int (0 : Int32))]))
  have hc2 : (0 : Int32) = (0 : Int32) := (by decide)
  refine own_go (fun t_ k_ => XS.icmpYes A0.here hx rfl (pc0 := 7) (pc' := 17) rfl (hb hby d26_7) rfl (teq hc2).1 (by decide) (by decide) k_) ?_
  show own_Go _ _ _ _ (T0.setTop (mkF m 17 #[.val (.ref r0), .val (.int (0 : Int32)), .val (.int (0 : Int32))] []))
  refine own_go (fun t_ k_ => XS.aloadN A0.here hx rfl (hb hby d26_17) rfl rfl k_) ?_
  show own_Go _ _ _ _ (T0.setTop (mkF m 18 #[.val (.ref r0), .val (.int (0 : Int32)), .val (.int (0 : Int32))] [(.ref r0)]))
  refine own_cloneB A0 hx hZ hown (hw _ (List.mem_of_getElem? (i := 149) rfl)) (hw _ (List.mem_of_getElem? (i := 150) rfl)) (hw _ (List.mem_of_getElem? (i := 154) rfl)) (hw _ (List.mem_of_getElem? (i := 152) rfl)) (hw _ (List.mem_of_getElem? (i := 153) rfl)) (hw _ (List.mem_of_getElem? (i := 155) rfl)) Vb EB (fun j h0 h1 => absurd h1 h0) rfl (by rw [hml]; rfl) (rest := []) rfl (hb hby d26_18) (by decide) 0 (by show 2 * 0 + _ ≤ _; exact Nat.le_of_eq rfl) (by decide) 0 (by decide) (by decide) (by decide) (fun T3 h5 b6 ha_b6 A4 E7 V8 X9 => ?_)
  have ne_r0_b6 : r0 ≠ b6 := Nat.ne_of_lt (by rw [ha_b6]; exact Vb.lt)
  have g_b6 : n0 ≤ b6 := by rw [ha_b6]; exact Z0
  have nw_b6 : h0.size ≤ b6 := by rw [ha_b6]; exact (Keep.refl h0 []).1
  have Z10 : n0 ≤ h5.size := Nat.le_trans Z0 E7.1
  have K11 : Keep h0 h5 [] := (Keep.refl h0 []).ext E7
  have V12 : own_Arr Z h5 r0 .byte (0 : Int32) g := Vb.ext E7
  have E13 : Exa Z h5 r0 "[B" := EB.ext E7
  show own_Go _ _ _ _ (T3.setTop (mkF m 21 #[.val (.ref r0), .val (.int (0 : Int32)), .val (.int (0 : Int32))] [(.ref b6)]))
  refine own_cast A4 hx hZ hown (hw _ (List.mem_of_getElem? (i := 156) rfl)) (Ins.of_exa X9 (hw _ (List.mem_of_getElem? (i := 157) rfl))) rfl rfl (hb hby d26_21) (fun T14 A15 => ?_)
  show own_Go _ _ _ _ (T14.setTop (mkF m 24 #[.val (.ref r0), .val (.int (0 : Int32)), .val (.int (0 : Int32))] [(.ref b6)]))
  refine own_retA A15 hx hret rfl hlk (by decide) (by decide) rfl (hb hby d26_24) ?_
  exact ⟨K11, b6, rfl, g_b6, nw_b6, V8⟩
set_option maxRecDepth 65536 in
set_option maxHeartbeats 40000000 in
theorem rm24_0 (l : Launch) (Z : State) (a0 : Array Value) (hw : ∀ d ∈ tables_1, d.before a0 Z = true) (r0 : Addr) (r1 : Addr) (z_C : Int32) (v0 : Addr) (g : Int32 → Int32) (h0 : Heap) (n0 : Nat) (S_C0 : Sta Z h0 "java/lang/String" "COMPACT_STRINGS" "Z" (.int z_C)) (hz : ¬ z_C = 0) (Z0 : n0 ≤ h0.size) (E0 : Exa Z h0 r0 "java/lang/String") (Fv0 : Fld Z h0 r0 "java/lang/String" "value" "[B" .null) (Fc0 : Fld Z h0 r0 "java/lang/String" "coder" "B" (.int (0 : Int32))) (g0 : n0 ≤ r0) (Eb : Exa Z h0 r1 "java/lang/StringBuilder") (Fbv : Fld Z h0 r1 "java/lang/AbstractStringBuilder" "value" "[B" (.ref v0)) (Fbc : Fld Z h0 r1 "java/lang/AbstractStringBuilder" "coder" "B" (.int (0 : Int32))) (Fbn : Fld Z h0 r1 "java/lang/AbstractStringBuilder" "count" "I" (.int (0 : Int32))) (Fbm : Fld Z h0 r1 "java/lang/AbstractStringBuilder" "maybeLatin1" "Z" (.int (0 : Int32))) (Vb : own_Arr Z h0 v0 .byte (0 : Int32) g) (EB : Exa Z h0 v0 "[B") (ne_r0_r1 : r0 ≠ r1) (ne_r0_v0 : r0 ≠ v0) :
    own_Met l Z n0 (⟨"java/lang/String", "<init>", "(Ljava/lang/AbstractStringBuilder;Ljava/lang/Void;)V"⟩ : MethodName) jdk_42_method_150_code 5 none ({ frames := 2, cells := 1, slots := 0, locals := 29 } : Room) #[(.ref r0), (.ref r1), .null] h0 (fun v h => v = none ∧ Keep h0 h [r0] ∧ Fld Z h r0 "java/lang/String" "coder" "B" (.int (0 : Int32)) ∧ ∃ t, n0 ≤ t ∧ h0.size ≤ t ∧ Fld Z h r0 "java/lang/String" "value" "[B" (.ref t) ∧ own_Arr Z h t .byte (0 : Int32) g) := by
  refine own_met (plainFor_of_name pn_6) ?_
  intro p e s m below meth c T0 hx hby hml hown hnm hret hlk hZ A0
  rw [ef_24]
  show own_Go _ _ _ _ (T0.setTop (mkF m 0 #[.val (.ref r0), .val (.ref r1), .val .null, .unset, .unset] []))
  refine own_go (fun t_ k_ => XS.aloadN A0.here hx rfl (hb hby d24_0) rfl rfl k_) ?_
  show own_Go _ _ _ _ (T0.setTop (mkF m 1 #[.val (.ref r0), .val (.ref r1), .val .null, .unset, .unset] [(.ref r0)]))
  refine own_initO A0 hx hZ hown (hw _ (List.mem_of_getElem? (i := 136) rfl)) (hw _ (List.mem_of_getElem? (i := 25) rfl)) (hw _ (List.mem_of_getElem? (i := 26) rfl)) rfl (by rw [hml]; rfl) rfl (hb hby d24_1) (by decide) 0 (by show 2 * 0 + _ ≤ _; exact Nat.le_of_eq rfl) (by decide) (fun T1 A2 => ?_)
  show own_Go _ _ _ _ (T1.setTop (mkF m 4 #[.val (.ref r0), .val (.ref r1), .val .null, .unset, .unset] []))
  refine own_go (fun t_ k_ => XS.aloadN A2.here hx rfl (hb hby d24_4) rfl rfl k_) ?_
  show own_Go _ _ _ _ (T1.setTop (mkF m 5 #[.val (.ref r0), .val (.ref r1), .val .null, .unset, .unset] [(.ref r1)]))
  refine own_callV A2 hx hZ (y := (⟨"java/lang/AbstractStringBuilder", "getValue", "()[B"⟩ : MethodName)) (z := (⟨"java/lang/AbstractStringBuilder", "getValue", "()[B"⟩ : MethodName)) hown (hw _ (List.mem_of_getElem? (i := 137) rfl)) (hw _ (List.mem_of_getElem? (i := 138) rfl)) (hw _ (List.mem_of_getElem? (i := 140) rfl)) (hw _ (List.mem_of_getElem? (i := 139) rfl)) (hw _ (List.mem_of_getElem? (i := 22) rfl)) (hw _ (List.mem_of_getElem? (i := 141) rfl)) (notFace_of_selects (args := #[]) (mvT hZ (hw _ (List.mem_of_getElem? (i := 140) rfl)))) (by decide) (b := r1) (argsL := []) (rest := []) Eb (rm25 l Z a0 hw r1 v0 h0 n0 Fbv) 0 (by decide) (by decide) rfl (by rw [hml]; rfl) (lenOf pd____B rfl) rfl (by show 2 * 0 + _ ≤ _; exact Nat.le_of_eq rfl) (hb hby d24_5) (by decide) (by decide) (fun v6 T3 h5 A4 hQ7 => ?_)
  obtain ⟨rfl, rfl⟩ := hQ7
  show own_Go _ _ _ _ (T3.setTop (mkF m 8 #[.val (.ref r0), .val (.ref r1), .val .null, .unset, .unset] [(.ref v0)]))
  refine own_go (fun t_ k_ => XS.astoreN A4.here hx rfl (hb hby d24_8) rfl rfl (l' := #[.val (.ref r0), .val (.ref r1), .val .null, .val (.ref v0), .unset]) rfl k_) ?_
  show own_Go _ _ _ _ (T3.setTop (mkF m 9 #[.val (.ref r0), .val (.ref r1), .val .null, .val (.ref v0), .unset] []))
  refine own_go (fun t_ k_ => XS.aloadN A4.here hx rfl (hb hby d24_9) rfl rfl k_) ?_
  show own_Go _ _ _ _ (T3.setTop (mkF m 10 #[.val (.ref r0), .val (.ref r1), .val .null, .val (.ref v0), .unset] [(.ref r1)]))
  refine own_callV A4 hx hZ (y := (⟨"java/lang/AbstractStringBuilder", "length", "()I"⟩ : MethodName)) (z := (⟨"java/lang/StringBuilder", "length", "()I"⟩ : MethodName)) hown (hw _ (List.mem_of_getElem? (i := 142) rfl)) (hw _ (List.mem_of_getElem? (i := 114) rfl)) (hw _ (List.mem_of_getElem? (i := 143) rfl)) (hw _ (List.mem_of_getElem? (i := 109) rfl)) (hw _ (List.mem_of_getElem? (i := 6) rfl)) (hw _ (List.mem_of_getElem? (i := 111) rfl)) (own_notFace (args := #[]) (mvT hZ (hw _ (List.mem_of_getElem? (i := 65) rfl))) rfl) (by decide) (b := r1) (argsL := []) (rest := []) Eb (rm18 l Z a0 hw r1 (0 : Int32) h0 n0 Eb Fbn) 0 (by decide) (by decide) rfl (by rw [hml]; rfl) (lenOf pd___I rfl) rfl (by show 2 * 0 + _ ≤ _; exact Nat.le_of_eq rfl) (hb hby d24_10) (by decide) (by decide) (fun v11 T8 h10 A9 hQ12 => ?_)
  obtain ⟨rfl, rfl⟩ := hQ12
  show own_Go _ _ _ _ (T8.setTop (mkF m 13 #[.val (.ref r0), .val (.ref r1), .val .null, .val (.ref v0), .unset] [(.int (0 : Int32))]))
  refine own_go (fun t_ k_ => XS.istore A9.here hx rfl (hb hby d24_13) rfl (l' := #[.val (.ref r0), .val (.ref r1), .val .null, .val (.ref v0), .val (.int (0 : Int32))]) rfl k_) ?_
  show own_Go _ _ _ _ (T8.setTop (mkF m 15 #[.val (.ref r0), .val (.ref r1), .val .null, .val (.ref v0), .val (.int (0 : Int32))] []))
  refine own_go (fun t_ k_ => XS.aloadN A9.here hx rfl (hb hby d24_15) rfl rfl k_) ?_
  show own_Go _ _ _ _ (T8.setTop (mkF m 16 #[.val (.ref r0), .val (.ref r1), .val .null, .val (.ref v0), .val (.int (0 : Int32))] [(.ref r1)]))
  refine own_callV A9 hx hZ (y := (⟨"java/lang/AbstractStringBuilder", "isLatin1", "()Z"⟩ : MethodName)) (z := (⟨"java/lang/AbstractStringBuilder", "isLatin1", "()Z"⟩ : MethodName)) hown (hw _ (List.mem_of_getElem? (i := 144) rfl)) (hw _ (List.mem_of_getElem? (i := 99) rfl)) (hw _ (List.mem_of_getElem? (i := 101) rfl)) (hw _ (List.mem_of_getElem? (i := 100) rfl)) (hw _ (List.mem_of_getElem? (i := 22) rfl)) (hw _ (List.mem_of_getElem? (i := 102) rfl)) (notFace_of_selects (args := #[]) (mvT hZ (hw _ (List.mem_of_getElem? (i := 101) rfl)))) (by decide) (b := r1) (argsL := []) (rest := []) Eb (rm16 l Z a0 hw r1 z_C h0 n0 S_C0 hz Fbc) 0 (by decide) (by decide) rfl (by rw [hml]; rfl) (lenOf pd___Z rfl) rfl (by show 2 * 0 + _ ≤ _; exact Nat.le_of_eq rfl) (hb hby d24_16) (by decide) (by decide) (fun v16 T13 h15 A14 hQ17 => ?_)
  obtain ⟨rfl, rfl⟩ := hQ17
  show own_Go _ _ _ _ (T13.setTop (mkF m 19 #[.val (.ref r0), .val (.ref r1), .val .null, .val (.ref v0), .val (.int (0 : Int32))] [(.int (1 : Int32))]))
  have hc18 : ¬ ((1 : Int32) = (0 : Int32)) := (by decide)
  refine own_go (fun t_ k_ => XS.ifNo A14.here hx rfl (hb hby d24_19) rfl ((if0 _ _).trans (feq hc18).1) k_) ?_
  show own_Go _ _ _ _ (T13.setTop (mkF m 22 #[.val (.ref r0), .val (.ref r1), .val .null, .val (.ref v0), .val (.int (0 : Int32))] []))
  refine own_go (fun t_ k_ => XS.aloadN A14.here hx rfl (hb hby d24_22) rfl rfl k_) ?_
  show own_Go _ _ _ _ (T13.setTop (mkF m 23 #[.val (.ref r0), .val (.ref r1), .val .null, .val (.ref v0), .val (.int (0 : Int32))] [(.ref r0)]))
  refine own_go (fun t_ k_ => XS.iconst A14.here hx rfl (hb hby d24_23) k_) ?_
  show own_Go _ _ _ _ (T13.setTop (mkF m 24 #[.val (.ref r0), .val (.ref r1), .val .null, .val (.ref v0), .val (.int (0 : Int32))] [(.int (0 : Int32)), (.ref r0)]))
  refine own_putF A14 hx hZ hown (host := "") (Or.inl (hw _ (List.mem_of_getElem? (i := 39) rfl))) Via.refl Fc0 E0 (Or.inr ⟨(hw _ (List.mem_of_getElem? (i := 12) rfl)), rfl, hnm⟩) (hw _ (List.mem_of_getElem? (i := 9) rfl)) (ty := .byte) (by decide) rfl rfl g0 rfl rfl (hb hby d24_24) (fun T19 h21 A20 W22 => ?_)
  have Z23 : n0 ≤ h21.size := Nat.le_trans Z0 (Nat.le_of_eq (Wr.size W22).symm)
  have E24 : Exa Z h21 r0 "java/lang/String" := E0.wr W22
  have F25 : Fld Z h21 r0 "java/lang/String" "value" "[B" .null := Fv0.other W22 (Or.inr (slot_ne (Or.inr (hw _ (List.mem_of_getElem? (i := 11) rfl))) (Or.inr (hw _ (List.mem_of_getElem? (i := 12) rfl))) (by decide) (t := (.array .byte)) (t' := .byte) (by decide) (by decide)))
  have F26 : Fld Z h21 r0 "java/lang/String" "coder" "B" (.int (0 : Int32)) := Fc0.same W22
  have K27 : Keep h0 h21 [r0] := (Keep.refl h0 [r0]).wr W22 (Or.inl (List.mem_of_getElem? (i := 0) rfl))
  have E28 : Exa Z h21 r1 "java/lang/StringBuilder" := Eb.wr W22
  have F29 : Fld Z h21 r1 "java/lang/AbstractStringBuilder" "value" "[B" (.ref v0) := Fbv.other W22 (Or.inl (Ne.symm ne_r0_r1))
  have F30 : Fld Z h21 r1 "java/lang/AbstractStringBuilder" "coder" "B" (.int (0 : Int32)) := Fbc.other W22 (Or.inl (Ne.symm ne_r0_r1))
  have F31 : Fld Z h21 r1 "java/lang/AbstractStringBuilder" "count" "I" (.int (0 : Int32)) := Fbn.other W22 (Or.inl (Ne.symm ne_r0_r1))
  have F32 : Fld Z h21 r1 "java/lang/AbstractStringBuilder" "maybeLatin1" "Z" (.int (0 : Int32)) := Fbm.other W22 (Or.inl (Ne.symm ne_r0_r1))
  have V33 : own_Arr Z h21 v0 .byte (0 : Int32) g := Vb.other W22 (Ne.symm ne_r0_v0)
  have E34 : Exa Z h21 v0 "[B" := EB.wr W22
  show own_Go _ _ _ _ (T19.setTop (mkF m 27 #[.val (.ref r0), .val (.ref r1), .val .null, .val (.ref v0), .val (.int (0 : Int32))] []))
  refine own_go (fun t_ k_ => XS.aloadN A20.here hx rfl (hb hby d24_27) rfl rfl k_) ?_
  show own_Go _ _ _ _ (T19.setTop (mkF m 28 #[.val (.ref r0), .val (.ref r1), .val .null, .val (.ref v0), .val (.int (0 : Int32))] [(.ref r0)]))
  refine own_go (fun t_ k_ => XS.aloadN A20.here hx rfl (hb hby d24_28) rfl rfl k_) ?_
  show own_Go _ _ _ _ (T19.setTop (mkF m 29 #[.val (.ref r0), .val (.ref r1), .val .null, .val (.ref v0), .val (.int (0 : Int32))] [(.ref v0), (.ref r0)]))
  refine own_go (fun t_ k_ => XS.iconst A20.here hx rfl (hb hby d24_29) k_) ?_
  show own_Go _ _ _ _ (T19.setTop (mkF m 30 #[.val (.ref r0), .val (.ref r1), .val .null, .val (.ref v0), .val (.int (0 : Int32))] [(.int (0 : Int32)), (.ref v0), (.ref r0)]))
  refine own_go (fun t_ k_ => XS.iload A20.here hx rfl (hb hby d24_30) rfl k_) ?_
  show own_Go _ _ _ _ (T19.setTop (mkF m 32 #[.val (.ref r0), .val (.ref r1), .val .null, .val (.ref v0), .val (.int (0 : Int32))] [(.int (0 : Int32)), (.int (0 : Int32)), (.ref v0), (.ref r0)]))
  refine own_callS A20 hx hZ hown (y := (⟨"java/util/Arrays", "copyOfRange", "([BII)[B"⟩ : MethodName)) (hw _ (List.mem_of_getElem? (i := 145) rfl)) (hw _ (List.mem_of_getElem? (i := 146) rfl)) (hw _ (List.mem_of_getElem? (i := 147) rfl)) (hw _ (List.mem_of_getElem? (i := 148) rfl)) (by decide) (argsL := [(.ref v0), (.int (0 : Int32)), (.int (0 : Int32))]) (rest := [(.ref r0)]) (rm26_0 l Z a0 hw v0 g h21 n0 Z23 V33 E34) 1 (by decide) (by decide) rfl (by rw [hml]; rfl) (lenOf pd___BII__B rfl) rfl (by show 2 * 0 + _ ≤ _; exact Nat.le_of_eq rfl) (hb hby d24_32) (by decide) (by decide) (fun v38 T35 h37 A36 hQ39 => ?_)
  obtain ⟨K40, t41, rfl, gt42, nt43, V44⟩ := hQ39
  have ne_r0_t41 : r0 ≠ t41 := Nat.ne_of_lt (Nat.lt_of_lt_of_le E24.lt nt43)
  have ne_r1_t41 : r1 ≠ t41 := Nat.ne_of_lt (Nat.lt_of_lt_of_le E28.lt nt43)
  have ne_v0_t41 : v0 ≠ t41 := Nat.ne_of_lt (Nat.lt_of_lt_of_le V33.lt nt43)
  have nw_t41 : h0.size ≤ t41 := Nat.le_trans K27.1 nt43
  have Z45 : n0 ≤ h37.size := Nat.le_trans Z23 K40.1
  have E46 : Exa Z h37 r0 "java/lang/String" := E24.keep K40
  have F47 : Fld Z h37 r0 "java/lang/String" "value" "[B" .null := F25.keep K40 nin0
  have F48 : Fld Z h37 r0 "java/lang/String" "coder" "B" (.int (0 : Int32)) := F26.keep K40 nin0
  have K49 : Keep h0 h37 [r0] := K27.trans K40 all0
  have E50 : Exa Z h37 r1 "java/lang/StringBuilder" := E28.keep K40
  have F51 : Fld Z h37 r1 "java/lang/AbstractStringBuilder" "value" "[B" (.ref v0) := F29.keep K40 nin0
  have F52 : Fld Z h37 r1 "java/lang/AbstractStringBuilder" "coder" "B" (.int (0 : Int32)) := F30.keep K40 nin0
  have F53 : Fld Z h37 r1 "java/lang/AbstractStringBuilder" "count" "I" (.int (0 : Int32)) := F31.keep K40 nin0
  have F54 : Fld Z h37 r1 "java/lang/AbstractStringBuilder" "maybeLatin1" "Z" (.int (0 : Int32)) := F32.keep K40 nin0
  have V55 : own_Arr Z h37 v0 .byte (0 : Int32) g := V33.keep K40 nin0
  have E56 : Exa Z h37 v0 "[B" := E34.keep K40
  show own_Go _ _ _ _ (T35.setTop (mkF m 35 #[.val (.ref r0), .val (.ref r1), .val .null, .val (.ref v0), .val (.int (0 : Int32))] [(.ref t41), (.ref r0)]))
  refine own_putF A36 hx hZ hown (host := "") (Or.inl (hw _ (List.mem_of_getElem? (i := 32) rfl))) Via.refl F47 E46 (Or.inr ⟨(hw _ (List.mem_of_getElem? (i := 11) rfl)), rfl, hnm⟩) (hw _ (List.mem_of_getElem? (i := 9) rfl)) (ty := (.array .byte)) (by decide) rfl rfl g0 rfl rfl (hb hby d24_35) (fun T57 h59 A58 W60 => ?_)
  have Z61 : n0 ≤ h59.size := Nat.le_trans Z45 (Nat.le_of_eq (Wr.size W60).symm)
  have E62 : Exa Z h59 r0 "java/lang/String" := E46.wr W60
  have F63 : Fld Z h59 r0 "java/lang/String" "value" "[B" (.ref t41) := F47.same W60
  have F64 : Fld Z h59 r0 "java/lang/String" "coder" "B" (.int (0 : Int32)) := F48.other W60 (Or.inr (slot_ne (Or.inr (hw _ (List.mem_of_getElem? (i := 12) rfl))) (Or.inr (hw _ (List.mem_of_getElem? (i := 11) rfl))) (by decide) (t := .byte) (t' := (.array .byte)) (by decide) (by decide)))
  have K65 : Keep h0 h59 [r0] := K49.wr W60 (Or.inl (List.mem_of_getElem? (i := 0) rfl))
  have E66 : Exa Z h59 r1 "java/lang/StringBuilder" := E50.wr W60
  have F67 : Fld Z h59 r1 "java/lang/AbstractStringBuilder" "value" "[B" (.ref v0) := F51.other W60 (Or.inl (Ne.symm ne_r0_r1))
  have F68 : Fld Z h59 r1 "java/lang/AbstractStringBuilder" "coder" "B" (.int (0 : Int32)) := F52.other W60 (Or.inl (Ne.symm ne_r0_r1))
  have F69 : Fld Z h59 r1 "java/lang/AbstractStringBuilder" "count" "I" (.int (0 : Int32)) := F53.other W60 (Or.inl (Ne.symm ne_r0_r1))
  have F70 : Fld Z h59 r1 "java/lang/AbstractStringBuilder" "maybeLatin1" "Z" (.int (0 : Int32)) := F54.other W60 (Or.inl (Ne.symm ne_r0_r1))
  have V71 : own_Arr Z h59 v0 .byte (0 : Int32) g := V55.other W60 (Ne.symm ne_r0_v0)
  have E72 : Exa Z h59 v0 "[B" := E56.wr W60
  have V73 : own_Arr Z h59 t41 .byte (0 : Int32) g := V44.other W60 (Ne.symm ne_r0_t41)
  show own_Go _ _ _ _ (T57.setTop (mkF m 38 #[.val (.ref r0), .val (.ref r1), .val .null, .val (.ref v0), .val (.int (0 : Int32))] []))
  refine own_go (fun t_ k_ => XS.goto A58.here hx rfl (pc0 := 38) (pc' := 97) rfl (hb hby d24_38) (by decide) (by decide) k_) ?_
  show own_Go _ _ _ _ (T57.setTop (mkF m 97 #[.val (.ref r0), .val (.ref r1), .val .null, .val (.ref v0), .val (.int (0 : Int32))] []))
  refine own_retV A58 hx hret hlk (by decide) (by decide) (hb hby d24_97) ?_
  exact ⟨rfl, K65, F64, t41, gt42, nw_t41, F63, V73⟩
set_option maxRecDepth 65536 in
set_option maxHeartbeats 40000000 in
theorem rm23_0 (l : Launch) (Z : State) (a0 : Array Value) (hw : ∀ d ∈ tables_1, d.before a0 Z = true) (r0 : Addr) (r1 : Addr) (z_C : Int32) (v0 : Addr) (g : Int32 → Int32) (h0 : Heap) (n0 : Nat) (S_C0 : Sta Z h0 "java/lang/String" "COMPACT_STRINGS" "Z" (.int z_C)) (hz : ¬ z_C = 0) (Z0 : n0 ≤ h0.size) (E0 : Exa Z h0 r0 "java/lang/String") (Fv0 : Fld Z h0 r0 "java/lang/String" "value" "[B" .null) (Fc0 : Fld Z h0 r0 "java/lang/String" "coder" "B" (.int (0 : Int32))) (g0 : n0 ≤ r0) (Eb : Exa Z h0 r1 "java/lang/StringBuilder") (Fbv : Fld Z h0 r1 "java/lang/AbstractStringBuilder" "value" "[B" (.ref v0)) (Fbc : Fld Z h0 r1 "java/lang/AbstractStringBuilder" "coder" "B" (.int (0 : Int32))) (Fbn : Fld Z h0 r1 "java/lang/AbstractStringBuilder" "count" "I" (.int (0 : Int32))) (Fbm : Fld Z h0 r1 "java/lang/AbstractStringBuilder" "maybeLatin1" "Z" (.int (0 : Int32))) (Vb : own_Arr Z h0 v0 .byte (0 : Int32) g) (EB : Exa Z h0 v0 "[B") (ne_r0_r1 : r0 ≠ r1) (ne_r0_v0 : r0 ≠ v0) :
    own_Met l Z n0 (⟨"java/lang/String", "<init>", "(Ljava/lang/StringBuilder;)V"⟩ : MethodName) jdk_42_method_53_code 2 none ({ frames := 3, cells := 1, slots := 0, locals := 45 } : Room) #[(.ref r0), (.ref r1)] h0 (fun v h => v = none ∧ Keep h0 h [r0] ∧ Fld Z h r0 "java/lang/String" "coder" "B" (.int (0 : Int32)) ∧ ∃ t, n0 ≤ t ∧ h0.size ≤ t ∧ Fld Z h r0 "java/lang/String" "value" "[B" (.ref t) ∧ own_Arr Z h t .byte (0 : Int32) g) := by
  refine own_met (plainFor_of_name pn_6) ?_
  intro p e s m below meth c T0 hx hby hml hown hnm hret hlk hZ A0
  rw [ef_23]
  show own_Go _ _ _ _ (T0.setTop (mkF m 0 #[.val (.ref r0), .val (.ref r1)] []))
  refine own_go (fun t_ k_ => XS.aloadN A0.here hx rfl (hb hby d23_0) rfl rfl k_) ?_
  show own_Go _ _ _ _ (T0.setTop (mkF m 1 #[.val (.ref r0), .val (.ref r1)] [(.ref r0)]))
  refine own_go (fun t_ k_ => XS.aloadN A0.here hx rfl (hb hby d23_1) rfl rfl k_) ?_
  show own_Go _ _ _ _ (T0.setTop (mkF m 2 #[.val (.ref r0), .val (.ref r1)] [(.ref r1), (.ref r0)]))
  refine own_go (fun t_ k_ => XS.aconstNull A0.here hx rfl (hb hby d23_2) k_) ?_
  show own_Go _ _ _ _ (T0.setTop (mkF m 3 #[.val (.ref r0), .val (.ref r1)] [.null, (.ref r1), (.ref r0)]))
  refine own_callI A0 hx hZ (y := (⟨"java/lang/String", "<init>", "(Ljava/lang/AbstractStringBuilder;Ljava/lang/Void;)V"⟩ : MethodName)) rfl hown (hw _ (List.mem_of_getElem? (i := 133) rfl)) (hw _ (List.mem_of_getElem? (i := 134) rfl)) (hw _ (List.mem_of_getElem? (i := 8) rfl)) (hw _ (List.mem_of_getElem? (i := 135) rfl)) (by decide) (b := r0) (argsL := [(.ref r1), .null]) (rest := []) (rm24_0 l Z a0 hw r0 r1 z_C v0 g h0 n0 S_C0 hz Z0 E0 Fv0 Fc0 g0 Eb Fbv Fbc Fbn Fbm Vb EB ne_r0_r1 ne_r0_v0) 0 (by decide) (by decide) rfl (by rw [hml]; rfl) (lenOf pd__Ljava_lang_AbstractStringBuilder_Ljava_lang_Void__V rfl) rfl (by show 2 * 0 + _ ≤ _; exact Nat.le_of_eq rfl) (hb hby d23_3) (by decide) (by decide) (fun v4 T1 h3 A2 hQ5 => ?_)
  obtain ⟨rfl, K6, F7, t8, gt9, nt10, F11, V12⟩ := hQ5
  have ne_r0_t8 : r0 ≠ t8 := Nat.ne_of_lt (Nat.lt_of_lt_of_le E0.lt nt10)
  have ne_r1_t8 : r1 ≠ t8 := Nat.ne_of_lt (Nat.lt_of_lt_of_le Eb.lt nt10)
  have ne_v0_t8 : v0 ≠ t8 := Nat.ne_of_lt (Nat.lt_of_lt_of_le Vb.lt nt10)
  have nw_t8 : h0.size ≤ t8 := Nat.le_trans (Keep.refl h0 [r0]).1 nt10
  have Z13 : n0 ≤ h3.size := Nat.le_trans Z0 K6.1
  have E14 : Exa Z h3 r0 "java/lang/String" := E0.keep K6
  have K15 : Keep h0 h3 [r0] := (Keep.refl h0 [r0]).trans K6 (allS (Or.inl (List.mem_of_getElem? (i := 0) rfl)) all0)
  have E16 : Exa Z h3 r1 "java/lang/StringBuilder" := Eb.keep K6
  have F17 : Fld Z h3 r1 "java/lang/AbstractStringBuilder" "value" "[B" (.ref v0) := Fbv.keep K6 (ninS (Ne.symm ne_r0_r1) nin0)
  have F18 : Fld Z h3 r1 "java/lang/AbstractStringBuilder" "coder" "B" (.int (0 : Int32)) := Fbc.keep K6 (ninS (Ne.symm ne_r0_r1) nin0)
  have F19 : Fld Z h3 r1 "java/lang/AbstractStringBuilder" "count" "I" (.int (0 : Int32)) := Fbn.keep K6 (ninS (Ne.symm ne_r0_r1) nin0)
  have F20 : Fld Z h3 r1 "java/lang/AbstractStringBuilder" "maybeLatin1" "Z" (.int (0 : Int32)) := Fbm.keep K6 (ninS (Ne.symm ne_r0_r1) nin0)
  have V21 : own_Arr Z h3 v0 .byte (0 : Int32) g := Vb.keep K6 (ninS (Ne.symm ne_r0_v0) nin0)
  have E22 : Exa Z h3 v0 "[B" := EB.keep K6
  show own_Go _ _ _ _ (T1.setTop (mkF m 6 #[.val (.ref r0), .val (.ref r1)] []))
  refine own_retV A2 hx hret hlk (by decide) (by decide) (hb hby d23_6) ?_
  exact ⟨rfl, K15, F7, t8, gt9, nw_t8, F11, V12⟩
set_option maxRecDepth 65536 in
set_option maxHeartbeats 40000000 in
theorem rm22_0 (l : Launch) (Z : State) (a0 : Array Value) (hw : ∀ d ∈ tables_1, d.before a0 Z = true) (r0 : Addr) (z_C : Int32) (v0 : Addr) (g : Int32 → Int32) (h0 : Heap) (n0 : Nat) (O0 : Old Z n0 h0) (hz : ¬ z_C = 0) (S_COMPACT_STRINGS : Sta Z Z.heap "java/lang/String" "COMPACT_STRINGS" "Z" (.int z_C)) (Z0 : n0 ≤ h0.size) (Eb : Exa Z h0 r0 "java/lang/StringBuilder") (Fbv : Fld Z h0 r0 "java/lang/AbstractStringBuilder" "value" "[B" (.ref v0)) (Fbc : Fld Z h0 r0 "java/lang/AbstractStringBuilder" "coder" "B" (.int (0 : Int32))) (Fbn : Fld Z h0 r0 "java/lang/AbstractStringBuilder" "count" "I" (.int (0 : Int32))) (Fbm : Fld Z h0 r0 "java/lang/AbstractStringBuilder" "maybeLatin1" "Z" (.int (0 : Int32))) (Vb : own_Arr Z h0 v0 .byte (0 : Int32) g) (EB : Exa Z h0 v0 "[B") :
    own_Met l Z n0 (⟨"java/lang/StringBuilder", "toString", "()Ljava/lang/String;"⟩ : MethodName) jdk_67_method_42_code 1 (some (.object "java/lang/String")) ({ frames := 4, cells := 2, slots := 4, locals := 59 } : Room) #[(.ref r0)] h0 (fun v h => Keep h0 h [] ∧ ∃ x t, v = some (.ref x) ∧ n0 ≤ x ∧ h0.size ≤ x ∧ Exa Z h x "java/lang/String" ∧ Fld Z h x "java/lang/String" "coder" "B" (.int (0 : Int32)) ∧ Fld Z h x "java/lang/String" "value" "[B" (.ref t) ∧ own_Arr Z h t .byte (0 : Int32) g) := by
  refine own_met (plainFor_of_name pn_8) ?_
  intro p e s m below meth c T0 hx hby hml hown hnm hret hlk hZ A0
  rw [ef_22]
  show own_Go _ _ _ _ (T0.setTop (mkF m 0 #[.val (.ref r0)] []))
  refine own_newO A0 hx hZ hown (hw _ (List.mem_of_getElem? (i := 128) rfl)) (hw _ (List.mem_of_getElem? (i := 9) rfl)) (hw _ (List.mem_of_getElem? (i := 8) rfl)) rfl (hb hby d22_0) (by decide) (by decide) (fun T1 h3 b4 ha_b4 A2 E5 X6 D7 => ?_)
  have ne_r0_b4 : r0 ≠ b4 := Nat.ne_of_lt (by rw [ha_b4]; exact Eb.lt)
  have ne_v0_b4 : v0 ≠ b4 := Nat.ne_of_lt (by rw [ha_b4]; exact Vb.lt)
  have g_b4 : n0 ≤ b4 := by rw [ha_b4]; exact Z0
  have nw_b4 : h0.size ≤ b4 := by rw [ha_b4]; exact (Keep.refl h0 []).1
  have O9 : Old Z n0 h3 := O0.ext E5
  have Z10 : n0 ≤ h3.size := Nat.le_trans Z0 E5.1
  have K11 : Keep h0 h3 [] := (Keep.refl h0 []).ext E5
  have E12 : Exa Z h3 r0 "java/lang/StringBuilder" := Eb.ext E5
  have F13 : Fld Z h3 r0 "java/lang/AbstractStringBuilder" "value" "[B" (.ref v0) := Fbv.ext E5
  have F14 : Fld Z h3 r0 "java/lang/AbstractStringBuilder" "coder" "B" (.int (0 : Int32)) := Fbc.ext E5
  have F15 : Fld Z h3 r0 "java/lang/AbstractStringBuilder" "count" "I" (.int (0 : Int32)) := Fbn.ext E5
  have F16 : Fld Z h3 r0 "java/lang/AbstractStringBuilder" "maybeLatin1" "Z" (.int (0 : Int32)) := Fbm.ext E5
  have V17 : own_Arr Z h3 v0 .byte (0 : Int32) g := Vb.ext E5
  have E18 : Exa Z h3 v0 "[B" := EB.ext E5
  have F19 : Fld Z h3 b4 "java/lang/String" "value" "[B" .null := D7 (Or.inr (hw _ (List.mem_of_getElem? (i := 11) rfl))) (ty := (.array .byte)) (by decide)
  have F20 : Fld Z h3 b4 "java/lang/String" "coder" "B" (.int (0 : Int32)) := D7 (Or.inr (hw _ (List.mem_of_getElem? (i := 12) rfl))) (ty := .byte) (by decide)
  show own_Go _ _ _ _ (T1.setTop (mkF m 3 #[.val (.ref r0)] [(.ref b4)]))
  refine own_go (fun t_ k_ => XS.dup A2.here hx rfl (hb hby d22_3) rfl rfl k_) ?_
  show own_Go _ _ _ _ (T1.setTop (mkF m 4 #[.val (.ref r0)] [(.ref b4), (.ref b4)]))
  refine own_go (fun t_ k_ => XS.aloadN A2.here hx rfl (hb hby d22_4) rfl rfl k_) ?_
  show own_Go _ _ _ _ (T1.setTop (mkF m 5 #[.val (.ref r0)] [(.ref r0), (.ref b4), (.ref b4)]))
  refine own_callI A2 hx hZ (y := (⟨"java/lang/String", "<init>", "(Ljava/lang/StringBuilder;)V"⟩ : MethodName)) rfl hown (hw _ (List.mem_of_getElem? (i := 129) rfl)) (hw _ (List.mem_of_getElem? (i := 130) rfl)) (hw _ (List.mem_of_getElem? (i := 8) rfl)) (hw _ (List.mem_of_getElem? (i := 132) rfl)) (by decide) (b := b4) (argsL := [(.ref r0)]) (rest := [(.ref b4)]) (rm23_0 l Z a0 hw b4 r0 z_C v0 g h3 n0 (S_COMPACT_STRINGS.ext O9.2) hz Z10 X6 F19 F20 g_b4 E12 F13 F14 F15 F16 V17 E18 (Ne.symm ne_r0_b4) (Ne.symm ne_v0_b4)) 1 (by decide) (by decide) rfl (by rw [hml]; rfl) (lenOf pd__Ljava_lang_StringBuilder__V rfl) rfl (by show 2 * 0 + _ ≤ _; exact Nat.le_of_eq rfl) (hb hby d22_5) (by decide) (by decide) (fun v24 T21 h23 A22 hQ25 => ?_)
  obtain ⟨rfl, K26, F27, t28, gt29, nt30, F31, V32⟩ := hQ25
  have ne_r0_t28 : r0 ≠ t28 := Nat.ne_of_lt (Nat.lt_of_lt_of_le E12.lt nt30)
  have ne_v0_t28 : v0 ≠ t28 := Nat.ne_of_lt (Nat.lt_of_lt_of_le V17.lt nt30)
  have ne_b4_t28 : b4 ≠ t28 := Nat.ne_of_lt (Nat.lt_of_lt_of_le X6.lt nt30)
  have nw_t28 : h0.size ≤ t28 := Nat.le_trans K11.1 nt30
  have O33 : Old Z n0 h23 := O9.keep K26 (allS g_b4 all0)
  have Z34 : n0 ≤ h23.size := Nat.le_trans Z10 K26.1
  have K35 : Keep h0 h23 [] := K11.trans K26 (allS (Or.inr nw_b4) all0)
  have E36 : Exa Z h23 r0 "java/lang/StringBuilder" := E12.keep K26
  have F37 : Fld Z h23 r0 "java/lang/AbstractStringBuilder" "value" "[B" (.ref v0) := F13.keep K26 (ninS ne_r0_b4 nin0)
  have F38 : Fld Z h23 r0 "java/lang/AbstractStringBuilder" "coder" "B" (.int (0 : Int32)) := F14.keep K26 (ninS ne_r0_b4 nin0)
  have F39 : Fld Z h23 r0 "java/lang/AbstractStringBuilder" "count" "I" (.int (0 : Int32)) := F15.keep K26 (ninS ne_r0_b4 nin0)
  have F40 : Fld Z h23 r0 "java/lang/AbstractStringBuilder" "maybeLatin1" "Z" (.int (0 : Int32)) := F16.keep K26 (ninS ne_r0_b4 nin0)
  have V41 : own_Arr Z h23 v0 .byte (0 : Int32) g := V17.keep K26 (ninS ne_v0_b4 nin0)
  have E42 : Exa Z h23 v0 "[B" := E18.keep K26
  have E43 : Exa Z h23 b4 "java/lang/String" := X6.keep K26
  show own_Go _ _ _ _ (T21.setTop (mkF m 8 #[.val (.ref r0)] [(.ref b4)]))
  refine own_retA A22 hx hret rfl hlk (by decide) (by decide) rfl (hb hby d22_8) ?_
  exact ⟨K35, b4, t28, rfl, g_b4, nw_b4, E43, F27, F31, V32⟩
theorem own_pre0 {f : Int32 → Int32} : own_Pre f [] := fun k hk => absurd hk (Nat.not_lt_zero _)
theorem own_preS (xs : List Int32) (hb : xs.length < 2 ^ 31) : own_Pre (fun j => xs.getD j.toNatClampNeg 0) xs := fun k hk => by
  show xs.getD (Int32.ofNat k).toNatClampNeg 0 = _
  rw [own_toN (by omega)]
theorem own_bytS (xs : List Int32) (hb : xs.length < 2 ^ 31) (h : ∀ x ∈ xs, fits .byte (.int x) = true) : own_Byt (fun j => xs.getD j.toNatClampNeg 0) xs.length := fun k hk => by
  show fits .byte (.int (xs.getD (Int32.ofNat k).toNatClampNeg 0)) = true
  rw [own_toN (by omega), List.getD_eq_getElem?_getD, List.getElem?_eq_getElem hk]
  exact h _ (List.getElem_mem hk)
theorem own_Pre.wide {f g : Int32 → Int32} {xs : List Int32} {n : Nat} (hp : own_Pre f xs) (hn : xs.length ≤ n) (hb : n < 2 ^ 31) : own_Pre (own_cpf f 0 0 n g) xs := fun k hk => by
  unfold own_cpf
  rw [own_toN (by omega), if_pos ⟨Nat.zero_le _, by omega⟩, Nat.zero_add, Nat.sub_zero]
  exact hp k hk
theorem own_Pre.put {g : Int32 → Int32} {xs : List Int32} {c c' : Int32} (hp : own_Pre g xs) (hb : xs.length + 1 < 2 ^ 31) (hc : c' = c) : own_Pre (fun i => if i = Int32.ofNat xs.length then c' else g i) (xs ++ [c]) := fun k hk => by
  rw [List.length_append, List.length_singleton] at hk
  show (if Int32.ofNat k = Int32.ofNat xs.length then c' else g (Int32.ofNat k)) = _
  rw [List.getD_eq_getElem?_getD]
  by_cases e : k = xs.length
  · subst e
    rw [if_pos rfl, List.getElem?_append_right (Nat.le_refl _), Nat.sub_self, hc]
    rfl
  · rw [if_neg (fun z => e ((own_neq (by omega) (by omega)).mp z)), List.getElem?_append_left (by omega), ← List.getD_eq_getElem?_getD]
    exact hp k (by omega)
theorem own_Byt.put {g : Int32 → Int32} {cap : Nat} {j c : Int32} (hp : own_Byt g cap) (hc : fits .byte (.int c) = true) : own_Byt (fun i => if i = j then c else g i) cap := fun k hk => by
  show fits .byte (.int (if Int32.ofNat k = j then c else g (Int32.ofNat k))) = true
  split
  · exact hc
  · exact hp k hk
/-- the first builder behind k rounds -/
def own_col : Nat → List Int32
  | 0 => [40, 63]
  | k + 1 => own_col k ++ [44, 32, 63]
def own_sep : Nat → List Int32
  | 0 => []
  | _ + 1 => [44, 32]
/-- the second builder behind k rounds -/
def own_rows : Nat → List Int32 → List Int32
  | 0, _ => []
  | k + 1, xs => (own_rows k xs ++ own_sep k) ++ xs
def own_vals (nr nc : Nat) : List Int32 := own_rows nr (own_col (nc - 1) ++ [41])
theorem own_col_len (k : Nat) : (own_col k).length = 3 * k + 2 := by
  induction k with
  | zero => rfl
  | succ k ih => rw [own_col, List.length_append, ih]; simp; omega
theorem own_rows_len (k : Nat) (xs : List Int32) : (own_rows (k + 1) xs).length + 2 = (k + 1) * (xs.length + 2) := by
  induction k with
  | zero => simp [own_rows, own_sep]
  | succ k ih =>
    rw [own_rows, List.length_append, List.length_append, Nat.succ_mul, ← ih]
    simp [own_sep]
    omega
theorem own_rows_fit (i n : Nat) (xs : List Int32) (h : i < n) : (own_rows i xs).length + (own_sep i).length + xs.length ≤ n * (xs.length + 2) := by
  have h1 : (i + 1) * (xs.length + 2) ≤ n * (xs.length + 2) := Nat.mul_le_mul_right _ h
  have h2 := own_rows_len i xs
  rw [own_rows, List.length_append, List.length_append] at h2
  omega
theorem own_rows_lt (i n : Nat) (xs : List Int32) (h : n = i + 1) : (own_rows (i + 1) xs).length < n * (xs.length + 2) := by
  have h2 := own_rows_len i xs
  rw [h]
  omega
theorem own_vals_len (nr c : Nat) (h : 1 ≤ nr) : (own_vals nr (c + 1)).length + 2 = nr * (3 * (c + 1) + 2) := by
  obtain ⟨k, rfl⟩ : ∃ k, nr = k + 1 := ⟨nr - 1, by omega⟩
  have q := own_rows_len k (own_col (c + 1 - 1) ++ [41])
  rw [List.length_append, own_col_len, List.length_singleton, Nat.add_sub_cancel, show 3 * c + 2 + 1 + 2 = 3 * (c + 1) + 2 by omega] at q
  exact q
theorem own_small (x : Int32) (n : Nat) (h0 : 0 ≤ x.toInt) (h1 : x.toInt < n) : ∃ k : Nat, k < n ∧ x = Int32.ofNat k := by
  have := rng32 x
  refine ⟨x.toInt.toNat, by omega, Int32.toInt_inj.mp ?_⟩
  rw [own_nI (by omega)]
  omega
theorem own_and7 (p : Int32) : ∃ q : Nat, q < 8 ∧ (p &&& (7 : Int32)) = Int32.ofNat q := by
  have h1 := c_mask p 7 3 (by decide) rfl
  obtain ⟨k, hk, e⟩ := own_small (p &&& (7 : Int32)) 8 (by omega) (by omega)
  exact ⟨k, hk, e⟩
theorem own_pos (p : Int32) (n : Nat) (h0 : 0 < n) (h1 : n < 2 ^ 31) : ∃ k : Nat, k < n ∧ ((p &&& (2147483647 : Int32)) % (Int32.ofNat n)) = Int32.ofNat k := by
  have h0' : 0 ≤ (p &&& (2147483647 : Int32)).toInt := (c_and p 2147483647 (by decide)).1
  have h1' := (c_irem (p &&& (2147483647 : Int32)) (Int32.ofNat n) (n : Int) (own_nI h1)).1 h0'
  have h2 : 0 ≤ (p &&& (2147483647 : Int32)).toInt % (n : Int) := Int.emod_nonneg _ (by omega)
  have h3 : (p &&& (2147483647 : Int32)).toInt % (n : Int) < (n : Int) := Int.emod_lt_of_pos _ (by omega)
  exact own_small _ n (by omega) (by omega)
theorem own_nz0 {n : Nat} (h0 : 0 < n) (h1 : n < 2 ^ 31) : (Int32.ofNat n) ≠ 0 := fun z => by
  have := (own_neq (j := 0) h1 (by decide)).mp z
  omega
theorem own_sub2 (n : Nat) : Int32.ofNat (n + 2) - (2 : Int32) = Int32.ofNat n := by
  rw [show Int32.ofNat (n + 2) = Int32.ofNat n + (2 : Int32) from (own_nadd n 2).symm, Int32.add_sub_cancel]
theorem own_vlen (nr c : Nat) (h : 1 ≤ nr) : (Int32.ofNat (nr * (3 * (c + 1) + 2))) - (2 : Int32) = Int32.ofNat (own_vals nr (c + 1)).length := by
  rw [← own_vals_len nr c h, own_sub2]
theorem own_vbound (nr c : Nat) (h1 : nr < 8) (h2 : c < 8) : (own_vals nr (c + 1)).length < 2 ^ 31 := by
  by_cases h : 1 ≤ nr
  · have q := own_vals_len nr c h
    have : nr * (3 * (c + 1) + 2) ≤ 7 * 26 := Nat.mul_le_mul (by omega) (by omega)
    omega
  · obtain rfl : nr = 0 := by omega
    exact Nat.zero_lt_succ _
theorem own_mapat {l : List Int32} {F : Int32 → Int32} {E : Nat → Int32} (h : l.map F = (List.range l.length).map E) {k : Nat} (hk : k < l.length) : F (l.getD k 0) = E k := by
  have q := congrArg (fun z : List Int32 => z[k]?) h
  simp only [List.getElem?_map, List.getElem?_range hk, List.getElem?_eq_getElem hk, Option.map_some] at q
  rw [List.getD_eq_getElem?_getD, List.getElem?_eq_getElem hk]
  exact Option.some.inj q
theorem ef_1 (m : MethodId) (y0 : Int32) (y1 : Int32) : entryFrame m #[(.int y0), (.int y1)] 5 = mkF m 0 #[.val (.int y0), .val (.int y1), .unset, .unset, .unset] [] := by first | (simp [entryFrame, mkF, argsToLocals, Value.category]; done) | rfl
theorem pn_1 : plainName "com/example/crosstie/crosstie/ValuesBatches" = true := by first | (simp [plainName, overriddenIn]; done) | decide +kernel
theorem own_EW {Z : State} {a0 : Array Value} (hw : ∀ d ∈ tables_1, d.before a0 Z = true) : EW Z a0 consts_1 := (EW.cons (hw _ (List.mem_of_getElem? (i := 7) rfl)) (by decide +kernel) (EW.cons (hw _ (List.mem_of_getElem? (i := 87) rfl)) (by decide +kernel) (EW.cons (hw _ (List.mem_of_getElem? (i := 164) rfl)) (by decide +kernel) (EW.cons (hw _ (List.mem_of_getElem? (i := 239) rfl)) (by decide +kernel) EW.nil))))
theorem d1_0 : decode prog_13_method_2_code 0 = .ok (.new 21, 3) := by decide +kernel
theorem d1_3 : decode prog_13_method_2_code 3 = .ok (.dup, 1) := by decide +kernel
theorem own_wS {Z : State} {a0 : Array Value} (hw : ∀ d ∈ tables_1, d.before a0 Z = true) : ∀ a ∈ Bundle.stringAtoms, a.before a0 Z = true := fun d hd => hw d ((by decide +kernel : ∀ d ∈ Bundle.stringAtoms, d ∈ tables_1) d hd)
theorem d1_4 : decode prog_13_method_2_code 4 = .ok (.ldc 23, 2) := by decide +kernel
theorem d1_6 : decode prog_13_method_2_code 6 = .ok (.invokespecial 25, 3) := by decide +kernel
theorem d1_9 : decode prog_13_method_2_code 9 = .ok (.astore_n 2, 1) := by decide +kernel
theorem d1_30 : decode prog_13_method_2_code 30 = .ok (.aload_n 2, 1) := by decide +kernel
theorem d1_31 : decode prog_13_method_2_code 31 = .ok (.bipush 41, 2) := by decide +kernel
theorem d1_33 : decode prog_13_method_2_code 33 = .ok (.invokevirtual 34, 3) := by decide +kernel
theorem pd__C_Ljava_lang_StringBuilder_ : parseMethodDescriptor "(C)Ljava/lang/StringBuilder;" = some ⟨[.char], some (.object "java/lang/StringBuilder")⟩ := by decide +kernel
theorem d1_36 : decode prog_13_method_2_code 36 = .ok (.pop, 1) := by decide +kernel
theorem d1_37 : decode prog_13_method_2_code 37 = .ok (.new 21, 3) := by decide +kernel
theorem d1_40 : decode prog_13_method_2_code 40 = .ok (.dup, 1) := by decide +kernel
theorem d1_41 : decode prog_13_method_2_code 41 = .ok (.iload_n 0, 1) := by decide +kernel
theorem d1_42 : decode prog_13_method_2_code 42 = .ok (.aload_n 2, 1) := by decide +kernel
theorem d1_43 : decode prog_13_method_2_code 43 = .ok (.invokevirtual 37, 3) := by decide +kernel
theorem d1_46 : decode prog_13_method_2_code 46 = .ok (.iconst 2, 1) := by decide +kernel
theorem d1_47 : decode prog_13_method_2_code 47 = .ok (.iadd, 1) := by decide +kernel
theorem d1_48 : decode prog_13_method_2_code 48 = .ok (.imul, 1) := by decide +kernel
theorem d1_49 : decode prog_13_method_2_code 49 = .ok (.invokespecial 41, 3) := by decide +kernel
theorem d1_52 : decode prog_13_method_2_code 52 = .ok (.astore_n 3, 1) := by decide +kernel
theorem d1_53 : decode prog_13_method_2_code 53 = .ok (.iconst 0, 1) := by decide +kernel
theorem d1_54 : decode prog_13_method_2_code 54 = .ok (.istore 4, 2) := by decide +kernel
theorem d1_56 : decode prog_13_method_2_code 56 = .ok (.iload 4, 2) := by decide +kernel
theorem d1_58 : decode prog_13_method_2_code 58 = .ok (.iload_n 0, 1) := by decide +kernel
theorem d1_59 : decode prog_13_method_2_code 59 = .ok (.if_icmp .ge 30, 3) := by decide +kernel
theorem d1_62 : decode prog_13_method_2_code 62 = .ok (.aload_n 3, 1) := by decide +kernel
theorem d1_63 : decode prog_13_method_2_code 63 = .ok (.iload 4, 2) := by decide +kernel
theorem d1_65 : decode prog_13_method_2_code 65 = .ok (.ifCond .ne 8, 3) := by decide +kernel
theorem d1_68 : decode prog_13_method_2_code 68 = .ok (.ldc 44, 2) := by decide +kernel
theorem d1_70 : decode prog_13_method_2_code 70 = .ok (.goto 5, 3) := by decide +kernel
theorem d1_75 : decode prog_13_method_2_code 75 = .ok (.invokevirtual 30, 3) := by decide +kernel
theorem d1_78 : decode prog_13_method_2_code 78 = .ok (.aload_n 2, 1) := by decide +kernel
theorem d1_79 : decode prog_13_method_2_code 79 = .ok (.invokevirtual 48, 3) := by decide +kernel
theorem pd__Ljava_lang_CharSequence__Ljava_lang_StringBuilder_ : parseMethodDescriptor "(Ljava/lang/CharSequence;)Ljava/lang/StringBuilder;" = some ⟨[(.object "java/lang/CharSequence")], some (.object "java/lang/StringBuilder")⟩ := by decide +kernel
theorem d1_82 : decode prog_13_method_2_code 82 = .ok (.pop, 1) := by decide +kernel
theorem d1_83 : decode prog_13_method_2_code 83 = .ok (.iinc 4 1, 3) := by decide +kernel
theorem d1_86 : decode prog_13_method_2_code 86 = .ok (.goto (-30), 3) := by decide +kernel
theorem d1_73 : decode prog_13_method_2_code 73 = .ok (.ldc 46, 2) := by decide +kernel
theorem d1_89 : decode prog_13_method_2_code 89 = .ok (.aload_n 3, 1) := by decide +kernel
theorem d1_90 : decode prog_13_method_2_code 90 = .ok (.invokevirtual 51, 3) := by decide +kernel
theorem pd___Ljava_lang_String_ : parseMethodDescriptor "()Ljava/lang/String;" = some ⟨[], some (.object "java/lang/String")⟩ := by decide +kernel
theorem d1_93 : decode prog_13_method_2_code 93 = .ok (.areturn, 1) := by decide +kernel
theorem d1_10 : decode prog_13_method_2_code 10 = .ok (.iconst 1, 1) := by decide +kernel
theorem d1_11 : decode prog_13_method_2_code 11 = .ok (.istore_n 3, 1) := by decide +kernel
theorem d1_12 : decode prog_13_method_2_code 12 = .ok (.iload_n 3, 1) := by decide +kernel
theorem d1_13 : decode prog_13_method_2_code 13 = .ok (.iload_n 1, 1) := by decide +kernel
theorem d1_14 : decode prog_13_method_2_code 14 = .ok (.if_icmp .ge 16, 3) := by decide +kernel
theorem d1_17 : decode prog_13_method_2_code 17 = .ok (.aload_n 2, 1) := by decide +kernel
theorem d1_18 : decode prog_13_method_2_code 18 = .ok (.ldc 28, 2) := by decide +kernel
theorem d1_20 : decode prog_13_method_2_code 20 = .ok (.invokevirtual 30, 3) := by decide +kernel
theorem d1_23 : decode prog_13_method_2_code 23 = .ok (.pop, 1) := by decide +kernel
theorem d1_24 : decode prog_13_method_2_code 24 = .ok (.iinc 3 1, 3) := by decide +kernel
theorem d1_27 : decode prog_13_method_2_code 27 = .ok (.goto (-15), 3) := by decide +kernel
set_option maxRecDepth 65536 in
set_option maxHeartbeats 40000000 in
theorem rm1 (l : Launch) (Z : State) (a0 : Array Value) (hw : ∀ d ∈ tables_1, d.before a0 Z = true) (nr : Nat) (nc : Nat) (z_C : Int32) (h0 : Heap) (n0 : Nat) (O0 : Old Z n0 h0) (Z0 : n0 ≤ h0.size) (hz : ¬ z_C = 0) (S_COMPACT_STRINGS : Sta Z Z.heap "java/lang/String" "COMPACT_STRINGS" "Z" (.int z_C)) (hnr : nr < 8) (hcl : 1 ≤ nc ∧ nc ≤ 8) :
    own_MetC l Z consts_1 n0 (⟨"com/example/crosstie/crosstie/ValuesBatches", "values", "(II)Ljava/lang/String;"⟩ : MethodName) prog_13_method_2_code 5 (some (.object "java/lang/String")) ({ frames := 8, cells := 16, slots := 1000, locals := 139 } : Room) #[(.int (Int32.ofNat nr)), (.int (Int32.ofNat nc))] h0 (fun v h => Keep h0 h [] ∧ ∃ x t f, v = some (.ref x) ∧ Exa Z h x "java/lang/String" ∧ Fld Z h x "java/lang/String" "coder" "B" (.int (0 : Int32)) ∧ Fld Z h x "java/lang/String" "value" "[B" (.ref t) ∧ own_Arr Z h t .byte (Int32.ofNat (own_vals nr nc).length) f ∧ own_Pre f (own_vals nr nc)) := by
  refine own_metC (plainFor_of_name pn_1) ?_
  intro p e s m below meth c T0 hx hby hml hown hnm hret hlk hZ A0 hs0 hS C0
  have hEL := own_EW hw
  rw [ef_1]
  show own_Go _ _ _ _ (T0.setTop (mkF m 0 #[.val (.int (Int32.ofNat nr)), .val (.int (Int32.ofNat nc)), .unset, .unset, .unset] []))
  refine own_newO A0 hx hZ hown (hw _ (List.mem_of_getElem? (i := 4) rfl)) (hw _ (List.mem_of_getElem? (i := 5) rfl)) (hw _ (List.mem_of_getElem? (i := 6) rfl)) rfl (hb hby d1_0) (by decide) (by decide) (fun T1 h3 b4 ha_b4 A2 E5 X6 D7 => ?_)
  have g_b4 : n0 ≤ b4 := by rw [ha_b4]; exact Z0
  have nw_b4 : h0.size ≤ b4 := by rw [ha_b4]; exact (Keep.refl h0 []).1
  have sf_b4 : Safe Z consts_1 s.vm h3 b4 := Safe.ext E5 C0.1 (Safe.new (Nat.le_of_eq ha_b4.symm))
  have C9 : CHr Z consts_1 s.vm h0 s.vm h3 := C0.trans (CHr.ext E5 C0.1)
  have Y10 : 0 ≤ h3.size := Nat.le_trans (Nat.zero_le _) E5.1
  have O11 : Old Z n0 h3 := O0.ext E5
  have Z12 : n0 ≤ h3.size := Nat.le_trans Z0 E5.1
  have K13 : Keep h0 h3 [] := (Keep.refl h0 []).ext E5
  have F14 : Fld Z h3 b4 "java/lang/AbstractStringBuilder" "coder" "B" (.int (0 : Int32)) := D7 (Or.inl (hw _ (List.mem_of_getElem? (i := 43) rfl))) (ty := .byte) (by decide)
  have F15 : Fld Z h3 b4 "java/lang/AbstractStringBuilder" "value" "[B" .null := D7 (Or.inl (hw _ (List.mem_of_getElem? (i := 45) rfl))) (ty := (.array .byte)) (by decide)
  have F16 : Fld Z h3 b4 "java/lang/AbstractStringBuilder" "count" "I" (.int (0 : Int32)) := D7 (Or.inl (hw _ (List.mem_of_getElem? (i := 61) rfl))) (ty := .int) (by decide)
  have F17 : Fld Z h3 b4 "java/lang/AbstractStringBuilder" "maybeLatin1" "Z" (.int (0 : Int32)) := D7 (Or.inl (hw _ (List.mem_of_getElem? (i := 201) rfl))) (ty := .boolean) (by decide)
  show own_Go _ _ _ _ (T1.setTop (mkF m 3 #[.val (.int (Int32.ofNat nr)), .val (.int (Int32.ofNat nc)), .unset, .unset, .unset] [(.ref b4)]))
  refine own_go (fun t_ k_ => XS.dup A2.here hx rfl (hb hby d1_3) rfl rfl k_) ?_
  show own_Go _ _ _ _ (T1.setTop (mkF m 4 #[.val (.int (Int32.ofNat nr)), .val (.int (Int32.ofNat nc)), .unset, .unset, .unset] [(.ref b4), (.ref b4)]))
  refine own_ldcL A2 hx hZ hown (hw _ (List.mem_of_getElem? (i := 7) rfl)) (own_wS hw) hEL (by decide) C9 hS Y10 (xs := [40, 63]) (z := (2 : Int32)) ⟨by decide +kernel, by decide +kernel⟩ (by decide) rfl rfl (hb hby d1_4) 8 (by decide +kernel) (by decide) (by decide) (by decide) (fun T18 h20 b21 b22 vm23 k24 A19 E25 R26 hS27 hk28 hZ hown NE29 Lt34 X30 F31 F32 V33 => ?_)
  have K35 : Keep h3 h20 [] := (Keep.refl _ _).ext E25
  have C36 : CHr Z consts_1 s.vm h0 vm23 h20 := C9.trans R26
  have O37 : Old Z n0 h20 := O11.keep K35 all0
  have Z38 : n0 ≤ h20.size := Nat.le_trans Z12 K35.1
  have K39 : Keep h0 h20 [] := K13.trans K35 all0
  have sf40 : Safe Z consts_1 vm23 h20 b4 := R26.safe X6.lt sf_b4
  have E41 : Exa Z h20 b4 "java/lang/StringBuilder" := X6.keep K35
  have F42 : Fld Z h20 b4 "java/lang/AbstractStringBuilder" "coder" "B" (.int (0 : Int32)) := F14.keep K35 nin0
  have F43 : Fld Z h20 b4 "java/lang/AbstractStringBuilder" "value" "[B" .null := F15.keep K35 nin0
  have F44 : Fld Z h20 b4 "java/lang/AbstractStringBuilder" "count" "I" (.int (0 : Int32)) := F16.keep K35 nin0
  have F45 : Fld Z h20 b4 "java/lang/AbstractStringBuilder" "maybeLatin1" "Z" (.int (0 : Int32)) := F17.keep K35 nin0
  obtain ⟨ne_b4_b21, ne_b4_b22⟩ := NE29 _ sf40
  show own_Go _ _ _ _ (T18.setTop (mkF m 6 #[.val (.int (Int32.ofNat nr)), .val (.int (Int32.ofNat nc)), .unset, .unset, .unset] [(.ref b21), (.ref b4), (.ref b4)]))
  refine own_callI A19 hx hZ (y := (⟨"java/lang/StringBuilder", "<init>", "(Ljava/lang/String;)V"⟩ : MethodName)) rfl hown (hw _ (List.mem_of_getElem? (i := 15) rfl)) (hw _ (List.mem_of_getElem? (i := 16) rfl)) (hw _ (List.mem_of_getElem? (i := 6) rfl)) (hw _ (List.mem_of_getElem? (i := 17) rfl)) (by decide) (b := b4) (argsL := [(.ref b21)]) (rest := [(.ref b4)]) (rm2 l Z a0 hw b4 b21 z_C b22 (fun j => ([40, 63] : List Int32).getD j.toNatClampNeg 0) ([40, 63] : List Int32) h20 n0 O37 hz S_COMPACT_STRINGS Z38 E41 F43 F42 F44 F45 X30 F31 F32 V33 g_b4 ne_b4_b21 ne_b4_b22 (own_bytS _ (by decide) (by decide +kernel)) rfl) 1 (by decide) (by decide) rfl (by rw [hml]; rfl) (lenOf pd__Ljava_lang_String__V rfl) rfl (by show 2 * 0 + _ ≤ _; exact Nat.le_of_eq rfl) (hb hby d1_6) (by decide) (by decide) (fun v49 T46 h48 A47 hQ50 => ?_)
  obtain ⟨rfl, K51, t52, gt53, nt54, F55, F56, F57, F58, V59⟩ := hQ50
  have ne_b4_t52 : b4 ≠ t52 := Nat.ne_of_lt (Nat.lt_of_lt_of_le E41.lt nt54)
  have ne_b21_t52 : b21 ≠ t52 := Nat.ne_of_lt (Nat.lt_of_lt_of_le X30.lt nt54)
  have ne_b22_t52 : b22 ≠ t52 := Nat.ne_of_lt (Nat.lt_of_lt_of_le V33.lt nt54)
  have nw_t52 : h0.size ≤ t52 := Nat.le_trans K39.1 nt54
  have sf_t52 : Safe Z consts_1 vm23 h48 t52 := Safe.keep K51 (sfS sf40 sf0) C36.1 (Safe.new nt54)
  have C60 : CHr Z consts_1 s.vm h0 vm23 h48 := C36.trans (CHr.keep K51 (sfS sf40 sf0) C36.1)
  have O61 : Old Z n0 h48 := O37.keep K51 (allS g_b4 all0)
  have Z62 : n0 ≤ h48.size := Nat.le_trans Z38 K51.1
  have K63 : Keep h0 h48 [] := K39.trans K51 (allS (Or.inr nw_b4) all0)
  have sf64 : Safe Z consts_1 vm23 h48 b4 := Safe.keep K51 (sfS sf40 sf0) C36.1 sf40
  have E65 : Exa Z h48 b4 "java/lang/StringBuilder" := E41.keep K51
  have Y66 : k24 ≤ h48.size := Nat.le_trans hk28 K51.1
  have E67 : Exa Z h48 b21 "java/lang/String" := X30.keep K51
  have F68 : Fld Z h48 b21 "java/lang/String" "coder" "B" (.int (0 : Int32)) := F31.keep K51 (ninS (Ne.symm ne_b4_b21) nin0)
  have F69 : Fld Z h48 b21 "java/lang/String" "value" "[B" (.ref b22) := F32.keep K51 (ninS (Ne.symm ne_b4_b21) nin0)
  have V70 : own_Arr Z h48 b22 .byte (2 : Int32) (fun j => ([40, 63] : List Int32).getD j.toNatClampNeg 0) := V33.keep K51 (ninS (Ne.symm ne_b4_b22) nin0)
  have P71 : own_Pre (own_cpf (fun j => ([40, 63] : List Int32).getD j.toNatClampNeg 0) 0 0 ([40, 63] : List Int32).length (fun _ => 0)) (own_col 0) := own_Pre.app (ys := []) (xs := ([40, 63] : List Int32)) own_pre0 (own_preS _ (by decide)) (by decide)
  have Y72 : own_Byt (own_cpf (fun j => ([40, 63] : List Int32).getD j.toNatClampNeg 0) 0 0 ([40, 63] : List Int32).length (fun _ => 0)) 18 := own_Byt.cp (fun k hk => rfl) (own_bytS _ (by decide) (by decide +kernel)) (by decide) (by decide)
  have F73 : Fld Z h48 b4 "java/lang/AbstractStringBuilder" "count" "I" (.int (Int32.ofNat 2)) := F57
  generalize (own_cpf (fun j => ([40, 63] : List Int32).getD j.toNatClampNeg 0) 0 0 ([40, 63] : List Int32).length (fun _ => 0)) = fz74 at V59 P71 Y72
  show own_Go _ _ _ _ (T46.setTop (mkF m 9 #[.val (.int (Int32.ofNat nr)), .val (.int (Int32.ofNat nc)), .unset, .unset, .unset] [(.ref b4)]))
  refine own_go (fun t_ k_ => XS.astoreN A47.here hx rfl (hb hby d1_9) rfl rfl (l' := #[.val (.int (Int32.ofNat nr)), .val (.int (Int32.ofNat nc)), .val (.ref b4), .unset, .unset]) rfl k_) ?_
  show own_Go _ _ _ _ (T46.setTop (mkF m 10 #[.val (.int (Int32.ofNat nr)), .val (.int (Int32.ofNat nc)), .val (.ref b4), .unset, .unset] []))
  have tail : ∀ (vmT : Vm) (kT : Nat) (TT : State) (hT : Heap) (v1 : Addr) (cp : Nat) (gT : Int32 → Int32) (xT : List Int32) (i3 : Int32), (Z.Warmed39 (s.setVm vmT).vm) → ((s.setVm vmT).vm.findClass "com/example/crosstie/crosstie/ValuesBatches" = some m.cls) → (own_At p l e ({ frames := 8, cells := 16, slots := 1000, locals := 139 } : Room) (s.setVm vmT) m #[.int (Int32.ofNat nr), .int (Int32.ofNat nc)] below meth c n0 TT hT 7 300) → (CHr Z consts_1 s.vm h0 vmT hT) → (s.Since vmT kT) → (kT ≤ hT.size) → (Keep h0 hT []) → (Old Z n0 hT) → (n0 ≤ hT.size) → (Exa Z hT b4 "java/lang/StringBuilder") → (Fld Z hT b4 "java/lang/AbstractStringBuilder" "value" "[B" (.ref v1)) → (Fld Z hT b4 "java/lang/AbstractStringBuilder" "coder" "B" (.int (0 : Int32))) → (Fld Z hT b4 "java/lang/AbstractStringBuilder" "count" "I" (.int (Int32.ofNat xT.length))) → (Fld Z hT b4 "java/lang/AbstractStringBuilder" "maybeLatin1" "Z" (.int (0 : Int32))) → (own_Arr Z hT v1 .byte (Int32.ofNat cp) gT) → (n0 ≤ v1) → (h0.size ≤ v1) → (v1 ≠ b4) → (Safe Z consts_1 vmT hT b4) → (Safe Z consts_1 vmT hT v1) → (own_Pre gT xT) → (own_Byt gT cp) → (xT.length + 1 ≤ cp) → (cp ≤ 38) → (xT = own_col (nc - 1)) → own_Go p.tables e below (own_EndC Z consts_1 n0 s (({ frames := 8, cells := 16, slots := 1000, locals := 139 } : Room)).cells (({ frames := 8, cells := 16, slots := 1000, locals := 139 } : Room)).slots (fun v h => Keep h0 h [] ∧ ∃ x t f, v = some (.ref x) ∧ Exa Z h x "java/lang/String" ∧ Fld Z h x "java/lang/String" "coder" "B" (.int (0 : Int32)) ∧ Fld Z h x "java/lang/String" "value" "[B" (.ref t) ∧ own_Arr Z h t .byte (Int32.ofNat (own_vals nr nc).length) f ∧ own_Pre f (own_vals nr nc))) (TT.setTop (mkF m 30 #[.val (.int (Int32.ofNat nr)), .val (.int (Int32.ofNat nc)), .val (.ref b4), .val (.int i3), .unset] [])) := by
    intro vmT kT TT hT v1 cp gT xT i3 hZ hown AT CT hST kzT KT OT ZT EbT FvT FcT FnT FmT VT gvT nvT nebT sfb sfv PT YT fitT cpT xsT
    have xlT : xT.length ≤ 23 := by rw [xsT, own_col_len]; omega
    show own_Go _ _ _ _ (TT.setTop (mkF m 30 #[.val (.int (Int32.ofNat nr)), .val (.int (Int32.ofNat nc)), .val (.ref b4), .val (.int i3), .unset] []))
    refine own_go (fun t_ k_ => XS.aloadN AT.here hx rfl (hb hby d1_30) rfl rfl k_) ?_
    show own_Go _ _ _ _ (TT.setTop (mkF m 31 #[.val (.int (Int32.ofNat nr)), .val (.int (Int32.ofNat nc)), .val (.ref b4), .val (.int i3), .unset] [(.ref b4)]))
    refine own_go (fun t_ k_ => XS.bipush AT.here hx rfl (hb hby d1_31) k_) ?_
    show own_Go _ _ _ _ (TT.setTop (mkF m 33 #[.val (.int (Int32.ofNat nr)), .val (.int (Int32.ofNat nc)), .val (.ref b4), .val (.int i3), .unset] [(.int (41 : Int32)), (.ref b4)]))
    refine own_callV AT hx hZ (y := (⟨"java/lang/StringBuilder", "append", "(C)Ljava/lang/StringBuilder;"⟩ : MethodName)) (z := (⟨"java/lang/StringBuilder", "append", "(C)Ljava/lang/StringBuilder;"⟩ : MethodName)) hown (hw _ (List.mem_of_getElem? (i := 89) rfl)) (hw _ (List.mem_of_getElem? (i := 90) rfl)) (hw _ (List.mem_of_getElem? (i := 92) rfl)) (hw _ (List.mem_of_getElem? (i := 91) rfl)) (hw _ (List.mem_of_getElem? (i := 6) rfl)) (hw _ (List.mem_of_getElem? (i := 93) rfl)) (notFace_of_selects (args := #[]) (mvT hZ (hw _ (List.mem_of_getElem? (i := 92) rfl)))) (by decide) (b := b4) (argsL := [(.int (41 : Int32))]) (rest := []) EbT (rm14 l Z a0 hw b4 (41 : Int32) z_C v1 gT xT.length cp hT n0 (S_COMPACT_STRINGS.ext OT.2) hz EbT FvT FcT FnT FmT VT (by omega) gvT g_b4 nebT fitT (by decide)) 0 (by decide) (by decide) rfl (by rw [hml]; rfl) (lenOf pd__C_Ljava_lang_StringBuilder_ rfl) rfl (by show 2 * 0 + _ ≤ _; exact Nat.le_of_eq rfl) (hb hby d1_33) (by decide) (by decide) (fun v78 T75 h77 A76 hQ79 => ?_)
    obtain ⟨rfl, K80, F81, F82, F83, F84, V85⟩ := hQ79
    have C86 : CHr Z consts_1 s.vm h0 vmT h77 := CT.trans (CHr.keep K80 (sfS sfb (sfS sfv sf0)) CT.1)
    have Y87 : kT ≤ h77.size := Nat.le_trans kzT K80.1
    have K88 : Keep h0 h77 [] := KT.trans K80 (allS (Or.inr nw_b4) (allS (Or.inr nvT) all0))
    have O89 : Old Z n0 h77 := OT.keep K80 (allS g_b4 (allS gvT all0))
    have Z90 : n0 ≤ h77.size := Nat.le_trans ZT K80.1
    have E91 : Exa Z h77 b4 "java/lang/StringBuilder" := EbT.keep K80
    have sf92 : Safe Z consts_1 vmT h77 b4 := Safe.keep K80 (sfS sfb (sfS sfv sf0)) CT.1 sfb
    have sf93 : Safe Z consts_1 vmT h77 v1 := Safe.keep K80 (sfS sfb (sfS sfv sf0)) CT.1 sfv
    obtain ⟨x1, hx1⟩ : ∃ x1, x1 = xT ++ [(41 : Int32)] := ⟨_, rfl⟩
    have lx1 : x1.length = xT.length + 1 := by rw [hx1, List.length_append]; rfl
    have P94 : own_Pre (fun i => if i = (Int32.ofNat xT.length) then nar .byte ((41 : Int32).toInt8.toInt32) else gT i) x1 := by rw [hx1]; exact own_Pre.put PT (by omega) (by decide)
    have Y95 : own_Byt (fun i => if i = (Int32.ofNat xT.length) then nar .byte ((41 : Int32).toInt8.toInt32) else gT i) cp := own_Byt.put YT (by decide)
    have F96 : Fld Z h77 b4 "java/lang/AbstractStringBuilder" "count" "I" (.int (Int32.ofNat x1.length)) := by rw [lx1]; exact F83
    generalize (fun i => if i = (Int32.ofNat xT.length) then nar .byte ((41 : Int32).toInt8.toInt32) else gT i) = fz97 at V85 P94 Y95
    show own_Go _ _ _ _ (T75.setTop (mkF m 36 #[.val (.int (Int32.ofNat nr)), .val (.int (Int32.ofNat nc)), .val (.ref b4), .val (.int i3), .unset] [(.ref b4)]))
    refine own_go (fun t_ k_ => XS.pop A76.here hx rfl (hb hby d1_36) rfl rfl k_) ?_
    show own_Go _ _ _ _ (T75.setTop (mkF m 37 #[.val (.int (Int32.ofNat nr)), .val (.int (Int32.ofNat nc)), .val (.ref b4), .val (.int i3), .unset] []))
    refine own_newO A76 hx hZ hown (hw _ (List.mem_of_getElem? (i := 4) rfl)) (hw _ (List.mem_of_getElem? (i := 5) rfl)) (hw _ (List.mem_of_getElem? (i := 6) rfl)) rfl (hb hby d1_37) (by decide) (by decide) (fun T98 h100 b101 ha_b101 A99 E102 X103 D104 => ?_)
    have ne_b4_b101 : b4 ≠ b101 := Nat.ne_of_lt (by rw [ha_b101]; exact E91.lt)
    have ne_v1_b101 : v1 ≠ b101 := Nat.ne_of_lt (by rw [ha_b101]; exact V85.lt)
    have g_b101 : n0 ≤ b101 := by rw [ha_b101]; exact Z90
    have nw_b101 : h0.size ≤ b101 := by rw [ha_b101]; exact K88.1
    have sf_b101 : Safe Z consts_1 vmT h100 b101 := Safe.ext E102 C86.1 (Safe.new (Nat.le_of_eq ha_b101.symm))
    have C106 : CHr Z consts_1 s.vm h0 vmT h100 := C86.trans (CHr.ext E102 C86.1)
    have Y107 : kT ≤ h100.size := Nat.le_trans Y87 E102.1
    have K108 : Keep h0 h100 [] := K88.ext E102
    have O109 : Old Z n0 h100 := O89.ext E102
    have Z110 : n0 ≤ h100.size := Nat.le_trans Z90 E102.1
    have E111 : Exa Z h100 b4 "java/lang/StringBuilder" := E91.ext E102
    have sf112 : Safe Z consts_1 vmT h100 b4 := Safe.ext E102 C86.1 sf92
    have sf113 : Safe Z consts_1 vmT h100 v1 := Safe.ext E102 C86.1 sf93
    have F114 : Fld Z h100 b4 "java/lang/AbstractStringBuilder" "maybeLatin1" "Z" (.int (0 : Int32)) := F84.ext E102
    have F115 : Fld Z h100 b4 "java/lang/AbstractStringBuilder" "value" "[B" (.ref v1) := F81.ext E102
    have F116 : Fld Z h100 b4 "java/lang/AbstractStringBuilder" "coder" "B" (.int (0 : Int32)) := F82.ext E102
    have F117 : Fld Z h100 b4 "java/lang/AbstractStringBuilder" "count" "I" (.int (Int32.ofNat x1.length)) := F96.ext E102
    have V118 : own_Arr Z h100 v1 .byte (Int32.ofNat cp) fz97 := V85.ext E102
    have F119 : Fld Z h100 b101 "java/lang/AbstractStringBuilder" "coder" "B" (.int (0 : Int32)) := D104 (Or.inl (hw _ (List.mem_of_getElem? (i := 43) rfl))) (ty := .byte) (by decide)
    have F120 : Fld Z h100 b101 "java/lang/AbstractStringBuilder" "value" "[B" .null := D104 (Or.inl (hw _ (List.mem_of_getElem? (i := 45) rfl))) (ty := (.array .byte)) (by decide)
    have F121 : Fld Z h100 b101 "java/lang/AbstractStringBuilder" "count" "I" (.int (0 : Int32)) := D104 (Or.inl (hw _ (List.mem_of_getElem? (i := 61) rfl))) (ty := .int) (by decide)
    have F122 : Fld Z h100 b101 "java/lang/AbstractStringBuilder" "maybeLatin1" "Z" (.int (0 : Int32)) := D104 (Or.inl (hw _ (List.mem_of_getElem? (i := 201) rfl))) (ty := .boolean) (by decide)
    show own_Go _ _ _ _ (T98.setTop (mkF m 40 #[.val (.int (Int32.ofNat nr)), .val (.int (Int32.ofNat nc)), .val (.ref b4), .val (.int i3), .unset] [(.ref b101)]))
    refine own_go (fun t_ k_ => XS.dup A99.here hx rfl (hb hby d1_40) rfl rfl k_) ?_
    show own_Go _ _ _ _ (T98.setTop (mkF m 41 #[.val (.int (Int32.ofNat nr)), .val (.int (Int32.ofNat nc)), .val (.ref b4), .val (.int i3), .unset] [(.ref b101), (.ref b101)]))
    refine own_go (fun t_ k_ => XS.iloadN A99.here hx rfl (hb hby d1_41) rfl k_) ?_
    show own_Go _ _ _ _ (T98.setTop (mkF m 42 #[.val (.int (Int32.ofNat nr)), .val (.int (Int32.ofNat nc)), .val (.ref b4), .val (.int i3), .unset] [(.int (Int32.ofNat nr)), (.ref b101), (.ref b101)]))
    refine own_go (fun t_ k_ => XS.aloadN A99.here hx rfl (hb hby d1_42) rfl rfl k_) ?_
    show own_Go _ _ _ _ (T98.setTop (mkF m 43 #[.val (.int (Int32.ofNat nr)), .val (.int (Int32.ofNat nc)), .val (.ref b4), .val (.int i3), .unset] [(.ref b4), (.int (Int32.ofNat nr)), (.ref b101), (.ref b101)]))
    refine own_callV A99 hx hZ (y := (⟨"java/lang/StringBuilder", "length", "()I"⟩ : MethodName)) (z := (⟨"java/lang/StringBuilder", "length", "()I"⟩ : MethodName)) hown (hw _ (List.mem_of_getElem? (i := 107) rfl)) (hw _ (List.mem_of_getElem? (i := 108) rfl)) (hw _ (List.mem_of_getElem? (i := 110) rfl)) (hw _ (List.mem_of_getElem? (i := 109) rfl)) (hw _ (List.mem_of_getElem? (i := 6) rfl)) (hw _ (List.mem_of_getElem? (i := 111) rfl)) (notFace_of_selects (args := #[]) (mvT hZ (hw _ (List.mem_of_getElem? (i := 110) rfl)))) (by decide) (b := b4) (argsL := []) (rest := [(.int (Int32.ofNat nr)), (.ref b101), (.ref b101)]) E111 (rm18 l Z a0 hw b4 (Int32.ofNat x1.length) h100 n0 E111 F117) 3 (by decide) (by decide) rfl (by rw [hml]; rfl) (lenOf pd___I rfl) rfl (by show 2 * 0 + _ ≤ _; exact Nat.le_of_eq rfl) (hb hby d1_43) (by decide) (by decide) (fun v126 T123 h125 A124 hQ127 => ?_)
    obtain ⟨rfl, rfl⟩ := hQ127
    show own_Go _ _ _ _ (T123.setTop (mkF m 46 #[.val (.int (Int32.ofNat nr)), .val (.int (Int32.ofNat nc)), .val (.ref b4), .val (.int i3), .unset] [(.int (Int32.ofNat x1.length)), (.int (Int32.ofNat nr)), (.ref b101), (.ref b101)]))
    refine own_go (fun t_ k_ => XS.iconst A124.here hx rfl (hb hby d1_46) k_) ?_
    show own_Go _ _ _ _ (T123.setTop (mkF m 47 #[.val (.int (Int32.ofNat nr)), .val (.int (Int32.ofNat nc)), .val (.ref b4), .val (.int i3), .unset] [(.int (2 : Int32)), (.int (Int32.ofNat x1.length)), (.int (Int32.ofNat nr)), (.ref b101), (.ref b101)]))
    refine own_go (fun t_ k_ => XS.iadd A124.here hx rfl (hb hby d1_47) rfl k_) ?_
    show own_Go _ _ _ _ (T123.setTop (mkF m 48 #[.val (.int (Int32.ofNat nr)), .val (.int (Int32.ofNat nc)), .val (.ref b4), .val (.int i3), .unset] [(.int ((Int32.ofNat x1.length) + (2 : Int32))), (.int (Int32.ofNat nr)), (.ref b101), (.ref b101)]))
    rw [show ((Int32.ofNat x1.length) + (2 : Int32)) = (Int32.ofNat (x1.length + 2)) from own_nadd _ 2]
    show own_Go _ _ _ _ (T123.setTop (mkF m 48 #[.val (.int (Int32.ofNat nr)), .val (.int (Int32.ofNat nc)), .val (.ref b4), .val (.int i3), .unset] [(.int (Int32.ofNat (x1.length + 2))), (.int (Int32.ofNat nr)), (.ref b101), (.ref b101)]))
    refine own_go (fun t_ k_ => XS.imul A124.here hx rfl (hb hby d1_48) rfl k_) ?_
    show own_Go _ _ _ _ (T123.setTop (mkF m 49 #[.val (.int (Int32.ofNat nr)), .val (.int (Int32.ofNat nc)), .val (.ref b4), .val (.int i3), .unset] [(.int ((Int32.ofNat nr) * (Int32.ofNat (x1.length + 2)))), (.ref b101), (.ref b101)]))
    obtain ⟨cap2, ec2⟩ : ∃ c2, c2 = nr * (x1.length + 2) := ⟨_, rfl⟩
    have hc2 : cap2 ≤ 256 := by rw [ec2]; exact Nat.le_trans (Nat.mul_le_mul (show nr ≤ 7 by omega) (show x1.length + 2 ≤ 26 by omega)) (by decide)
    rw [show ((Int32.ofNat nr) * (Int32.ofNat (x1.length + 2))) = (Int32.ofNat cap2) from by rw [ec2]; exact own_nmul _ _]
    show own_Go _ _ _ _ (T123.setTop (mkF m 49 #[.val (.int (Int32.ofNat nr)), .val (.int (Int32.ofNat nc)), .val (.ref b4), .val (.int i3), .unset] [(.int (Int32.ofNat cap2)), (.ref b101), (.ref b101)]))
    refine own_callI A124 hx hZ (y := (⟨"java/lang/StringBuilder", "<init>", "(I)V"⟩ : MethodName)) rfl hown (hw _ (List.mem_of_getElem? (i := 116) rfl)) (hw _ (List.mem_of_getElem? (i := 117) rfl)) (hw _ (List.mem_of_getElem? (i := 6) rfl)) (hw _ (List.mem_of_getElem? (i := 118) rfl)) (by decide) (b := b101) (argsL := [(.int (Int32.ofNat cap2))]) (rest := [(.ref b101)]) (rm20 l Z a0 hw b101 z_C cap2 h100 n0 (S_COMPACT_STRINGS.ext O109.2) hz Z110 X103 F120 F119 F121 F122 g_b101 hc2) 1 (by decide) (by decide) rfl (by rw [hml]; rfl) (lenOf pd__I_V rfl) rfl (by show 2 * 0 + _ ≤ _; exact Nat.le_of_eq rfl) (hb hby d1_49) (by decide) (by decide) (fun v131 T128 h130 A129 hQ132 => ?_)
    obtain ⟨rfl, K133, t134, gt135, nt136, F137, F138, F139, F140, V141, X142⟩ := hQ132
    have ne_b4_t134 : b4 ≠ t134 := Nat.ne_of_lt (Nat.lt_of_lt_of_le E111.lt nt136)
    have ne_v1_t134 : v1 ≠ t134 := Nat.ne_of_lt (Nat.lt_of_lt_of_le V118.lt nt136)
    have ne_b101_t134 : b101 ≠ t134 := Nat.ne_of_lt (Nat.lt_of_lt_of_le X103.lt nt136)
    have nw_t134 : h0.size ≤ t134 := Nat.le_trans K108.1 nt136
    have sf_t134 : Safe Z consts_1 vmT h130 t134 := Safe.keep K133 (sfS sf_b101 sf0) C106.1 (Safe.new nt136)
    have C143 : CHr Z consts_1 s.vm h0 vmT h130 := C106.trans (CHr.keep K133 (sfS sf_b101 sf0) C106.1)
    have Y144 : kT ≤ h130.size := Nat.le_trans Y107 K133.1
    have K145 : Keep h0 h130 [] := K108.trans K133 (allS (Or.inr nw_b101) all0)
    have O146 : Old Z n0 h130 := O109.keep K133 (allS g_b101 all0)
    have Z147 : n0 ≤ h130.size := Nat.le_trans Z110 K133.1
    have E148 : Exa Z h130 b4 "java/lang/StringBuilder" := E111.keep K133
    have sf149 : Safe Z consts_1 vmT h130 b4 := Safe.keep K133 (sfS sf_b101 sf0) C106.1 sf112
    have sf150 : Safe Z consts_1 vmT h130 v1 := Safe.keep K133 (sfS sf_b101 sf0) C106.1 sf113
    have F151 : Fld Z h130 b4 "java/lang/AbstractStringBuilder" "maybeLatin1" "Z" (.int (0 : Int32)) := F114.keep K133 (ninS ne_b4_b101 nin0)
    have F152 : Fld Z h130 b4 "java/lang/AbstractStringBuilder" "value" "[B" (.ref v1) := F115.keep K133 (ninS ne_b4_b101 nin0)
    have F153 : Fld Z h130 b4 "java/lang/AbstractStringBuilder" "coder" "B" (.int (0 : Int32)) := F116.keep K133 (ninS ne_b4_b101 nin0)
    have F154 : Fld Z h130 b4 "java/lang/AbstractStringBuilder" "count" "I" (.int (Int32.ofNat x1.length)) := F117.keep K133 (ninS ne_b4_b101 nin0)
    have V155 : own_Arr Z h130 v1 .byte (Int32.ofNat cp) fz97 := V118.keep K133 (ninS ne_v1_b101 nin0)
    have sf156 : Safe Z consts_1 vmT h130 b101 := Safe.keep K133 (sfS sf_b101 sf0) C106.1 sf_b101
    have E157 : Exa Z h130 b101 "java/lang/StringBuilder" := X103.keep K133
    show own_Go _ _ _ _ (T128.setTop (mkF m 52 #[.val (.int (Int32.ofNat nr)), .val (.int (Int32.ofNat nc)), .val (.ref b4), .val (.int i3), .unset] [(.ref b101)]))
    refine own_go (fun t_ k_ => XS.astoreN A129.here hx rfl (hb hby d1_52) rfl rfl (l' := #[.val (.int (Int32.ofNat nr)), .val (.int (Int32.ofNat nc)), .val (.ref b4), .val (.ref b101), .unset]) rfl k_) ?_
    show own_Go _ _ _ _ (T128.setTop (mkF m 53 #[.val (.int (Int32.ofNat nr)), .val (.int (Int32.ofNat nc)), .val (.ref b4), .val (.ref b101), .unset] []))
    refine own_go (fun t_ k_ => XS.iconst A129.here hx rfl (hb hby d1_53) k_) ?_
    show own_Go _ _ _ _ (T128.setTop (mkF m 54 #[.val (.int (Int32.ofNat nr)), .val (.int (Int32.ofNat nc)), .val (.ref b4), .val (.ref b101), .unset] [(.int (0 : Int32))]))
    refine own_go (fun t_ k_ => XS.istore A129.here hx rfl (hb hby d1_54) rfl (l' := #[.val (.int (Int32.ofNat nr)), .val (.int (Int32.ofNat nc)), .val (.ref b4), .val (.ref b101), .val (.int (0 : Int32))]) rfl k_) ?_
    show own_Go _ _ _ _ (T128.setTop (mkF m 56 #[.val (.int (Int32.ofNat nr)), .val (.int (Int32.ofNat nc)), .val (.ref b4), .val (.ref b101), .val (.int (0 : Int32))] []))
    have P20 : own_Pre (fun _ => (0 : Int32)) (own_rows 0 x1) := own_pre0
    have Y20 : own_Byt (fun _ => (0 : Int32)) cap2 := fun k hk => rfl
    refine own_go (fun t_ k_ => XS.iload A129.here hx rfl (hb hby d1_56) rfl k_) ?_
    show own_Go _ _ _ _ (T128.setTop (mkF m 58 #[.val (.int (Int32.ofNat nr)), .val (.int (Int32.ofNat nc)), .val (.ref b4), .val (.ref b101), .val (.int (0 : Int32))] [(.int (0 : Int32))]))
    refine own_go (fun t_ k_ => XS.iloadN A129.here hx rfl (hb hby d1_58) rfl k_) ?_
    show own_Go _ _ _ _ (T128.setTop (mkF m 59 #[.val (.int (Int32.ofNat nr)), .val (.int (Int32.ofNat nc)), .val (.ref b4), .val (.ref b101), .val (.int (0 : Int32))] [(.int (Int32.ofNat nr)), (.int (0 : Int32))]))
    by_cases hc158 : (0 : Int32) < (Int32.ofNat nr)
    ·
      refine own_go (fun t_ k_ => XS.icmpNo A129.here hx rfl (hb hby d1_59) rfl (tlt hc158).2.1 k_) ?_
      show own_Go _ _ _ _ (T128.setTop (mkF m 62 #[.val (.int (Int32.ofNat nr)), .val (.int (Int32.ofNat nc)), .val (.ref b4), .val (.ref b101), .val (.int (0 : Int32))] []))
      have hi0 : 0 < nr := (own_nlt (i := 0) (by decide) (by omega)).mp hc158
      have fit0 : (own_rows 0 x1).length + (own_sep 0).length + x1.length ≤ cap2 := by rw [ec2]; exact own_rows_fit 0 nr x1 hi0
      refine own_go (fun t_ k_ => XS.aloadN A129.here hx rfl (hb hby d1_62) rfl rfl k_) ?_
      show own_Go _ _ _ _ (T128.setTop (mkF m 63 #[.val (.int (Int32.ofNat nr)), .val (.int (Int32.ofNat nc)), .val (.ref b4), .val (.ref b101), .val (.int (0 : Int32))] [(.ref b101)]))
      refine own_go (fun t_ k_ => XS.iload A129.here hx rfl (hb hby d1_63) rfl k_) ?_
      show own_Go _ _ _ _ (T128.setTop (mkF m 65 #[.val (.int (Int32.ofNat nr)), .val (.int (Int32.ofNat nc)), .val (.ref b4), .val (.ref b101), .val (.int (0 : Int32))] [(.int (0 : Int32)), (.ref b101)]))
      have hc159 : (0 : Int32) = (0 : Int32) := (by decide)
      refine own_go (fun t_ k_ => XS.ifNo A129.here hx rfl (hb hby d1_65) rfl ((if0 _ _).trans (teq hc159).2) k_) ?_
      show own_Go _ _ _ _ (T128.setTop (mkF m 68 #[.val (.int (Int32.ofNat nr)), .val (.int (Int32.ofNat nc)), .val (.ref b4), .val (.ref b101), .val (.int (0 : Int32))] [(.ref b101)]))
      refine own_ldcL A129 hx hZ hown (hw _ (List.mem_of_getElem? (i := 164) rfl)) (own_wS hw) hEL (by decide) C143 hST Y144 (xs := []) (z := (0 : Int32)) ⟨by decide +kernel, by decide +kernel⟩ (by decide) rfl rfl (hb hby d1_68) 0 (by decide +kernel) (by decide) (by decide) (by decide) (fun T160 h162 b163 b164 vm165 k166 A161 E167 R168 hS169 hk170 hZ hown NE171 Lt176 X172 F173 F174 V175 => ?_)
      have K177 : Keep h130 h162 [] := (Keep.refl _ _).ext E167
      have C178 : CHr Z consts_1 s.vm h0 vm165 h162 := C143.trans R168
      have K179 : Keep h0 h162 [] := K145.trans K177 all0
      have O180 : Old Z n0 h162 := O146.keep K177 all0
      have Z181 : n0 ≤ h162.size := Nat.le_trans Z147 K177.1
      have E182 : Exa Z h162 b4 "java/lang/StringBuilder" := E148.keep K177
      have sf183 : Safe Z consts_1 vm165 h162 b4 := R168.safe E148.lt sf149
      have sf184 : Safe Z consts_1 vm165 h162 v1 := R168.safe V155.lt sf150
      have F185 : Fld Z h162 b4 "java/lang/AbstractStringBuilder" "maybeLatin1" "Z" (.int (0 : Int32)) := F151.keep K177 nin0
      have F186 : Fld Z h162 b4 "java/lang/AbstractStringBuilder" "value" "[B" (.ref v1) := F152.keep K177 nin0
      have F187 : Fld Z h162 b4 "java/lang/AbstractStringBuilder" "coder" "B" (.int (0 : Int32)) := F153.keep K177 nin0
      have F188 : Fld Z h162 b4 "java/lang/AbstractStringBuilder" "count" "I" (.int (Int32.ofNat x1.length)) := F154.keep K177 nin0
      have V189 : own_Arr Z h162 v1 .byte (Int32.ofNat cp) fz97 := V155.keep K177 nin0
      have sf190 : Safe Z consts_1 vm165 h162 b101 := R168.safe E157.lt sf156
      have E191 : Exa Z h162 b101 "java/lang/StringBuilder" := E157.keep K177
      have sf192 : Safe Z consts_1 vm165 h162 t134 := R168.safe X142.lt sf_t134
      have E193 : Exa Z h162 t134 "[B" := X142.keep K177
      have F194 : Fld Z h162 b101 "java/lang/AbstractStringBuilder" "maybeLatin1" "Z" (.int (0 : Int32)) := F140.keep K177 nin0
      have F195 : Fld Z h162 b101 "java/lang/AbstractStringBuilder" "value" "[B" (.ref t134) := F137.keep K177 nin0
      have F196 : Fld Z h162 b101 "java/lang/AbstractStringBuilder" "coder" "B" (.int (0 : Int32)) := F138.keep K177 nin0
      have F197 : Fld Z h162 b101 "java/lang/AbstractStringBuilder" "count" "I" (.int (Int32.ofNat (own_rows 0 x1).length)) := F139.keep K177 nin0
      have V198 : own_Arr Z h162 t134 .byte (Int32.ofNat cap2) (fun _ => 0) := V141.keep K177 nin0
      obtain ⟨ne_b4_b163, ne_b4_b164⟩ := NE171 _ sf183
      obtain ⟨ne_v1_b163, ne_v1_b164⟩ := NE171 _ sf184
      obtain ⟨ne_b101_b163, ne_b101_b164⟩ := NE171 _ sf190
      obtain ⟨ne_t134_b163, ne_t134_b164⟩ := NE171 _ sf192
      show own_Go _ _ _ _ (T160.setTop (mkF m 70 #[.val (.int (Int32.ofNat nr)), .val (.int (Int32.ofNat nc)), .val (.ref b4), .val (.ref b101), .val (.int (0 : Int32))] [(.ref b163), (.ref b101)]))
      refine own_go (fun t_ k_ => XS.goto A161.here hx rfl (pc0 := 70) (pc' := 75) rfl (hb hby d1_70) (by decide) (by decide) k_) ?_
      show own_Go _ _ _ _ (T160.setTop (mkF m 75 #[.val (.int (Int32.ofNat nr)), .val (.int (Int32.ofNat nc)), .val (.ref b4), .val (.ref b101), .val (.int (0 : Int32))] [(.ref b163), (.ref b101)]))
      refine own_callV A161 hx hZ (y := (⟨"java/lang/StringBuilder", "append", "(Ljava/lang/String;)Ljava/lang/StringBuilder;"⟩ : MethodName)) (z := (⟨"java/lang/StringBuilder", "append", "(Ljava/lang/String;)Ljava/lang/StringBuilder;"⟩ : MethodName)) hown (hw _ (List.mem_of_getElem? (i := 88) rfl)) (hw _ (List.mem_of_getElem? (i := 53) rfl)) (hw _ (List.mem_of_getElem? (i := 55) rfl)) (hw _ (List.mem_of_getElem? (i := 54) rfl)) (hw _ (List.mem_of_getElem? (i := 6) rfl)) (hw _ (List.mem_of_getElem? (i := 56) rfl)) (notFace_of_selects (args := #[]) (mvT hZ (hw _ (List.mem_of_getElem? (i := 55) rfl)))) (by decide) (b := b101) (argsL := [(.ref b163)]) (rest := []) E191 (rm8 l Z a0 hw b101 b163 z_C b164 (fun j => ([] : List Int32).getD j.toNatClampNeg 0) ([] : List Int32) (fun _ => 0) (own_rows 0 x1).length cap2 t134 h162 n0 (S_COMPACT_STRINGS.ext O180.2) hz E191 F195 F196 F197 F194 V198 (by omega) X172 F173 F174 V175 gt135 g_b101 (Ne.symm ne_b101_t134) ne_t134_b163 ne_t134_b164 ne_b101_b163 ne_b101_b164 (own_bytS _ (by decide) (by decide +kernel)) Y20 (show (own_rows 0 x1).length + (own_sep 0).length ≤ cap2 by omega)) 0 (by decide) (by decide) rfl (by rw [hml]; rfl) (lenOf pd__Ljava_lang_String__Ljava_lang_StringBuilder_ rfl) rfl (by show 2 * 0 + _ ≤ _; exact Nat.le_of_eq rfl) (hb hby d1_75) (by decide) (by decide) (fun v202 T199 h201 A200 hQ203 => ?_)
      obtain ⟨rfl, K204, F205, F206, F207, F208, V209⟩ := hQ203
      have C210 : CHr Z consts_1 s.vm h0 vm165 h201 := C178.trans (CHr.keep K204 (sfS sf190 (sfS sf192 sf0)) C178.1)
      have K211 : Keep h0 h201 [] := K179.trans K204 (allS (Or.inr nw_b101) (allS (Or.inr nw_t134) all0))
      have O212 : Old Z n0 h201 := O180.keep K204 (allS g_b101 (allS gt135 all0))
      have Z213 : n0 ≤ h201.size := Nat.le_trans Z181 K204.1
      have E214 : Exa Z h201 b4 "java/lang/StringBuilder" := E182.keep K204
      have sf215 : Safe Z consts_1 vm165 h201 b4 := Safe.keep K204 (sfS sf190 (sfS sf192 sf0)) C178.1 sf183
      have sf216 : Safe Z consts_1 vm165 h201 v1 := Safe.keep K204 (sfS sf190 (sfS sf192 sf0)) C178.1 sf184
      have F217 : Fld Z h201 b4 "java/lang/AbstractStringBuilder" "maybeLatin1" "Z" (.int (0 : Int32)) := F185.keep K204 (ninS ne_b4_b101 (ninS ne_b4_t134 nin0))
      have F218 : Fld Z h201 b4 "java/lang/AbstractStringBuilder" "value" "[B" (.ref v1) := F186.keep K204 (ninS ne_b4_b101 (ninS ne_b4_t134 nin0))
      have F219 : Fld Z h201 b4 "java/lang/AbstractStringBuilder" "coder" "B" (.int (0 : Int32)) := F187.keep K204 (ninS ne_b4_b101 (ninS ne_b4_t134 nin0))
      have F220 : Fld Z h201 b4 "java/lang/AbstractStringBuilder" "count" "I" (.int (Int32.ofNat x1.length)) := F188.keep K204 (ninS ne_b4_b101 (ninS ne_b4_t134 nin0))
      have V221 : own_Arr Z h201 v1 .byte (Int32.ofNat cp) fz97 := V189.keep K204 (ninS ne_v1_b101 (ninS ne_v1_t134 nin0))
      have sf222 : Safe Z consts_1 vm165 h201 b101 := Safe.keep K204 (sfS sf190 (sfS sf192 sf0)) C178.1 sf190
      have E223 : Exa Z h201 b101 "java/lang/StringBuilder" := E191.keep K204
      have sf224 : Safe Z consts_1 vm165 h201 t134 := Safe.keep K204 (sfS sf190 (sfS sf192 sf0)) C178.1 sf192
      have E225 : Exa Z h201 t134 "[B" := E193.keep K204
      have Y226 : k166 ≤ h201.size := Nat.le_trans hk170 K204.1
      have E227 : Exa Z h201 b163 "java/lang/String" := X172.keep K204
      have F228 : Fld Z h201 b163 "java/lang/String" "coder" "B" (.int (0 : Int32)) := F173.keep K204 (ninS (Ne.symm ne_b101_b163) (ninS (Ne.symm ne_t134_b163) nin0))
      have F229 : Fld Z h201 b163 "java/lang/String" "value" "[B" (.ref b164) := F174.keep K204 (ninS (Ne.symm ne_b101_b163) (ninS (Ne.symm ne_t134_b163) nin0))
      have V230 : own_Arr Z h201 b164 .byte (0 : Int32) (fun j => ([] : List Int32).getD j.toNatClampNeg 0) := V175.keep K204 (ninS (Ne.symm ne_b101_b164) (ninS (Ne.symm ne_t134_b164) nin0))
      have P231 : own_Pre (own_cpf (fun j => ([] : List Int32).getD j.toNatClampNeg 0) 0 (own_rows 0 x1).length ([] : List Int32).length (fun _ => 0)) (own_rows 0 x1 ++ own_sep 0) := own_Pre.app (ys := own_rows 0 x1) (xs := own_sep 0) P20 (own_preS _ (by decide)) (by have := fit0; omega)
      have Y232 : own_Byt (own_cpf (fun j => ([] : List Int32).getD j.toNatClampNeg 0) 0 (own_rows 0 x1).length ([] : List Int32).length (fun _ => 0)) cap2 := own_Byt.cp Y20 (own_bytS _ (by decide) (by decide +kernel)) (by decide) (by omega)
      have F233 : Fld Z h201 b101 "java/lang/AbstractStringBuilder" "count" "I" (.int (Int32.ofNat (own_rows 0 x1 ++ own_sep 0).length)) := by rw [List.length_append]; exact F207
      generalize (own_cpf (fun j => ([] : List Int32).getD j.toNatClampNeg 0) 0 (own_rows 0 x1).length ([] : List Int32).length (fun _ => 0)) = fz234 at V209 P231 Y232
      show own_Go _ _ _ _ (T199.setTop (mkF m 78 #[.val (.int (Int32.ofNat nr)), .val (.int (Int32.ofNat nc)), .val (.ref b4), .val (.ref b101), .val (.int (0 : Int32))] [(.ref b101)]))
      refine own_go (fun t_ k_ => XS.aloadN A200.here hx rfl (hb hby d1_78) rfl rfl k_) ?_
      show own_Go _ _ _ _ (T199.setTop (mkF m 79 #[.val (.int (Int32.ofNat nr)), .val (.int (Int32.ofNat nc)), .val (.ref b4), .val (.ref b101), .val (.int (0 : Int32))] [(.ref b4), (.ref b101)]))
      refine own_callV A200 hx hZ (y := (⟨"java/lang/StringBuilder", "append", "(Ljava/lang/CharSequence;)Ljava/lang/StringBuilder;"⟩ : MethodName)) (z := (⟨"java/lang/StringBuilder", "append", "(Ljava/lang/CharSequence;)Ljava/lang/StringBuilder;"⟩ : MethodName)) hown (hw _ (List.mem_of_getElem? (i := 165) rfl)) (hw _ (List.mem_of_getElem? (i := 166) rfl)) (hw _ (List.mem_of_getElem? (i := 168) rfl)) (hw _ (List.mem_of_getElem? (i := 167) rfl)) (hw _ (List.mem_of_getElem? (i := 6) rfl)) (hw _ (List.mem_of_getElem? (i := 169) rfl)) (notFace_of_selects (args := #[]) (mvT hZ (hw _ (List.mem_of_getElem? (i := 168) rfl)))) (by decide) (b := b101) (argsL := [(.ref b4)]) (rest := []) E223 (rm28 l Z a0 hw b101 b4 z_C v1 fz97 x1 fz234 (own_rows 0 x1 ++ own_sep 0).length cap2 cp t134 h201 n0 (S_COMPACT_STRINGS.ext O212.2) hz E223 F205 F206 F233 F208 V209 (by omega) E214 F218 F219 F220 F217 V221 (by omega) (by omega) Y95 gt135 g_b101 (Ne.symm ne_b101_t134) (Ne.symm ne_b4_t134) (Ne.symm ne_v1_t134) (Ne.symm ne_b4_b101) (Ne.symm ne_v1_b101) Y232 (by rw [List.length_append]; exact fit0)) 0 (by decide) (by decide) rfl (by rw [hml]; rfl) (lenOf pd__Ljava_lang_CharSequence__Ljava_lang_StringBuilder_ rfl) rfl (by show 2 * 0 + _ ≤ _; exact Nat.le_of_eq rfl) (hb hby d1_79) (by decide) (by decide) (fun v238 T235 h237 A236 hQ239 => ?_)
      obtain ⟨rfl, K240, F241, F242, F243, F244, V245⟩ := hQ239
      have C246 : CHr Z consts_1 s.vm h0 vm165 h237 := C210.trans (CHr.keep K240 (sfS sf222 (sfS sf224 sf0)) C210.1)
      have K247 : Keep h0 h237 [] := K211.trans K240 (allS (Or.inr nw_b101) (allS (Or.inr nw_t134) all0))
      have O248 : Old Z n0 h237 := O212.keep K240 (allS g_b101 (allS gt135 all0))
      have Z249 : n0 ≤ h237.size := Nat.le_trans Z213 K240.1
      have E250 : Exa Z h237 b4 "java/lang/StringBuilder" := E214.keep K240
      have sf251 : Safe Z consts_1 vm165 h237 b4 := Safe.keep K240 (sfS sf222 (sfS sf224 sf0)) C210.1 sf215
      have sf252 : Safe Z consts_1 vm165 h237 v1 := Safe.keep K240 (sfS sf222 (sfS sf224 sf0)) C210.1 sf216
      have F253 : Fld Z h237 b4 "java/lang/AbstractStringBuilder" "maybeLatin1" "Z" (.int (0 : Int32)) := F217.keep K240 (ninS ne_b4_b101 (ninS ne_b4_t134 nin0))
      have F254 : Fld Z h237 b4 "java/lang/AbstractStringBuilder" "value" "[B" (.ref v1) := F218.keep K240 (ninS ne_b4_b101 (ninS ne_b4_t134 nin0))
      have F255 : Fld Z h237 b4 "java/lang/AbstractStringBuilder" "coder" "B" (.int (0 : Int32)) := F219.keep K240 (ninS ne_b4_b101 (ninS ne_b4_t134 nin0))
      have F256 : Fld Z h237 b4 "java/lang/AbstractStringBuilder" "count" "I" (.int (Int32.ofNat x1.length)) := F220.keep K240 (ninS ne_b4_b101 (ninS ne_b4_t134 nin0))
      have V257 : own_Arr Z h237 v1 .byte (Int32.ofNat cp) fz97 := V221.keep K240 (ninS ne_v1_b101 (ninS ne_v1_t134 nin0))
      have sf258 : Safe Z consts_1 vm165 h237 b101 := Safe.keep K240 (sfS sf222 (sfS sf224 sf0)) C210.1 sf222
      have E259 : Exa Z h237 b101 "java/lang/StringBuilder" := E223.keep K240
      have sf260 : Safe Z consts_1 vm165 h237 t134 := Safe.keep K240 (sfS sf222 (sfS sf224 sf0)) C210.1 sf224
      have E261 : Exa Z h237 t134 "[B" := E225.keep K240
      have Y262 : k166 ≤ h237.size := Nat.le_trans Y226 K240.1
      have E263 : Exa Z h237 b163 "java/lang/String" := E227.keep K240
      have F264 : Fld Z h237 b163 "java/lang/String" "coder" "B" (.int (0 : Int32)) := F228.keep K240 (ninS (Ne.symm ne_b101_b163) (ninS (Ne.symm ne_t134_b163) nin0))
      have F265 : Fld Z h237 b163 "java/lang/String" "value" "[B" (.ref b164) := F229.keep K240 (ninS (Ne.symm ne_b101_b163) (ninS (Ne.symm ne_t134_b163) nin0))
      have V266 : own_Arr Z h237 b164 .byte (0 : Int32) (fun j => ([] : List Int32).getD j.toNatClampNeg 0) := V230.keep K240 (ninS (Ne.symm ne_b101_b164) (ninS (Ne.symm ne_t134_b164) nin0))
      have P267 : own_Pre (own_cpf fz97 0 (own_rows 0 x1 ++ own_sep 0).length x1.length fz234) (own_rows 1 x1) := by rw [show own_rows 1 x1 = (own_rows 0 x1 ++ own_sep 0) ++ x1 from rfl]; exact own_Pre.app (ys := own_rows 0 x1 ++ own_sep 0) (xs := x1) P231 P94 (by rw [List.length_append]; have := fit0; omega)
      have Y268 : own_Byt (own_cpf fz97 0 (own_rows 0 x1 ++ own_sep 0).length x1.length fz234) cap2 := own_Byt.cp Y232 Y95 (by omega) (by omega)
      have F269 : Fld Z h237 b101 "java/lang/AbstractStringBuilder" "count" "I" (.int (Int32.ofNat (own_rows 1 x1).length)) := by rw [show own_rows 1 x1 = (own_rows 0 x1 ++ own_sep 0) ++ x1 from rfl, List.length_append]; exact F243
      generalize (own_cpf fz97 0 (own_rows 0 x1 ++ own_sep 0).length x1.length fz234) = fz270 at V245 P267 Y268
      show own_Go _ _ _ _ (T235.setTop (mkF m 82 #[.val (.int (Int32.ofNat nr)), .val (.int (Int32.ofNat nc)), .val (.ref b4), .val (.ref b101), .val (.int (0 : Int32))] [(.ref b101)]))
      refine own_go (fun t_ k_ => XS.pop A236.here hx rfl (hb hby d1_82) rfl rfl k_) ?_
      show own_Go _ _ _ _ (T235.setTop (mkF m 83 #[.val (.int (Int32.ofNat nr)), .val (.int (Int32.ofNat nc)), .val (.ref b4), .val (.ref b101), .val (.int (0 : Int32))] []))
      refine own_go (fun t_ k_ => XS.iinc A236.here hx rfl (hb hby d1_83) rfl (l' := #[.val (.int (Int32.ofNat nr)), .val (.int (Int32.ofNat nc)), .val (.ref b4), .val (.ref b101), .val (.int (1 : Int32))]) rfl k_) ?_
      show own_Go _ _ _ _ (T235.setTop (mkF m 86 #[.val (.int (Int32.ofNat nr)), .val (.int (Int32.ofNat nc)), .val (.ref b4), .val (.ref b101), .val (.int (1 : Int32))] []))
      refine own_go (fun t_ k_ => XS.goto A236.here hx rfl (pc0 := 86) (pc' := 56) rfl (hb hby d1_86) (by decide) (by decide) k_) ?_
      show own_Go _ _ _ _ (T235.setTop (mkF m 56 #[.val (.int (Int32.ofNat nr)), .val (.int (Int32.ofNat nc)), .val (.ref b4), .val (.ref b101), .val (.int (1 : Int32))] []))
      refine own_go (fun t_ k_ => XS.iload A236.here hx rfl (hb hby d1_56) rfl k_) ?_
      show own_Go _ _ _ _ (T235.setTop (mkF m 58 #[.val (.int (Int32.ofNat nr)), .val (.int (Int32.ofNat nc)), .val (.ref b4), .val (.ref b101), .val (.int (1 : Int32))] [(.int (1 : Int32))]))
      refine own_go (fun t_ k_ => XS.iloadN A236.here hx rfl (hb hby d1_58) rfl k_) ?_
      show own_Go _ _ _ _ (T235.setTop (mkF m 59 #[.val (.int (Int32.ofNat nr)), .val (.int (Int32.ofNat nc)), .val (.ref b4), .val (.ref b101), .val (.int (1 : Int32))] [(.int (Int32.ofNat nr)), (.int (1 : Int32))]))
      by_cases hc271 : (1 : Int32) < (Int32.ofNat nr)
      ·
        refine own_go (fun t_ k_ => XS.icmpNo A236.here hx rfl (hb hby d1_59) rfl (tlt hc271).2.1 k_) ?_
        show own_Go _ _ _ _ (T235.setTop (mkF m 62 #[.val (.int (Int32.ofNat nr)), .val (.int (Int32.ofNat nc)), .val (.ref b4), .val (.ref b101), .val (.int (1 : Int32))] []))
        have hi1 : 1 < nr := (own_nlt (i := 1) (by decide) (by omega)).mp hc271
        have fit1 : (own_rows 1 x1).length + (own_sep 1).length + x1.length ≤ cap2 := by rw [ec2]; exact own_rows_fit 1 nr x1 hi1
        refine own_go (fun t_ k_ => XS.aloadN A236.here hx rfl (hb hby d1_62) rfl rfl k_) ?_
        show own_Go _ _ _ _ (T235.setTop (mkF m 63 #[.val (.int (Int32.ofNat nr)), .val (.int (Int32.ofNat nc)), .val (.ref b4), .val (.ref b101), .val (.int (1 : Int32))] [(.ref b101)]))
        refine own_go (fun t_ k_ => XS.iload A236.here hx rfl (hb hby d1_63) rfl k_) ?_
        show own_Go _ _ _ _ (T235.setTop (mkF m 65 #[.val (.int (Int32.ofNat nr)), .val (.int (Int32.ofNat nc)), .val (.ref b4), .val (.ref b101), .val (.int (1 : Int32))] [(.int (1 : Int32)), (.ref b101)]))
        have hc272 : ¬ ((1 : Int32) = (0 : Int32)) := (by decide)
        refine own_go (fun t_ k_ => XS.ifYes A236.here hx rfl (pc0 := 65) (pc' := 73) rfl (hb hby d1_65) rfl ((if0 _ _).trans (feq hc272).2) (by decide) (by decide) k_) ?_
        show own_Go _ _ _ _ (T235.setTop (mkF m 73 #[.val (.int (Int32.ofNat nr)), .val (.int (Int32.ofNat nc)), .val (.ref b4), .val (.ref b101), .val (.int (1 : Int32))] [(.ref b101)]))
        refine own_ldcL A236 hx hZ hown (hw _ (List.mem_of_getElem? (i := 239) rfl)) (own_wS hw) hEL (by decide) C246 hS169 Y262 (xs := [44, 32]) (z := (2 : Int32)) ⟨by decide +kernel, by decide +kernel⟩ (by decide) rfl rfl (hb hby d1_73) 8 (by decide +kernel) (by decide) (by decide) (by decide) (fun T273 h275 b276 b277 vm278 k279 A274 E280 R281 hS282 hk283 hZ hown NE284 Lt289 X285 F286 F287 V288 => ?_)
        have K290 : Keep h237 h275 [] := (Keep.refl _ _).ext E280
        have C291 : CHr Z consts_1 s.vm h0 vm278 h275 := C246.trans R281
        have K292 : Keep h0 h275 [] := K247.trans K290 all0
        have O293 : Old Z n0 h275 := O248.keep K290 all0
        have Z294 : n0 ≤ h275.size := Nat.le_trans Z249 K290.1
        have E295 : Exa Z h275 b4 "java/lang/StringBuilder" := E250.keep K290
        have sf296 : Safe Z consts_1 vm278 h275 b4 := R281.safe E250.lt sf251
        have sf297 : Safe Z consts_1 vm278 h275 v1 := R281.safe V257.lt sf252
        have F298 : Fld Z h275 b4 "java/lang/AbstractStringBuilder" "maybeLatin1" "Z" (.int (0 : Int32)) := F253.keep K290 nin0
        have F299 : Fld Z h275 b4 "java/lang/AbstractStringBuilder" "value" "[B" (.ref v1) := F254.keep K290 nin0
        have F300 : Fld Z h275 b4 "java/lang/AbstractStringBuilder" "coder" "B" (.int (0 : Int32)) := F255.keep K290 nin0
        have F301 : Fld Z h275 b4 "java/lang/AbstractStringBuilder" "count" "I" (.int (Int32.ofNat x1.length)) := F256.keep K290 nin0
        have V302 : own_Arr Z h275 v1 .byte (Int32.ofNat cp) fz97 := V257.keep K290 nin0
        have sf303 : Safe Z consts_1 vm278 h275 b101 := R281.safe E259.lt sf258
        have E304 : Exa Z h275 b101 "java/lang/StringBuilder" := E259.keep K290
        have sf305 : Safe Z consts_1 vm278 h275 t134 := R281.safe E261.lt sf260
        have E306 : Exa Z h275 t134 "[B" := E261.keep K290
        have E307 : Exa Z h275 b163 "java/lang/String" := E263.keep K290
        have F308 : Fld Z h275 b163 "java/lang/String" "coder" "B" (.int (0 : Int32)) := F264.keep K290 nin0
        have F309 : Fld Z h275 b163 "java/lang/String" "value" "[B" (.ref b164) := F265.keep K290 nin0
        have V310 : own_Arr Z h275 b164 .byte (0 : Int32) (fun j => ([] : List Int32).getD j.toNatClampNeg 0) := V266.keep K290 nin0
        have F311 : Fld Z h275 b101 "java/lang/AbstractStringBuilder" "maybeLatin1" "Z" (.int (0 : Int32)) := F244.keep K290 nin0
        have F312 : Fld Z h275 b101 "java/lang/AbstractStringBuilder" "value" "[B" (.ref t134) := F241.keep K290 nin0
        have F313 : Fld Z h275 b101 "java/lang/AbstractStringBuilder" "coder" "B" (.int (0 : Int32)) := F242.keep K290 nin0
        have F314 : Fld Z h275 b101 "java/lang/AbstractStringBuilder" "count" "I" (.int (Int32.ofNat (own_rows 1 x1).length)) := F269.keep K290 nin0
        have V315 : own_Arr Z h275 t134 .byte (Int32.ofNat cap2) fz270 := V245.keep K290 nin0
        obtain ⟨ne_b4_b276, ne_b4_b277⟩ := NE284 _ sf296
        obtain ⟨ne_v1_b276, ne_v1_b277⟩ := NE284 _ sf297
        obtain ⟨ne_b101_b276, ne_b101_b277⟩ := NE284 _ sf303
        obtain ⟨ne_t134_b276, ne_t134_b277⟩ := NE284 _ sf305
        show own_Go _ _ _ _ (T273.setTop (mkF m 75 #[.val (.int (Int32.ofNat nr)), .val (.int (Int32.ofNat nc)), .val (.ref b4), .val (.ref b101), .val (.int (1 : Int32))] [(.ref b276), (.ref b101)]))
        refine own_callV A274 hx hZ (y := (⟨"java/lang/StringBuilder", "append", "(Ljava/lang/String;)Ljava/lang/StringBuilder;"⟩ : MethodName)) (z := (⟨"java/lang/StringBuilder", "append", "(Ljava/lang/String;)Ljava/lang/StringBuilder;"⟩ : MethodName)) hown (hw _ (List.mem_of_getElem? (i := 88) rfl)) (hw _ (List.mem_of_getElem? (i := 53) rfl)) (hw _ (List.mem_of_getElem? (i := 55) rfl)) (hw _ (List.mem_of_getElem? (i := 54) rfl)) (hw _ (List.mem_of_getElem? (i := 6) rfl)) (hw _ (List.mem_of_getElem? (i := 56) rfl)) (notFace_of_selects (args := #[]) (mvT hZ (hw _ (List.mem_of_getElem? (i := 55) rfl)))) (by decide) (b := b101) (argsL := [(.ref b276)]) (rest := []) E304 (rm8 l Z a0 hw b101 b276 z_C b277 (fun j => ([44, 32] : List Int32).getD j.toNatClampNeg 0) ([44, 32] : List Int32) fz270 (own_rows 1 x1).length cap2 t134 h275 n0 (S_COMPACT_STRINGS.ext O293.2) hz E304 F312 F313 F314 F311 V315 (by omega) X285 F286 F287 V288 gt135 g_b101 (Ne.symm ne_b101_t134) ne_t134_b276 ne_t134_b277 ne_b101_b276 ne_b101_b277 (own_bytS _ (by decide) (by decide +kernel)) Y268 (show (own_rows 1 x1).length + (own_sep 1).length ≤ cap2 by omega)) 0 (by decide) (by decide) rfl (by rw [hml]; rfl) (lenOf pd__Ljava_lang_String__Ljava_lang_StringBuilder_ rfl) rfl (by show 2 * 0 + _ ≤ _; exact Nat.le_of_eq rfl) (hb hby d1_75) (by decide) (by decide) (fun v319 T316 h318 A317 hQ320 => ?_)
        obtain ⟨rfl, K321, F322, F323, F324, F325, V326⟩ := hQ320
        have C327 : CHr Z consts_1 s.vm h0 vm278 h318 := C291.trans (CHr.keep K321 (sfS sf303 (sfS sf305 sf0)) C291.1)
        have K328 : Keep h0 h318 [] := K292.trans K321 (allS (Or.inr nw_b101) (allS (Or.inr nw_t134) all0))
        have O329 : Old Z n0 h318 := O293.keep K321 (allS g_b101 (allS gt135 all0))
        have Z330 : n0 ≤ h318.size := Nat.le_trans Z294 K321.1
        have E331 : Exa Z h318 b4 "java/lang/StringBuilder" := E295.keep K321
        have sf332 : Safe Z consts_1 vm278 h318 b4 := Safe.keep K321 (sfS sf303 (sfS sf305 sf0)) C291.1 sf296
        have sf333 : Safe Z consts_1 vm278 h318 v1 := Safe.keep K321 (sfS sf303 (sfS sf305 sf0)) C291.1 sf297
        have F334 : Fld Z h318 b4 "java/lang/AbstractStringBuilder" "maybeLatin1" "Z" (.int (0 : Int32)) := F298.keep K321 (ninS ne_b4_b101 (ninS ne_b4_t134 nin0))
        have F335 : Fld Z h318 b4 "java/lang/AbstractStringBuilder" "value" "[B" (.ref v1) := F299.keep K321 (ninS ne_b4_b101 (ninS ne_b4_t134 nin0))
        have F336 : Fld Z h318 b4 "java/lang/AbstractStringBuilder" "coder" "B" (.int (0 : Int32)) := F300.keep K321 (ninS ne_b4_b101 (ninS ne_b4_t134 nin0))
        have F337 : Fld Z h318 b4 "java/lang/AbstractStringBuilder" "count" "I" (.int (Int32.ofNat x1.length)) := F301.keep K321 (ninS ne_b4_b101 (ninS ne_b4_t134 nin0))
        have V338 : own_Arr Z h318 v1 .byte (Int32.ofNat cp) fz97 := V302.keep K321 (ninS ne_v1_b101 (ninS ne_v1_t134 nin0))
        have sf339 : Safe Z consts_1 vm278 h318 b101 := Safe.keep K321 (sfS sf303 (sfS sf305 sf0)) C291.1 sf303
        have E340 : Exa Z h318 b101 "java/lang/StringBuilder" := E304.keep K321
        have sf341 : Safe Z consts_1 vm278 h318 t134 := Safe.keep K321 (sfS sf303 (sfS sf305 sf0)) C291.1 sf305
        have E342 : Exa Z h318 t134 "[B" := E306.keep K321
        have E343 : Exa Z h318 b163 "java/lang/String" := E307.keep K321
        have F344 : Fld Z h318 b163 "java/lang/String" "coder" "B" (.int (0 : Int32)) := F308.keep K321 (ninS (Ne.symm ne_b101_b163) (ninS (Ne.symm ne_t134_b163) nin0))
        have F345 : Fld Z h318 b163 "java/lang/String" "value" "[B" (.ref b164) := F309.keep K321 (ninS (Ne.symm ne_b101_b163) (ninS (Ne.symm ne_t134_b163) nin0))
        have V346 : own_Arr Z h318 b164 .byte (0 : Int32) (fun j => ([] : List Int32).getD j.toNatClampNeg 0) := V310.keep K321 (ninS (Ne.symm ne_b101_b164) (ninS (Ne.symm ne_t134_b164) nin0))
        have Y347 : k279 ≤ h318.size := Nat.le_trans hk283 K321.1
        have E348 : Exa Z h318 b276 "java/lang/String" := X285.keep K321
        have F349 : Fld Z h318 b276 "java/lang/String" "coder" "B" (.int (0 : Int32)) := F286.keep K321 (ninS (Ne.symm ne_b101_b276) (ninS (Ne.symm ne_t134_b276) nin0))
        have F350 : Fld Z h318 b276 "java/lang/String" "value" "[B" (.ref b277) := F287.keep K321 (ninS (Ne.symm ne_b101_b276) (ninS (Ne.symm ne_t134_b276) nin0))
        have V351 : own_Arr Z h318 b277 .byte (2 : Int32) (fun j => ([44, 32] : List Int32).getD j.toNatClampNeg 0) := V288.keep K321 (ninS (Ne.symm ne_b101_b277) (ninS (Ne.symm ne_t134_b277) nin0))
        have P352 : own_Pre (own_cpf (fun j => ([44, 32] : List Int32).getD j.toNatClampNeg 0) 0 (own_rows 1 x1).length ([44, 32] : List Int32).length fz270) (own_rows 1 x1 ++ own_sep 1) := own_Pre.app (ys := own_rows 1 x1) (xs := own_sep 1) P267 (own_preS _ (by decide)) (by have := fit1; omega)
        have Y353 : own_Byt (own_cpf (fun j => ([44, 32] : List Int32).getD j.toNatClampNeg 0) 0 (own_rows 1 x1).length ([44, 32] : List Int32).length fz270) cap2 := own_Byt.cp Y268 (own_bytS _ (by decide) (by decide +kernel)) (by decide) (by omega)
        have F354 : Fld Z h318 b101 "java/lang/AbstractStringBuilder" "count" "I" (.int (Int32.ofNat (own_rows 1 x1 ++ own_sep 1).length)) := by rw [List.length_append]; exact F324
        generalize (own_cpf (fun j => ([44, 32] : List Int32).getD j.toNatClampNeg 0) 0 (own_rows 1 x1).length ([44, 32] : List Int32).length fz270) = fz355 at V326 P352 Y353
        show own_Go _ _ _ _ (T316.setTop (mkF m 78 #[.val (.int (Int32.ofNat nr)), .val (.int (Int32.ofNat nc)), .val (.ref b4), .val (.ref b101), .val (.int (1 : Int32))] [(.ref b101)]))
        refine own_go (fun t_ k_ => XS.aloadN A317.here hx rfl (hb hby d1_78) rfl rfl k_) ?_
        show own_Go _ _ _ _ (T316.setTop (mkF m 79 #[.val (.int (Int32.ofNat nr)), .val (.int (Int32.ofNat nc)), .val (.ref b4), .val (.ref b101), .val (.int (1 : Int32))] [(.ref b4), (.ref b101)]))
        refine own_callV A317 hx hZ (y := (⟨"java/lang/StringBuilder", "append", "(Ljava/lang/CharSequence;)Ljava/lang/StringBuilder;"⟩ : MethodName)) (z := (⟨"java/lang/StringBuilder", "append", "(Ljava/lang/CharSequence;)Ljava/lang/StringBuilder;"⟩ : MethodName)) hown (hw _ (List.mem_of_getElem? (i := 165) rfl)) (hw _ (List.mem_of_getElem? (i := 166) rfl)) (hw _ (List.mem_of_getElem? (i := 168) rfl)) (hw _ (List.mem_of_getElem? (i := 167) rfl)) (hw _ (List.mem_of_getElem? (i := 6) rfl)) (hw _ (List.mem_of_getElem? (i := 169) rfl)) (notFace_of_selects (args := #[]) (mvT hZ (hw _ (List.mem_of_getElem? (i := 168) rfl)))) (by decide) (b := b101) (argsL := [(.ref b4)]) (rest := []) E340 (rm28 l Z a0 hw b101 b4 z_C v1 fz97 x1 fz355 (own_rows 1 x1 ++ own_sep 1).length cap2 cp t134 h318 n0 (S_COMPACT_STRINGS.ext O329.2) hz E340 F322 F323 F354 F325 V326 (by omega) E331 F335 F336 F337 F334 V338 (by omega) (by omega) Y95 gt135 g_b101 (Ne.symm ne_b101_t134) (Ne.symm ne_b4_t134) (Ne.symm ne_v1_t134) (Ne.symm ne_b4_b101) (Ne.symm ne_v1_b101) Y353 (by rw [List.length_append]; exact fit1)) 0 (by decide) (by decide) rfl (by rw [hml]; rfl) (lenOf pd__Ljava_lang_CharSequence__Ljava_lang_StringBuilder_ rfl) rfl (by show 2 * 0 + _ ≤ _; exact Nat.le_of_eq rfl) (hb hby d1_79) (by decide) (by decide) (fun v359 T356 h358 A357 hQ360 => ?_)
        obtain ⟨rfl, K361, F362, F363, F364, F365, V366⟩ := hQ360
        have C367 : CHr Z consts_1 s.vm h0 vm278 h358 := C327.trans (CHr.keep K361 (sfS sf339 (sfS sf341 sf0)) C327.1)
        have K368 : Keep h0 h358 [] := K328.trans K361 (allS (Or.inr nw_b101) (allS (Or.inr nw_t134) all0))
        have O369 : Old Z n0 h358 := O329.keep K361 (allS g_b101 (allS gt135 all0))
        have Z370 : n0 ≤ h358.size := Nat.le_trans Z330 K361.1
        have E371 : Exa Z h358 b4 "java/lang/StringBuilder" := E331.keep K361
        have sf372 : Safe Z consts_1 vm278 h358 b4 := Safe.keep K361 (sfS sf339 (sfS sf341 sf0)) C327.1 sf332
        have sf373 : Safe Z consts_1 vm278 h358 v1 := Safe.keep K361 (sfS sf339 (sfS sf341 sf0)) C327.1 sf333
        have F374 : Fld Z h358 b4 "java/lang/AbstractStringBuilder" "maybeLatin1" "Z" (.int (0 : Int32)) := F334.keep K361 (ninS ne_b4_b101 (ninS ne_b4_t134 nin0))
        have F375 : Fld Z h358 b4 "java/lang/AbstractStringBuilder" "value" "[B" (.ref v1) := F335.keep K361 (ninS ne_b4_b101 (ninS ne_b4_t134 nin0))
        have F376 : Fld Z h358 b4 "java/lang/AbstractStringBuilder" "coder" "B" (.int (0 : Int32)) := F336.keep K361 (ninS ne_b4_b101 (ninS ne_b4_t134 nin0))
        have F377 : Fld Z h358 b4 "java/lang/AbstractStringBuilder" "count" "I" (.int (Int32.ofNat x1.length)) := F337.keep K361 (ninS ne_b4_b101 (ninS ne_b4_t134 nin0))
        have V378 : own_Arr Z h358 v1 .byte (Int32.ofNat cp) fz97 := V338.keep K361 (ninS ne_v1_b101 (ninS ne_v1_t134 nin0))
        have sf379 : Safe Z consts_1 vm278 h358 b101 := Safe.keep K361 (sfS sf339 (sfS sf341 sf0)) C327.1 sf339
        have E380 : Exa Z h358 b101 "java/lang/StringBuilder" := E340.keep K361
        have sf381 : Safe Z consts_1 vm278 h358 t134 := Safe.keep K361 (sfS sf339 (sfS sf341 sf0)) C327.1 sf341
        have E382 : Exa Z h358 t134 "[B" := E342.keep K361
        have E383 : Exa Z h358 b163 "java/lang/String" := E343.keep K361
        have F384 : Fld Z h358 b163 "java/lang/String" "coder" "B" (.int (0 : Int32)) := F344.keep K361 (ninS (Ne.symm ne_b101_b163) (ninS (Ne.symm ne_t134_b163) nin0))
        have F385 : Fld Z h358 b163 "java/lang/String" "value" "[B" (.ref b164) := F345.keep K361 (ninS (Ne.symm ne_b101_b163) (ninS (Ne.symm ne_t134_b163) nin0))
        have V386 : own_Arr Z h358 b164 .byte (0 : Int32) (fun j => ([] : List Int32).getD j.toNatClampNeg 0) := V346.keep K361 (ninS (Ne.symm ne_b101_b164) (ninS (Ne.symm ne_t134_b164) nin0))
        have Y387 : k279 ≤ h358.size := Nat.le_trans Y347 K361.1
        have E388 : Exa Z h358 b276 "java/lang/String" := E348.keep K361
        have F389 : Fld Z h358 b276 "java/lang/String" "coder" "B" (.int (0 : Int32)) := F349.keep K361 (ninS (Ne.symm ne_b101_b276) (ninS (Ne.symm ne_t134_b276) nin0))
        have F390 : Fld Z h358 b276 "java/lang/String" "value" "[B" (.ref b277) := F350.keep K361 (ninS (Ne.symm ne_b101_b276) (ninS (Ne.symm ne_t134_b276) nin0))
        have V391 : own_Arr Z h358 b277 .byte (2 : Int32) (fun j => ([44, 32] : List Int32).getD j.toNatClampNeg 0) := V351.keep K361 (ninS (Ne.symm ne_b101_b277) (ninS (Ne.symm ne_t134_b277) nin0))
        have P392 : own_Pre (own_cpf fz97 0 (own_rows 1 x1 ++ own_sep 1).length x1.length fz355) (own_rows 2 x1) := by rw [show own_rows 2 x1 = (own_rows 1 x1 ++ own_sep 1) ++ x1 from rfl]; exact own_Pre.app (ys := own_rows 1 x1 ++ own_sep 1) (xs := x1) P352 P94 (by rw [List.length_append]; have := fit1; omega)
        have Y393 : own_Byt (own_cpf fz97 0 (own_rows 1 x1 ++ own_sep 1).length x1.length fz355) cap2 := own_Byt.cp Y353 Y95 (by omega) (by omega)
        have F394 : Fld Z h358 b101 "java/lang/AbstractStringBuilder" "count" "I" (.int (Int32.ofNat (own_rows 2 x1).length)) := by rw [show own_rows 2 x1 = (own_rows 1 x1 ++ own_sep 1) ++ x1 from rfl, List.length_append]; exact F364
        generalize (own_cpf fz97 0 (own_rows 1 x1 ++ own_sep 1).length x1.length fz355) = fz395 at V366 P392 Y393
        show own_Go _ _ _ _ (T356.setTop (mkF m 82 #[.val (.int (Int32.ofNat nr)), .val (.int (Int32.ofNat nc)), .val (.ref b4), .val (.ref b101), .val (.int (1 : Int32))] [(.ref b101)]))
        refine own_go (fun t_ k_ => XS.pop A357.here hx rfl (hb hby d1_82) rfl rfl k_) ?_
        show own_Go _ _ _ _ (T356.setTop (mkF m 83 #[.val (.int (Int32.ofNat nr)), .val (.int (Int32.ofNat nc)), .val (.ref b4), .val (.ref b101), .val (.int (1 : Int32))] []))
        refine own_go (fun t_ k_ => XS.iinc A357.here hx rfl (hb hby d1_83) rfl (l' := #[.val (.int (Int32.ofNat nr)), .val (.int (Int32.ofNat nc)), .val (.ref b4), .val (.ref b101), .val (.int (2 : Int32))]) rfl k_) ?_
        show own_Go _ _ _ _ (T356.setTop (mkF m 86 #[.val (.int (Int32.ofNat nr)), .val (.int (Int32.ofNat nc)), .val (.ref b4), .val (.ref b101), .val (.int (2 : Int32))] []))
        refine own_go (fun t_ k_ => XS.goto A357.here hx rfl (pc0 := 86) (pc' := 56) rfl (hb hby d1_86) (by decide) (by decide) k_) ?_
        show own_Go _ _ _ _ (T356.setTop (mkF m 56 #[.val (.int (Int32.ofNat nr)), .val (.int (Int32.ofNat nc)), .val (.ref b4), .val (.ref b101), .val (.int (2 : Int32))] []))
        refine own_go (fun t_ k_ => XS.iload A357.here hx rfl (hb hby d1_56) rfl k_) ?_
        show own_Go _ _ _ _ (T356.setTop (mkF m 58 #[.val (.int (Int32.ofNat nr)), .val (.int (Int32.ofNat nc)), .val (.ref b4), .val (.ref b101), .val (.int (2 : Int32))] [(.int (2 : Int32))]))
        refine own_go (fun t_ k_ => XS.iloadN A357.here hx rfl (hb hby d1_58) rfl k_) ?_
        show own_Go _ _ _ _ (T356.setTop (mkF m 59 #[.val (.int (Int32.ofNat nr)), .val (.int (Int32.ofNat nc)), .val (.ref b4), .val (.ref b101), .val (.int (2 : Int32))] [(.int (Int32.ofNat nr)), (.int (2 : Int32))]))
        by_cases hc396 : (2 : Int32) < (Int32.ofNat nr)
        ·
          refine own_go (fun t_ k_ => XS.icmpNo A357.here hx rfl (hb hby d1_59) rfl (tlt hc396).2.1 k_) ?_
          show own_Go _ _ _ _ (T356.setTop (mkF m 62 #[.val (.int (Int32.ofNat nr)), .val (.int (Int32.ofNat nc)), .val (.ref b4), .val (.ref b101), .val (.int (2 : Int32))] []))
          have hi2 : 2 < nr := (own_nlt (i := 2) (by decide) (by omega)).mp hc396
          have fit2 : (own_rows 2 x1).length + (own_sep 2).length + x1.length ≤ cap2 := by rw [ec2]; exact own_rows_fit 2 nr x1 hi2
          refine own_go (fun t_ k_ => XS.aloadN A357.here hx rfl (hb hby d1_62) rfl rfl k_) ?_
          show own_Go _ _ _ _ (T356.setTop (mkF m 63 #[.val (.int (Int32.ofNat nr)), .val (.int (Int32.ofNat nc)), .val (.ref b4), .val (.ref b101), .val (.int (2 : Int32))] [(.ref b101)]))
          refine own_go (fun t_ k_ => XS.iload A357.here hx rfl (hb hby d1_63) rfl k_) ?_
          show own_Go _ _ _ _ (T356.setTop (mkF m 65 #[.val (.int (Int32.ofNat nr)), .val (.int (Int32.ofNat nc)), .val (.ref b4), .val (.ref b101), .val (.int (2 : Int32))] [(.int (2 : Int32)), (.ref b101)]))
          have hc397 : ¬ ((2 : Int32) = (0 : Int32)) := (by decide)
          refine own_go (fun t_ k_ => XS.ifYes A357.here hx rfl (pc0 := 65) (pc' := 73) rfl (hb hby d1_65) rfl ((if0 _ _).trans (feq hc397).2) (by decide) (by decide) k_) ?_
          show own_Go _ _ _ _ (T356.setTop (mkF m 73 #[.val (.int (Int32.ofNat nr)), .val (.int (Int32.ofNat nc)), .val (.ref b4), .val (.ref b101), .val (.int (2 : Int32))] [(.ref b101)]))
          refine own_ldcA A357 hx hZ hown (hw _ (List.mem_of_getElem? (i := 239) rfl)) Lt289 rfl (hb hby d1_73) ?_
          show own_Go _ _ _ _ (T356.setTop (mkF m 75 #[.val (.int (Int32.ofNat nr)), .val (.int (Int32.ofNat nc)), .val (.ref b4), .val (.ref b101), .val (.int (2 : Int32))] [(.ref b276), (.ref b101)]))
          refine own_callV A357 hx hZ (y := (⟨"java/lang/StringBuilder", "append", "(Ljava/lang/String;)Ljava/lang/StringBuilder;"⟩ : MethodName)) (z := (⟨"java/lang/StringBuilder", "append", "(Ljava/lang/String;)Ljava/lang/StringBuilder;"⟩ : MethodName)) hown (hw _ (List.mem_of_getElem? (i := 88) rfl)) (hw _ (List.mem_of_getElem? (i := 53) rfl)) (hw _ (List.mem_of_getElem? (i := 55) rfl)) (hw _ (List.mem_of_getElem? (i := 54) rfl)) (hw _ (List.mem_of_getElem? (i := 6) rfl)) (hw _ (List.mem_of_getElem? (i := 56) rfl)) (notFace_of_selects (args := #[]) (mvT hZ (hw _ (List.mem_of_getElem? (i := 55) rfl)))) (by decide) (b := b101) (argsL := [(.ref b276)]) (rest := []) E380 (rm8 l Z a0 hw b101 b276 z_C b277 (fun j => ([44, 32] : List Int32).getD j.toNatClampNeg 0) ([44, 32] : List Int32) fz395 (own_rows 2 x1).length cap2 t134 h358 n0 (S_COMPACT_STRINGS.ext O369.2) hz E380 F362 F363 F394 F365 V366 (by omega) E388 F389 F390 V391 gt135 g_b101 (Ne.symm ne_b101_t134) ne_t134_b276 ne_t134_b277 ne_b101_b276 ne_b101_b277 (own_bytS _ (by decide) (by decide +kernel)) Y393 (show (own_rows 2 x1).length + (own_sep 2).length ≤ cap2 by omega)) 0 (by decide) (by decide) rfl (by rw [hml]; rfl) (lenOf pd__Ljava_lang_String__Ljava_lang_StringBuilder_ rfl) rfl (by show 2 * 0 + _ ≤ _; exact Nat.le_of_eq rfl) (hb hby d1_75) (by decide) (by decide) (fun v401 T398 h400 A399 hQ402 => ?_)
          obtain ⟨rfl, K403, F404, F405, F406, F407, V408⟩ := hQ402
          have C409 : CHr Z consts_1 s.vm h0 vm278 h400 := C367.trans (CHr.keep K403 (sfS sf379 (sfS sf381 sf0)) C367.1)
          have K410 : Keep h0 h400 [] := K368.trans K403 (allS (Or.inr nw_b101) (allS (Or.inr nw_t134) all0))
          have O411 : Old Z n0 h400 := O369.keep K403 (allS g_b101 (allS gt135 all0))
          have Z412 : n0 ≤ h400.size := Nat.le_trans Z370 K403.1
          have E413 : Exa Z h400 b4 "java/lang/StringBuilder" := E371.keep K403
          have sf414 : Safe Z consts_1 vm278 h400 b4 := Safe.keep K403 (sfS sf379 (sfS sf381 sf0)) C367.1 sf372
          have sf415 : Safe Z consts_1 vm278 h400 v1 := Safe.keep K403 (sfS sf379 (sfS sf381 sf0)) C367.1 sf373
          have F416 : Fld Z h400 b4 "java/lang/AbstractStringBuilder" "maybeLatin1" "Z" (.int (0 : Int32)) := F374.keep K403 (ninS ne_b4_b101 (ninS ne_b4_t134 nin0))
          have F417 : Fld Z h400 b4 "java/lang/AbstractStringBuilder" "value" "[B" (.ref v1) := F375.keep K403 (ninS ne_b4_b101 (ninS ne_b4_t134 nin0))
          have F418 : Fld Z h400 b4 "java/lang/AbstractStringBuilder" "coder" "B" (.int (0 : Int32)) := F376.keep K403 (ninS ne_b4_b101 (ninS ne_b4_t134 nin0))
          have F419 : Fld Z h400 b4 "java/lang/AbstractStringBuilder" "count" "I" (.int (Int32.ofNat x1.length)) := F377.keep K403 (ninS ne_b4_b101 (ninS ne_b4_t134 nin0))
          have V420 : own_Arr Z h400 v1 .byte (Int32.ofNat cp) fz97 := V378.keep K403 (ninS ne_v1_b101 (ninS ne_v1_t134 nin0))
          have sf421 : Safe Z consts_1 vm278 h400 b101 := Safe.keep K403 (sfS sf379 (sfS sf381 sf0)) C367.1 sf379
          have E422 : Exa Z h400 b101 "java/lang/StringBuilder" := E380.keep K403
          have sf423 : Safe Z consts_1 vm278 h400 t134 := Safe.keep K403 (sfS sf379 (sfS sf381 sf0)) C367.1 sf381
          have E424 : Exa Z h400 t134 "[B" := E382.keep K403
          have E425 : Exa Z h400 b163 "java/lang/String" := E383.keep K403
          have F426 : Fld Z h400 b163 "java/lang/String" "coder" "B" (.int (0 : Int32)) := F384.keep K403 (ninS (Ne.symm ne_b101_b163) (ninS (Ne.symm ne_t134_b163) nin0))
          have F427 : Fld Z h400 b163 "java/lang/String" "value" "[B" (.ref b164) := F385.keep K403 (ninS (Ne.symm ne_b101_b163) (ninS (Ne.symm ne_t134_b163) nin0))
          have V428 : own_Arr Z h400 b164 .byte (0 : Int32) (fun j => ([] : List Int32).getD j.toNatClampNeg 0) := V386.keep K403 (ninS (Ne.symm ne_b101_b164) (ninS (Ne.symm ne_t134_b164) nin0))
          have Y429 : k279 ≤ h400.size := Nat.le_trans Y387 K403.1
          have E430 : Exa Z h400 b276 "java/lang/String" := E388.keep K403
          have F431 : Fld Z h400 b276 "java/lang/String" "coder" "B" (.int (0 : Int32)) := F389.keep K403 (ninS (Ne.symm ne_b101_b276) (ninS (Ne.symm ne_t134_b276) nin0))
          have F432 : Fld Z h400 b276 "java/lang/String" "value" "[B" (.ref b277) := F390.keep K403 (ninS (Ne.symm ne_b101_b276) (ninS (Ne.symm ne_t134_b276) nin0))
          have V433 : own_Arr Z h400 b277 .byte (2 : Int32) (fun j => ([44, 32] : List Int32).getD j.toNatClampNeg 0) := V391.keep K403 (ninS (Ne.symm ne_b101_b277) (ninS (Ne.symm ne_t134_b277) nin0))
          have P434 : own_Pre (own_cpf (fun j => ([44, 32] : List Int32).getD j.toNatClampNeg 0) 0 (own_rows 2 x1).length ([44, 32] : List Int32).length fz395) (own_rows 2 x1 ++ own_sep 2) := own_Pre.app (ys := own_rows 2 x1) (xs := own_sep 2) P392 (own_preS _ (by decide)) (by have := fit2; omega)
          have Y435 : own_Byt (own_cpf (fun j => ([44, 32] : List Int32).getD j.toNatClampNeg 0) 0 (own_rows 2 x1).length ([44, 32] : List Int32).length fz395) cap2 := own_Byt.cp Y393 (own_bytS _ (by decide) (by decide +kernel)) (by decide) (by omega)
          have F436 : Fld Z h400 b101 "java/lang/AbstractStringBuilder" "count" "I" (.int (Int32.ofNat (own_rows 2 x1 ++ own_sep 2).length)) := by rw [List.length_append]; exact F406
          generalize (own_cpf (fun j => ([44, 32] : List Int32).getD j.toNatClampNeg 0) 0 (own_rows 2 x1).length ([44, 32] : List Int32).length fz395) = fz437 at V408 P434 Y435
          show own_Go _ _ _ _ (T398.setTop (mkF m 78 #[.val (.int (Int32.ofNat nr)), .val (.int (Int32.ofNat nc)), .val (.ref b4), .val (.ref b101), .val (.int (2 : Int32))] [(.ref b101)]))
          refine own_go (fun t_ k_ => XS.aloadN A399.here hx rfl (hb hby d1_78) rfl rfl k_) ?_
          show own_Go _ _ _ _ (T398.setTop (mkF m 79 #[.val (.int (Int32.ofNat nr)), .val (.int (Int32.ofNat nc)), .val (.ref b4), .val (.ref b101), .val (.int (2 : Int32))] [(.ref b4), (.ref b101)]))
          refine own_callV A399 hx hZ (y := (⟨"java/lang/StringBuilder", "append", "(Ljava/lang/CharSequence;)Ljava/lang/StringBuilder;"⟩ : MethodName)) (z := (⟨"java/lang/StringBuilder", "append", "(Ljava/lang/CharSequence;)Ljava/lang/StringBuilder;"⟩ : MethodName)) hown (hw _ (List.mem_of_getElem? (i := 165) rfl)) (hw _ (List.mem_of_getElem? (i := 166) rfl)) (hw _ (List.mem_of_getElem? (i := 168) rfl)) (hw _ (List.mem_of_getElem? (i := 167) rfl)) (hw _ (List.mem_of_getElem? (i := 6) rfl)) (hw _ (List.mem_of_getElem? (i := 169) rfl)) (notFace_of_selects (args := #[]) (mvT hZ (hw _ (List.mem_of_getElem? (i := 168) rfl)))) (by decide) (b := b101) (argsL := [(.ref b4)]) (rest := []) E422 (rm28 l Z a0 hw b101 b4 z_C v1 fz97 x1 fz437 (own_rows 2 x1 ++ own_sep 2).length cap2 cp t134 h400 n0 (S_COMPACT_STRINGS.ext O411.2) hz E422 F404 F405 F436 F407 V408 (by omega) E413 F417 F418 F419 F416 V420 (by omega) (by omega) Y95 gt135 g_b101 (Ne.symm ne_b101_t134) (Ne.symm ne_b4_t134) (Ne.symm ne_v1_t134) (Ne.symm ne_b4_b101) (Ne.symm ne_v1_b101) Y435 (by rw [List.length_append]; exact fit2)) 0 (by decide) (by decide) rfl (by rw [hml]; rfl) (lenOf pd__Ljava_lang_CharSequence__Ljava_lang_StringBuilder_ rfl) rfl (by show 2 * 0 + _ ≤ _; exact Nat.le_of_eq rfl) (hb hby d1_79) (by decide) (by decide) (fun v441 T438 h440 A439 hQ442 => ?_)
          obtain ⟨rfl, K443, F444, F445, F446, F447, V448⟩ := hQ442
          have C449 : CHr Z consts_1 s.vm h0 vm278 h440 := C409.trans (CHr.keep K443 (sfS sf421 (sfS sf423 sf0)) C409.1)
          have K450 : Keep h0 h440 [] := K410.trans K443 (allS (Or.inr nw_b101) (allS (Or.inr nw_t134) all0))
          have O451 : Old Z n0 h440 := O411.keep K443 (allS g_b101 (allS gt135 all0))
          have Z452 : n0 ≤ h440.size := Nat.le_trans Z412 K443.1
          have E453 : Exa Z h440 b4 "java/lang/StringBuilder" := E413.keep K443
          have sf454 : Safe Z consts_1 vm278 h440 b4 := Safe.keep K443 (sfS sf421 (sfS sf423 sf0)) C409.1 sf414
          have sf455 : Safe Z consts_1 vm278 h440 v1 := Safe.keep K443 (sfS sf421 (sfS sf423 sf0)) C409.1 sf415
          have F456 : Fld Z h440 b4 "java/lang/AbstractStringBuilder" "maybeLatin1" "Z" (.int (0 : Int32)) := F416.keep K443 (ninS ne_b4_b101 (ninS ne_b4_t134 nin0))
          have F457 : Fld Z h440 b4 "java/lang/AbstractStringBuilder" "value" "[B" (.ref v1) := F417.keep K443 (ninS ne_b4_b101 (ninS ne_b4_t134 nin0))
          have F458 : Fld Z h440 b4 "java/lang/AbstractStringBuilder" "coder" "B" (.int (0 : Int32)) := F418.keep K443 (ninS ne_b4_b101 (ninS ne_b4_t134 nin0))
          have F459 : Fld Z h440 b4 "java/lang/AbstractStringBuilder" "count" "I" (.int (Int32.ofNat x1.length)) := F419.keep K443 (ninS ne_b4_b101 (ninS ne_b4_t134 nin0))
          have V460 : own_Arr Z h440 v1 .byte (Int32.ofNat cp) fz97 := V420.keep K443 (ninS ne_v1_b101 (ninS ne_v1_t134 nin0))
          have sf461 : Safe Z consts_1 vm278 h440 b101 := Safe.keep K443 (sfS sf421 (sfS sf423 sf0)) C409.1 sf421
          have E462 : Exa Z h440 b101 "java/lang/StringBuilder" := E422.keep K443
          have sf463 : Safe Z consts_1 vm278 h440 t134 := Safe.keep K443 (sfS sf421 (sfS sf423 sf0)) C409.1 sf423
          have E464 : Exa Z h440 t134 "[B" := E424.keep K443
          have E465 : Exa Z h440 b163 "java/lang/String" := E425.keep K443
          have F466 : Fld Z h440 b163 "java/lang/String" "coder" "B" (.int (0 : Int32)) := F426.keep K443 (ninS (Ne.symm ne_b101_b163) (ninS (Ne.symm ne_t134_b163) nin0))
          have F467 : Fld Z h440 b163 "java/lang/String" "value" "[B" (.ref b164) := F427.keep K443 (ninS (Ne.symm ne_b101_b163) (ninS (Ne.symm ne_t134_b163) nin0))
          have V468 : own_Arr Z h440 b164 .byte (0 : Int32) (fun j => ([] : List Int32).getD j.toNatClampNeg 0) := V428.keep K443 (ninS (Ne.symm ne_b101_b164) (ninS (Ne.symm ne_t134_b164) nin0))
          have Y469 : k279 ≤ h440.size := Nat.le_trans Y429 K443.1
          have E470 : Exa Z h440 b276 "java/lang/String" := E430.keep K443
          have F471 : Fld Z h440 b276 "java/lang/String" "coder" "B" (.int (0 : Int32)) := F431.keep K443 (ninS (Ne.symm ne_b101_b276) (ninS (Ne.symm ne_t134_b276) nin0))
          have F472 : Fld Z h440 b276 "java/lang/String" "value" "[B" (.ref b277) := F432.keep K443 (ninS (Ne.symm ne_b101_b276) (ninS (Ne.symm ne_t134_b276) nin0))
          have V473 : own_Arr Z h440 b277 .byte (2 : Int32) (fun j => ([44, 32] : List Int32).getD j.toNatClampNeg 0) := V433.keep K443 (ninS (Ne.symm ne_b101_b277) (ninS (Ne.symm ne_t134_b277) nin0))
          have P474 : own_Pre (own_cpf fz97 0 (own_rows 2 x1 ++ own_sep 2).length x1.length fz437) (own_rows 3 x1) := by rw [show own_rows 3 x1 = (own_rows 2 x1 ++ own_sep 2) ++ x1 from rfl]; exact own_Pre.app (ys := own_rows 2 x1 ++ own_sep 2) (xs := x1) P434 P94 (by rw [List.length_append]; have := fit2; omega)
          have Y475 : own_Byt (own_cpf fz97 0 (own_rows 2 x1 ++ own_sep 2).length x1.length fz437) cap2 := own_Byt.cp Y435 Y95 (by omega) (by omega)
          have F476 : Fld Z h440 b101 "java/lang/AbstractStringBuilder" "count" "I" (.int (Int32.ofNat (own_rows 3 x1).length)) := by rw [show own_rows 3 x1 = (own_rows 2 x1 ++ own_sep 2) ++ x1 from rfl, List.length_append]; exact F446
          generalize (own_cpf fz97 0 (own_rows 2 x1 ++ own_sep 2).length x1.length fz437) = fz477 at V448 P474 Y475
          show own_Go _ _ _ _ (T438.setTop (mkF m 82 #[.val (.int (Int32.ofNat nr)), .val (.int (Int32.ofNat nc)), .val (.ref b4), .val (.ref b101), .val (.int (2 : Int32))] [(.ref b101)]))
          refine own_go (fun t_ k_ => XS.pop A439.here hx rfl (hb hby d1_82) rfl rfl k_) ?_
          show own_Go _ _ _ _ (T438.setTop (mkF m 83 #[.val (.int (Int32.ofNat nr)), .val (.int (Int32.ofNat nc)), .val (.ref b4), .val (.ref b101), .val (.int (2 : Int32))] []))
          refine own_go (fun t_ k_ => XS.iinc A439.here hx rfl (hb hby d1_83) rfl (l' := #[.val (.int (Int32.ofNat nr)), .val (.int (Int32.ofNat nc)), .val (.ref b4), .val (.ref b101), .val (.int (3 : Int32))]) rfl k_) ?_
          show own_Go _ _ _ _ (T438.setTop (mkF m 86 #[.val (.int (Int32.ofNat nr)), .val (.int (Int32.ofNat nc)), .val (.ref b4), .val (.ref b101), .val (.int (3 : Int32))] []))
          refine own_go (fun t_ k_ => XS.goto A439.here hx rfl (pc0 := 86) (pc' := 56) rfl (hb hby d1_86) (by decide) (by decide) k_) ?_
          show own_Go _ _ _ _ (T438.setTop (mkF m 56 #[.val (.int (Int32.ofNat nr)), .val (.int (Int32.ofNat nc)), .val (.ref b4), .val (.ref b101), .val (.int (3 : Int32))] []))
          refine own_go (fun t_ k_ => XS.iload A439.here hx rfl (hb hby d1_56) rfl k_) ?_
          show own_Go _ _ _ _ (T438.setTop (mkF m 58 #[.val (.int (Int32.ofNat nr)), .val (.int (Int32.ofNat nc)), .val (.ref b4), .val (.ref b101), .val (.int (3 : Int32))] [(.int (3 : Int32))]))
          refine own_go (fun t_ k_ => XS.iloadN A439.here hx rfl (hb hby d1_58) rfl k_) ?_
          show own_Go _ _ _ _ (T438.setTop (mkF m 59 #[.val (.int (Int32.ofNat nr)), .val (.int (Int32.ofNat nc)), .val (.ref b4), .val (.ref b101), .val (.int (3 : Int32))] [(.int (Int32.ofNat nr)), (.int (3 : Int32))]))
          by_cases hc478 : (3 : Int32) < (Int32.ofNat nr)
          ·
            refine own_go (fun t_ k_ => XS.icmpNo A439.here hx rfl (hb hby d1_59) rfl (tlt hc478).2.1 k_) ?_
            show own_Go _ _ _ _ (T438.setTop (mkF m 62 #[.val (.int (Int32.ofNat nr)), .val (.int (Int32.ofNat nc)), .val (.ref b4), .val (.ref b101), .val (.int (3 : Int32))] []))
            have hi3 : 3 < nr := (own_nlt (i := 3) (by decide) (by omega)).mp hc478
            have fit3 : (own_rows 3 x1).length + (own_sep 3).length + x1.length ≤ cap2 := by rw [ec2]; exact own_rows_fit 3 nr x1 hi3
            refine own_go (fun t_ k_ => XS.aloadN A439.here hx rfl (hb hby d1_62) rfl rfl k_) ?_
            show own_Go _ _ _ _ (T438.setTop (mkF m 63 #[.val (.int (Int32.ofNat nr)), .val (.int (Int32.ofNat nc)), .val (.ref b4), .val (.ref b101), .val (.int (3 : Int32))] [(.ref b101)]))
            refine own_go (fun t_ k_ => XS.iload A439.here hx rfl (hb hby d1_63) rfl k_) ?_
            show own_Go _ _ _ _ (T438.setTop (mkF m 65 #[.val (.int (Int32.ofNat nr)), .val (.int (Int32.ofNat nc)), .val (.ref b4), .val (.ref b101), .val (.int (3 : Int32))] [(.int (3 : Int32)), (.ref b101)]))
            have hc479 : ¬ ((3 : Int32) = (0 : Int32)) := (by decide)
            refine own_go (fun t_ k_ => XS.ifYes A439.here hx rfl (pc0 := 65) (pc' := 73) rfl (hb hby d1_65) rfl ((if0 _ _).trans (feq hc479).2) (by decide) (by decide) k_) ?_
            show own_Go _ _ _ _ (T438.setTop (mkF m 73 #[.val (.int (Int32.ofNat nr)), .val (.int (Int32.ofNat nc)), .val (.ref b4), .val (.ref b101), .val (.int (3 : Int32))] [(.ref b101)]))
            refine own_ldcA A439 hx hZ hown (hw _ (List.mem_of_getElem? (i := 239) rfl)) Lt289 rfl (hb hby d1_73) ?_
            show own_Go _ _ _ _ (T438.setTop (mkF m 75 #[.val (.int (Int32.ofNat nr)), .val (.int (Int32.ofNat nc)), .val (.ref b4), .val (.ref b101), .val (.int (3 : Int32))] [(.ref b276), (.ref b101)]))
            refine own_callV A439 hx hZ (y := (⟨"java/lang/StringBuilder", "append", "(Ljava/lang/String;)Ljava/lang/StringBuilder;"⟩ : MethodName)) (z := (⟨"java/lang/StringBuilder", "append", "(Ljava/lang/String;)Ljava/lang/StringBuilder;"⟩ : MethodName)) hown (hw _ (List.mem_of_getElem? (i := 88) rfl)) (hw _ (List.mem_of_getElem? (i := 53) rfl)) (hw _ (List.mem_of_getElem? (i := 55) rfl)) (hw _ (List.mem_of_getElem? (i := 54) rfl)) (hw _ (List.mem_of_getElem? (i := 6) rfl)) (hw _ (List.mem_of_getElem? (i := 56) rfl)) (notFace_of_selects (args := #[]) (mvT hZ (hw _ (List.mem_of_getElem? (i := 55) rfl)))) (by decide) (b := b101) (argsL := [(.ref b276)]) (rest := []) E462 (rm8 l Z a0 hw b101 b276 z_C b277 (fun j => ([44, 32] : List Int32).getD j.toNatClampNeg 0) ([44, 32] : List Int32) fz477 (own_rows 3 x1).length cap2 t134 h440 n0 (S_COMPACT_STRINGS.ext O451.2) hz E462 F444 F445 F476 F447 V448 (by omega) E470 F471 F472 V473 gt135 g_b101 (Ne.symm ne_b101_t134) ne_t134_b276 ne_t134_b277 ne_b101_b276 ne_b101_b277 (own_bytS _ (by decide) (by decide +kernel)) Y475 (show (own_rows 3 x1).length + (own_sep 3).length ≤ cap2 by omega)) 0 (by decide) (by decide) rfl (by rw [hml]; rfl) (lenOf pd__Ljava_lang_String__Ljava_lang_StringBuilder_ rfl) rfl (by show 2 * 0 + _ ≤ _; exact Nat.le_of_eq rfl) (hb hby d1_75) (by decide) (by decide) (fun v483 T480 h482 A481 hQ484 => ?_)
            obtain ⟨rfl, K485, F486, F487, F488, F489, V490⟩ := hQ484
            have C491 : CHr Z consts_1 s.vm h0 vm278 h482 := C449.trans (CHr.keep K485 (sfS sf461 (sfS sf463 sf0)) C449.1)
            have K492 : Keep h0 h482 [] := K450.trans K485 (allS (Or.inr nw_b101) (allS (Or.inr nw_t134) all0))
            have O493 : Old Z n0 h482 := O451.keep K485 (allS g_b101 (allS gt135 all0))
            have Z494 : n0 ≤ h482.size := Nat.le_trans Z452 K485.1
            have E495 : Exa Z h482 b4 "java/lang/StringBuilder" := E453.keep K485
            have sf496 : Safe Z consts_1 vm278 h482 b4 := Safe.keep K485 (sfS sf461 (sfS sf463 sf0)) C449.1 sf454
            have sf497 : Safe Z consts_1 vm278 h482 v1 := Safe.keep K485 (sfS sf461 (sfS sf463 sf0)) C449.1 sf455
            have F498 : Fld Z h482 b4 "java/lang/AbstractStringBuilder" "maybeLatin1" "Z" (.int (0 : Int32)) := F456.keep K485 (ninS ne_b4_b101 (ninS ne_b4_t134 nin0))
            have F499 : Fld Z h482 b4 "java/lang/AbstractStringBuilder" "value" "[B" (.ref v1) := F457.keep K485 (ninS ne_b4_b101 (ninS ne_b4_t134 nin0))
            have F500 : Fld Z h482 b4 "java/lang/AbstractStringBuilder" "coder" "B" (.int (0 : Int32)) := F458.keep K485 (ninS ne_b4_b101 (ninS ne_b4_t134 nin0))
            have F501 : Fld Z h482 b4 "java/lang/AbstractStringBuilder" "count" "I" (.int (Int32.ofNat x1.length)) := F459.keep K485 (ninS ne_b4_b101 (ninS ne_b4_t134 nin0))
            have V502 : own_Arr Z h482 v1 .byte (Int32.ofNat cp) fz97 := V460.keep K485 (ninS ne_v1_b101 (ninS ne_v1_t134 nin0))
            have sf503 : Safe Z consts_1 vm278 h482 b101 := Safe.keep K485 (sfS sf461 (sfS sf463 sf0)) C449.1 sf461
            have E504 : Exa Z h482 b101 "java/lang/StringBuilder" := E462.keep K485
            have sf505 : Safe Z consts_1 vm278 h482 t134 := Safe.keep K485 (sfS sf461 (sfS sf463 sf0)) C449.1 sf463
            have E506 : Exa Z h482 t134 "[B" := E464.keep K485
            have E507 : Exa Z h482 b163 "java/lang/String" := E465.keep K485
            have F508 : Fld Z h482 b163 "java/lang/String" "coder" "B" (.int (0 : Int32)) := F466.keep K485 (ninS (Ne.symm ne_b101_b163) (ninS (Ne.symm ne_t134_b163) nin0))
            have F509 : Fld Z h482 b163 "java/lang/String" "value" "[B" (.ref b164) := F467.keep K485 (ninS (Ne.symm ne_b101_b163) (ninS (Ne.symm ne_t134_b163) nin0))
            have V510 : own_Arr Z h482 b164 .byte (0 : Int32) (fun j => ([] : List Int32).getD j.toNatClampNeg 0) := V468.keep K485 (ninS (Ne.symm ne_b101_b164) (ninS (Ne.symm ne_t134_b164) nin0))
            have Y511 : k279 ≤ h482.size := Nat.le_trans Y469 K485.1
            have E512 : Exa Z h482 b276 "java/lang/String" := E470.keep K485
            have F513 : Fld Z h482 b276 "java/lang/String" "coder" "B" (.int (0 : Int32)) := F471.keep K485 (ninS (Ne.symm ne_b101_b276) (ninS (Ne.symm ne_t134_b276) nin0))
            have F514 : Fld Z h482 b276 "java/lang/String" "value" "[B" (.ref b277) := F472.keep K485 (ninS (Ne.symm ne_b101_b276) (ninS (Ne.symm ne_t134_b276) nin0))
            have V515 : own_Arr Z h482 b277 .byte (2 : Int32) (fun j => ([44, 32] : List Int32).getD j.toNatClampNeg 0) := V473.keep K485 (ninS (Ne.symm ne_b101_b277) (ninS (Ne.symm ne_t134_b277) nin0))
            have P516 : own_Pre (own_cpf (fun j => ([44, 32] : List Int32).getD j.toNatClampNeg 0) 0 (own_rows 3 x1).length ([44, 32] : List Int32).length fz477) (own_rows 3 x1 ++ own_sep 3) := own_Pre.app (ys := own_rows 3 x1) (xs := own_sep 3) P474 (own_preS _ (by decide)) (by have := fit3; omega)
            have Y517 : own_Byt (own_cpf (fun j => ([44, 32] : List Int32).getD j.toNatClampNeg 0) 0 (own_rows 3 x1).length ([44, 32] : List Int32).length fz477) cap2 := own_Byt.cp Y475 (own_bytS _ (by decide) (by decide +kernel)) (by decide) (by omega)
            have F518 : Fld Z h482 b101 "java/lang/AbstractStringBuilder" "count" "I" (.int (Int32.ofNat (own_rows 3 x1 ++ own_sep 3).length)) := by rw [List.length_append]; exact F488
            generalize (own_cpf (fun j => ([44, 32] : List Int32).getD j.toNatClampNeg 0) 0 (own_rows 3 x1).length ([44, 32] : List Int32).length fz477) = fz519 at V490 P516 Y517
            show own_Go _ _ _ _ (T480.setTop (mkF m 78 #[.val (.int (Int32.ofNat nr)), .val (.int (Int32.ofNat nc)), .val (.ref b4), .val (.ref b101), .val (.int (3 : Int32))] [(.ref b101)]))
            refine own_go (fun t_ k_ => XS.aloadN A481.here hx rfl (hb hby d1_78) rfl rfl k_) ?_
            show own_Go _ _ _ _ (T480.setTop (mkF m 79 #[.val (.int (Int32.ofNat nr)), .val (.int (Int32.ofNat nc)), .val (.ref b4), .val (.ref b101), .val (.int (3 : Int32))] [(.ref b4), (.ref b101)]))
            refine own_callV A481 hx hZ (y := (⟨"java/lang/StringBuilder", "append", "(Ljava/lang/CharSequence;)Ljava/lang/StringBuilder;"⟩ : MethodName)) (z := (⟨"java/lang/StringBuilder", "append", "(Ljava/lang/CharSequence;)Ljava/lang/StringBuilder;"⟩ : MethodName)) hown (hw _ (List.mem_of_getElem? (i := 165) rfl)) (hw _ (List.mem_of_getElem? (i := 166) rfl)) (hw _ (List.mem_of_getElem? (i := 168) rfl)) (hw _ (List.mem_of_getElem? (i := 167) rfl)) (hw _ (List.mem_of_getElem? (i := 6) rfl)) (hw _ (List.mem_of_getElem? (i := 169) rfl)) (notFace_of_selects (args := #[]) (mvT hZ (hw _ (List.mem_of_getElem? (i := 168) rfl)))) (by decide) (b := b101) (argsL := [(.ref b4)]) (rest := []) E504 (rm28 l Z a0 hw b101 b4 z_C v1 fz97 x1 fz519 (own_rows 3 x1 ++ own_sep 3).length cap2 cp t134 h482 n0 (S_COMPACT_STRINGS.ext O493.2) hz E504 F486 F487 F518 F489 V490 (by omega) E495 F499 F500 F501 F498 V502 (by omega) (by omega) Y95 gt135 g_b101 (Ne.symm ne_b101_t134) (Ne.symm ne_b4_t134) (Ne.symm ne_v1_t134) (Ne.symm ne_b4_b101) (Ne.symm ne_v1_b101) Y517 (by rw [List.length_append]; exact fit3)) 0 (by decide) (by decide) rfl (by rw [hml]; rfl) (lenOf pd__Ljava_lang_CharSequence__Ljava_lang_StringBuilder_ rfl) rfl (by show 2 * 0 + _ ≤ _; exact Nat.le_of_eq rfl) (hb hby d1_79) (by decide) (by decide) (fun v523 T520 h522 A521 hQ524 => ?_)
            obtain ⟨rfl, K525, F526, F527, F528, F529, V530⟩ := hQ524
            have C531 : CHr Z consts_1 s.vm h0 vm278 h522 := C491.trans (CHr.keep K525 (sfS sf503 (sfS sf505 sf0)) C491.1)
            have K532 : Keep h0 h522 [] := K492.trans K525 (allS (Or.inr nw_b101) (allS (Or.inr nw_t134) all0))
            have O533 : Old Z n0 h522 := O493.keep K525 (allS g_b101 (allS gt135 all0))
            have Z534 : n0 ≤ h522.size := Nat.le_trans Z494 K525.1
            have E535 : Exa Z h522 b4 "java/lang/StringBuilder" := E495.keep K525
            have sf536 : Safe Z consts_1 vm278 h522 b4 := Safe.keep K525 (sfS sf503 (sfS sf505 sf0)) C491.1 sf496
            have sf537 : Safe Z consts_1 vm278 h522 v1 := Safe.keep K525 (sfS sf503 (sfS sf505 sf0)) C491.1 sf497
            have F538 : Fld Z h522 b4 "java/lang/AbstractStringBuilder" "maybeLatin1" "Z" (.int (0 : Int32)) := F498.keep K525 (ninS ne_b4_b101 (ninS ne_b4_t134 nin0))
            have F539 : Fld Z h522 b4 "java/lang/AbstractStringBuilder" "value" "[B" (.ref v1) := F499.keep K525 (ninS ne_b4_b101 (ninS ne_b4_t134 nin0))
            have F540 : Fld Z h522 b4 "java/lang/AbstractStringBuilder" "coder" "B" (.int (0 : Int32)) := F500.keep K525 (ninS ne_b4_b101 (ninS ne_b4_t134 nin0))
            have F541 : Fld Z h522 b4 "java/lang/AbstractStringBuilder" "count" "I" (.int (Int32.ofNat x1.length)) := F501.keep K525 (ninS ne_b4_b101 (ninS ne_b4_t134 nin0))
            have V542 : own_Arr Z h522 v1 .byte (Int32.ofNat cp) fz97 := V502.keep K525 (ninS ne_v1_b101 (ninS ne_v1_t134 nin0))
            have sf543 : Safe Z consts_1 vm278 h522 b101 := Safe.keep K525 (sfS sf503 (sfS sf505 sf0)) C491.1 sf503
            have E544 : Exa Z h522 b101 "java/lang/StringBuilder" := E504.keep K525
            have sf545 : Safe Z consts_1 vm278 h522 t134 := Safe.keep K525 (sfS sf503 (sfS sf505 sf0)) C491.1 sf505
            have E546 : Exa Z h522 t134 "[B" := E506.keep K525
            have E547 : Exa Z h522 b163 "java/lang/String" := E507.keep K525
            have F548 : Fld Z h522 b163 "java/lang/String" "coder" "B" (.int (0 : Int32)) := F508.keep K525 (ninS (Ne.symm ne_b101_b163) (ninS (Ne.symm ne_t134_b163) nin0))
            have F549 : Fld Z h522 b163 "java/lang/String" "value" "[B" (.ref b164) := F509.keep K525 (ninS (Ne.symm ne_b101_b163) (ninS (Ne.symm ne_t134_b163) nin0))
            have V550 : own_Arr Z h522 b164 .byte (0 : Int32) (fun j => ([] : List Int32).getD j.toNatClampNeg 0) := V510.keep K525 (ninS (Ne.symm ne_b101_b164) (ninS (Ne.symm ne_t134_b164) nin0))
            have Y551 : k279 ≤ h522.size := Nat.le_trans Y511 K525.1
            have E552 : Exa Z h522 b276 "java/lang/String" := E512.keep K525
            have F553 : Fld Z h522 b276 "java/lang/String" "coder" "B" (.int (0 : Int32)) := F513.keep K525 (ninS (Ne.symm ne_b101_b276) (ninS (Ne.symm ne_t134_b276) nin0))
            have F554 : Fld Z h522 b276 "java/lang/String" "value" "[B" (.ref b277) := F514.keep K525 (ninS (Ne.symm ne_b101_b276) (ninS (Ne.symm ne_t134_b276) nin0))
            have V555 : own_Arr Z h522 b277 .byte (2 : Int32) (fun j => ([44, 32] : List Int32).getD j.toNatClampNeg 0) := V515.keep K525 (ninS (Ne.symm ne_b101_b277) (ninS (Ne.symm ne_t134_b277) nin0))
            have P556 : own_Pre (own_cpf fz97 0 (own_rows 3 x1 ++ own_sep 3).length x1.length fz519) (own_rows 4 x1) := by rw [show own_rows 4 x1 = (own_rows 3 x1 ++ own_sep 3) ++ x1 from rfl]; exact own_Pre.app (ys := own_rows 3 x1 ++ own_sep 3) (xs := x1) P516 P94 (by rw [List.length_append]; have := fit3; omega)
            have Y557 : own_Byt (own_cpf fz97 0 (own_rows 3 x1 ++ own_sep 3).length x1.length fz519) cap2 := own_Byt.cp Y517 Y95 (by omega) (by omega)
            have F558 : Fld Z h522 b101 "java/lang/AbstractStringBuilder" "count" "I" (.int (Int32.ofNat (own_rows 4 x1).length)) := by rw [show own_rows 4 x1 = (own_rows 3 x1 ++ own_sep 3) ++ x1 from rfl, List.length_append]; exact F528
            generalize (own_cpf fz97 0 (own_rows 3 x1 ++ own_sep 3).length x1.length fz519) = fz559 at V530 P556 Y557
            show own_Go _ _ _ _ (T520.setTop (mkF m 82 #[.val (.int (Int32.ofNat nr)), .val (.int (Int32.ofNat nc)), .val (.ref b4), .val (.ref b101), .val (.int (3 : Int32))] [(.ref b101)]))
            refine own_go (fun t_ k_ => XS.pop A521.here hx rfl (hb hby d1_82) rfl rfl k_) ?_
            show own_Go _ _ _ _ (T520.setTop (mkF m 83 #[.val (.int (Int32.ofNat nr)), .val (.int (Int32.ofNat nc)), .val (.ref b4), .val (.ref b101), .val (.int (3 : Int32))] []))
            refine own_go (fun t_ k_ => XS.iinc A521.here hx rfl (hb hby d1_83) rfl (l' := #[.val (.int (Int32.ofNat nr)), .val (.int (Int32.ofNat nc)), .val (.ref b4), .val (.ref b101), .val (.int (4 : Int32))]) rfl k_) ?_
            show own_Go _ _ _ _ (T520.setTop (mkF m 86 #[.val (.int (Int32.ofNat nr)), .val (.int (Int32.ofNat nc)), .val (.ref b4), .val (.ref b101), .val (.int (4 : Int32))] []))
            refine own_go (fun t_ k_ => XS.goto A521.here hx rfl (pc0 := 86) (pc' := 56) rfl (hb hby d1_86) (by decide) (by decide) k_) ?_
            show own_Go _ _ _ _ (T520.setTop (mkF m 56 #[.val (.int (Int32.ofNat nr)), .val (.int (Int32.ofNat nc)), .val (.ref b4), .val (.ref b101), .val (.int (4 : Int32))] []))
            refine own_go (fun t_ k_ => XS.iload A521.here hx rfl (hb hby d1_56) rfl k_) ?_
            show own_Go _ _ _ _ (T520.setTop (mkF m 58 #[.val (.int (Int32.ofNat nr)), .val (.int (Int32.ofNat nc)), .val (.ref b4), .val (.ref b101), .val (.int (4 : Int32))] [(.int (4 : Int32))]))
            refine own_go (fun t_ k_ => XS.iloadN A521.here hx rfl (hb hby d1_58) rfl k_) ?_
            show own_Go _ _ _ _ (T520.setTop (mkF m 59 #[.val (.int (Int32.ofNat nr)), .val (.int (Int32.ofNat nc)), .val (.ref b4), .val (.ref b101), .val (.int (4 : Int32))] [(.int (Int32.ofNat nr)), (.int (4 : Int32))]))
            by_cases hc560 : (4 : Int32) < (Int32.ofNat nr)
            ·
              refine own_go (fun t_ k_ => XS.icmpNo A521.here hx rfl (hb hby d1_59) rfl (tlt hc560).2.1 k_) ?_
              show own_Go _ _ _ _ (T520.setTop (mkF m 62 #[.val (.int (Int32.ofNat nr)), .val (.int (Int32.ofNat nc)), .val (.ref b4), .val (.ref b101), .val (.int (4 : Int32))] []))
              have hi4 : 4 < nr := (own_nlt (i := 4) (by decide) (by omega)).mp hc560
              have fit4 : (own_rows 4 x1).length + (own_sep 4).length + x1.length ≤ cap2 := by rw [ec2]; exact own_rows_fit 4 nr x1 hi4
              refine own_go (fun t_ k_ => XS.aloadN A521.here hx rfl (hb hby d1_62) rfl rfl k_) ?_
              show own_Go _ _ _ _ (T520.setTop (mkF m 63 #[.val (.int (Int32.ofNat nr)), .val (.int (Int32.ofNat nc)), .val (.ref b4), .val (.ref b101), .val (.int (4 : Int32))] [(.ref b101)]))
              refine own_go (fun t_ k_ => XS.iload A521.here hx rfl (hb hby d1_63) rfl k_) ?_
              show own_Go _ _ _ _ (T520.setTop (mkF m 65 #[.val (.int (Int32.ofNat nr)), .val (.int (Int32.ofNat nc)), .val (.ref b4), .val (.ref b101), .val (.int (4 : Int32))] [(.int (4 : Int32)), (.ref b101)]))
              have hc561 : ¬ ((4 : Int32) = (0 : Int32)) := (by decide)
              refine own_go (fun t_ k_ => XS.ifYes A521.here hx rfl (pc0 := 65) (pc' := 73) rfl (hb hby d1_65) rfl ((if0 _ _).trans (feq hc561).2) (by decide) (by decide) k_) ?_
              show own_Go _ _ _ _ (T520.setTop (mkF m 73 #[.val (.int (Int32.ofNat nr)), .val (.int (Int32.ofNat nc)), .val (.ref b4), .val (.ref b101), .val (.int (4 : Int32))] [(.ref b101)]))
              refine own_ldcA A521 hx hZ hown (hw _ (List.mem_of_getElem? (i := 239) rfl)) Lt289 rfl (hb hby d1_73) ?_
              show own_Go _ _ _ _ (T520.setTop (mkF m 75 #[.val (.int (Int32.ofNat nr)), .val (.int (Int32.ofNat nc)), .val (.ref b4), .val (.ref b101), .val (.int (4 : Int32))] [(.ref b276), (.ref b101)]))
              refine own_callV A521 hx hZ (y := (⟨"java/lang/StringBuilder", "append", "(Ljava/lang/String;)Ljava/lang/StringBuilder;"⟩ : MethodName)) (z := (⟨"java/lang/StringBuilder", "append", "(Ljava/lang/String;)Ljava/lang/StringBuilder;"⟩ : MethodName)) hown (hw _ (List.mem_of_getElem? (i := 88) rfl)) (hw _ (List.mem_of_getElem? (i := 53) rfl)) (hw _ (List.mem_of_getElem? (i := 55) rfl)) (hw _ (List.mem_of_getElem? (i := 54) rfl)) (hw _ (List.mem_of_getElem? (i := 6) rfl)) (hw _ (List.mem_of_getElem? (i := 56) rfl)) (notFace_of_selects (args := #[]) (mvT hZ (hw _ (List.mem_of_getElem? (i := 55) rfl)))) (by decide) (b := b101) (argsL := [(.ref b276)]) (rest := []) E544 (rm8 l Z a0 hw b101 b276 z_C b277 (fun j => ([44, 32] : List Int32).getD j.toNatClampNeg 0) ([44, 32] : List Int32) fz559 (own_rows 4 x1).length cap2 t134 h522 n0 (S_COMPACT_STRINGS.ext O533.2) hz E544 F526 F527 F558 F529 V530 (by omega) E552 F553 F554 V555 gt135 g_b101 (Ne.symm ne_b101_t134) ne_t134_b276 ne_t134_b277 ne_b101_b276 ne_b101_b277 (own_bytS _ (by decide) (by decide +kernel)) Y557 (show (own_rows 4 x1).length + (own_sep 4).length ≤ cap2 by omega)) 0 (by decide) (by decide) rfl (by rw [hml]; rfl) (lenOf pd__Ljava_lang_String__Ljava_lang_StringBuilder_ rfl) rfl (by show 2 * 0 + _ ≤ _; exact Nat.le_of_eq rfl) (hb hby d1_75) (by decide) (by decide) (fun v565 T562 h564 A563 hQ566 => ?_)
              obtain ⟨rfl, K567, F568, F569, F570, F571, V572⟩ := hQ566
              have C573 : CHr Z consts_1 s.vm h0 vm278 h564 := C531.trans (CHr.keep K567 (sfS sf543 (sfS sf545 sf0)) C531.1)
              have K574 : Keep h0 h564 [] := K532.trans K567 (allS (Or.inr nw_b101) (allS (Or.inr nw_t134) all0))
              have O575 : Old Z n0 h564 := O533.keep K567 (allS g_b101 (allS gt135 all0))
              have Z576 : n0 ≤ h564.size := Nat.le_trans Z534 K567.1
              have E577 : Exa Z h564 b4 "java/lang/StringBuilder" := E535.keep K567
              have sf578 : Safe Z consts_1 vm278 h564 b4 := Safe.keep K567 (sfS sf543 (sfS sf545 sf0)) C531.1 sf536
              have sf579 : Safe Z consts_1 vm278 h564 v1 := Safe.keep K567 (sfS sf543 (sfS sf545 sf0)) C531.1 sf537
              have F580 : Fld Z h564 b4 "java/lang/AbstractStringBuilder" "maybeLatin1" "Z" (.int (0 : Int32)) := F538.keep K567 (ninS ne_b4_b101 (ninS ne_b4_t134 nin0))
              have F581 : Fld Z h564 b4 "java/lang/AbstractStringBuilder" "value" "[B" (.ref v1) := F539.keep K567 (ninS ne_b4_b101 (ninS ne_b4_t134 nin0))
              have F582 : Fld Z h564 b4 "java/lang/AbstractStringBuilder" "coder" "B" (.int (0 : Int32)) := F540.keep K567 (ninS ne_b4_b101 (ninS ne_b4_t134 nin0))
              have F583 : Fld Z h564 b4 "java/lang/AbstractStringBuilder" "count" "I" (.int (Int32.ofNat x1.length)) := F541.keep K567 (ninS ne_b4_b101 (ninS ne_b4_t134 nin0))
              have V584 : own_Arr Z h564 v1 .byte (Int32.ofNat cp) fz97 := V542.keep K567 (ninS ne_v1_b101 (ninS ne_v1_t134 nin0))
              have sf585 : Safe Z consts_1 vm278 h564 b101 := Safe.keep K567 (sfS sf543 (sfS sf545 sf0)) C531.1 sf543
              have E586 : Exa Z h564 b101 "java/lang/StringBuilder" := E544.keep K567
              have sf587 : Safe Z consts_1 vm278 h564 t134 := Safe.keep K567 (sfS sf543 (sfS sf545 sf0)) C531.1 sf545
              have E588 : Exa Z h564 t134 "[B" := E546.keep K567
              have E589 : Exa Z h564 b163 "java/lang/String" := E547.keep K567
              have F590 : Fld Z h564 b163 "java/lang/String" "coder" "B" (.int (0 : Int32)) := F548.keep K567 (ninS (Ne.symm ne_b101_b163) (ninS (Ne.symm ne_t134_b163) nin0))
              have F591 : Fld Z h564 b163 "java/lang/String" "value" "[B" (.ref b164) := F549.keep K567 (ninS (Ne.symm ne_b101_b163) (ninS (Ne.symm ne_t134_b163) nin0))
              have V592 : own_Arr Z h564 b164 .byte (0 : Int32) (fun j => ([] : List Int32).getD j.toNatClampNeg 0) := V550.keep K567 (ninS (Ne.symm ne_b101_b164) (ninS (Ne.symm ne_t134_b164) nin0))
              have Y593 : k279 ≤ h564.size := Nat.le_trans Y551 K567.1
              have E594 : Exa Z h564 b276 "java/lang/String" := E552.keep K567
              have F595 : Fld Z h564 b276 "java/lang/String" "coder" "B" (.int (0 : Int32)) := F553.keep K567 (ninS (Ne.symm ne_b101_b276) (ninS (Ne.symm ne_t134_b276) nin0))
              have F596 : Fld Z h564 b276 "java/lang/String" "value" "[B" (.ref b277) := F554.keep K567 (ninS (Ne.symm ne_b101_b276) (ninS (Ne.symm ne_t134_b276) nin0))
              have V597 : own_Arr Z h564 b277 .byte (2 : Int32) (fun j => ([44, 32] : List Int32).getD j.toNatClampNeg 0) := V555.keep K567 (ninS (Ne.symm ne_b101_b277) (ninS (Ne.symm ne_t134_b277) nin0))
              have P598 : own_Pre (own_cpf (fun j => ([44, 32] : List Int32).getD j.toNatClampNeg 0) 0 (own_rows 4 x1).length ([44, 32] : List Int32).length fz559) (own_rows 4 x1 ++ own_sep 4) := own_Pre.app (ys := own_rows 4 x1) (xs := own_sep 4) P556 (own_preS _ (by decide)) (by have := fit4; omega)
              have Y599 : own_Byt (own_cpf (fun j => ([44, 32] : List Int32).getD j.toNatClampNeg 0) 0 (own_rows 4 x1).length ([44, 32] : List Int32).length fz559) cap2 := own_Byt.cp Y557 (own_bytS _ (by decide) (by decide +kernel)) (by decide) (by omega)
              have F600 : Fld Z h564 b101 "java/lang/AbstractStringBuilder" "count" "I" (.int (Int32.ofNat (own_rows 4 x1 ++ own_sep 4).length)) := by rw [List.length_append]; exact F570
              generalize (own_cpf (fun j => ([44, 32] : List Int32).getD j.toNatClampNeg 0) 0 (own_rows 4 x1).length ([44, 32] : List Int32).length fz559) = fz601 at V572 P598 Y599
              show own_Go _ _ _ _ (T562.setTop (mkF m 78 #[.val (.int (Int32.ofNat nr)), .val (.int (Int32.ofNat nc)), .val (.ref b4), .val (.ref b101), .val (.int (4 : Int32))] [(.ref b101)]))
              refine own_go (fun t_ k_ => XS.aloadN A563.here hx rfl (hb hby d1_78) rfl rfl k_) ?_
              show own_Go _ _ _ _ (T562.setTop (mkF m 79 #[.val (.int (Int32.ofNat nr)), .val (.int (Int32.ofNat nc)), .val (.ref b4), .val (.ref b101), .val (.int (4 : Int32))] [(.ref b4), (.ref b101)]))
              refine own_callV A563 hx hZ (y := (⟨"java/lang/StringBuilder", "append", "(Ljava/lang/CharSequence;)Ljava/lang/StringBuilder;"⟩ : MethodName)) (z := (⟨"java/lang/StringBuilder", "append", "(Ljava/lang/CharSequence;)Ljava/lang/StringBuilder;"⟩ : MethodName)) hown (hw _ (List.mem_of_getElem? (i := 165) rfl)) (hw _ (List.mem_of_getElem? (i := 166) rfl)) (hw _ (List.mem_of_getElem? (i := 168) rfl)) (hw _ (List.mem_of_getElem? (i := 167) rfl)) (hw _ (List.mem_of_getElem? (i := 6) rfl)) (hw _ (List.mem_of_getElem? (i := 169) rfl)) (notFace_of_selects (args := #[]) (mvT hZ (hw _ (List.mem_of_getElem? (i := 168) rfl)))) (by decide) (b := b101) (argsL := [(.ref b4)]) (rest := []) E586 (rm28 l Z a0 hw b101 b4 z_C v1 fz97 x1 fz601 (own_rows 4 x1 ++ own_sep 4).length cap2 cp t134 h564 n0 (S_COMPACT_STRINGS.ext O575.2) hz E586 F568 F569 F600 F571 V572 (by omega) E577 F581 F582 F583 F580 V584 (by omega) (by omega) Y95 gt135 g_b101 (Ne.symm ne_b101_t134) (Ne.symm ne_b4_t134) (Ne.symm ne_v1_t134) (Ne.symm ne_b4_b101) (Ne.symm ne_v1_b101) Y599 (by rw [List.length_append]; exact fit4)) 0 (by decide) (by decide) rfl (by rw [hml]; rfl) (lenOf pd__Ljava_lang_CharSequence__Ljava_lang_StringBuilder_ rfl) rfl (by show 2 * 0 + _ ≤ _; exact Nat.le_of_eq rfl) (hb hby d1_79) (by decide) (by decide) (fun v605 T602 h604 A603 hQ606 => ?_)
              obtain ⟨rfl, K607, F608, F609, F610, F611, V612⟩ := hQ606
              have C613 : CHr Z consts_1 s.vm h0 vm278 h604 := C573.trans (CHr.keep K607 (sfS sf585 (sfS sf587 sf0)) C573.1)
              have K614 : Keep h0 h604 [] := K574.trans K607 (allS (Or.inr nw_b101) (allS (Or.inr nw_t134) all0))
              have O615 : Old Z n0 h604 := O575.keep K607 (allS g_b101 (allS gt135 all0))
              have Z616 : n0 ≤ h604.size := Nat.le_trans Z576 K607.1
              have E617 : Exa Z h604 b4 "java/lang/StringBuilder" := E577.keep K607
              have sf618 : Safe Z consts_1 vm278 h604 b4 := Safe.keep K607 (sfS sf585 (sfS sf587 sf0)) C573.1 sf578
              have sf619 : Safe Z consts_1 vm278 h604 v1 := Safe.keep K607 (sfS sf585 (sfS sf587 sf0)) C573.1 sf579
              have F620 : Fld Z h604 b4 "java/lang/AbstractStringBuilder" "maybeLatin1" "Z" (.int (0 : Int32)) := F580.keep K607 (ninS ne_b4_b101 (ninS ne_b4_t134 nin0))
              have F621 : Fld Z h604 b4 "java/lang/AbstractStringBuilder" "value" "[B" (.ref v1) := F581.keep K607 (ninS ne_b4_b101 (ninS ne_b4_t134 nin0))
              have F622 : Fld Z h604 b4 "java/lang/AbstractStringBuilder" "coder" "B" (.int (0 : Int32)) := F582.keep K607 (ninS ne_b4_b101 (ninS ne_b4_t134 nin0))
              have F623 : Fld Z h604 b4 "java/lang/AbstractStringBuilder" "count" "I" (.int (Int32.ofNat x1.length)) := F583.keep K607 (ninS ne_b4_b101 (ninS ne_b4_t134 nin0))
              have V624 : own_Arr Z h604 v1 .byte (Int32.ofNat cp) fz97 := V584.keep K607 (ninS ne_v1_b101 (ninS ne_v1_t134 nin0))
              have sf625 : Safe Z consts_1 vm278 h604 b101 := Safe.keep K607 (sfS sf585 (sfS sf587 sf0)) C573.1 sf585
              have E626 : Exa Z h604 b101 "java/lang/StringBuilder" := E586.keep K607
              have sf627 : Safe Z consts_1 vm278 h604 t134 := Safe.keep K607 (sfS sf585 (sfS sf587 sf0)) C573.1 sf587
              have E628 : Exa Z h604 t134 "[B" := E588.keep K607
              have E629 : Exa Z h604 b163 "java/lang/String" := E589.keep K607
              have F630 : Fld Z h604 b163 "java/lang/String" "coder" "B" (.int (0 : Int32)) := F590.keep K607 (ninS (Ne.symm ne_b101_b163) (ninS (Ne.symm ne_t134_b163) nin0))
              have F631 : Fld Z h604 b163 "java/lang/String" "value" "[B" (.ref b164) := F591.keep K607 (ninS (Ne.symm ne_b101_b163) (ninS (Ne.symm ne_t134_b163) nin0))
              have V632 : own_Arr Z h604 b164 .byte (0 : Int32) (fun j => ([] : List Int32).getD j.toNatClampNeg 0) := V592.keep K607 (ninS (Ne.symm ne_b101_b164) (ninS (Ne.symm ne_t134_b164) nin0))
              have Y633 : k279 ≤ h604.size := Nat.le_trans Y593 K607.1
              have E634 : Exa Z h604 b276 "java/lang/String" := E594.keep K607
              have F635 : Fld Z h604 b276 "java/lang/String" "coder" "B" (.int (0 : Int32)) := F595.keep K607 (ninS (Ne.symm ne_b101_b276) (ninS (Ne.symm ne_t134_b276) nin0))
              have F636 : Fld Z h604 b276 "java/lang/String" "value" "[B" (.ref b277) := F596.keep K607 (ninS (Ne.symm ne_b101_b276) (ninS (Ne.symm ne_t134_b276) nin0))
              have V637 : own_Arr Z h604 b277 .byte (2 : Int32) (fun j => ([44, 32] : List Int32).getD j.toNatClampNeg 0) := V597.keep K607 (ninS (Ne.symm ne_b101_b277) (ninS (Ne.symm ne_t134_b277) nin0))
              have P638 : own_Pre (own_cpf fz97 0 (own_rows 4 x1 ++ own_sep 4).length x1.length fz601) (own_rows 5 x1) := by rw [show own_rows 5 x1 = (own_rows 4 x1 ++ own_sep 4) ++ x1 from rfl]; exact own_Pre.app (ys := own_rows 4 x1 ++ own_sep 4) (xs := x1) P598 P94 (by rw [List.length_append]; have := fit4; omega)
              have Y639 : own_Byt (own_cpf fz97 0 (own_rows 4 x1 ++ own_sep 4).length x1.length fz601) cap2 := own_Byt.cp Y599 Y95 (by omega) (by omega)
              have F640 : Fld Z h604 b101 "java/lang/AbstractStringBuilder" "count" "I" (.int (Int32.ofNat (own_rows 5 x1).length)) := by rw [show own_rows 5 x1 = (own_rows 4 x1 ++ own_sep 4) ++ x1 from rfl, List.length_append]; exact F610
              generalize (own_cpf fz97 0 (own_rows 4 x1 ++ own_sep 4).length x1.length fz601) = fz641 at V612 P638 Y639
              show own_Go _ _ _ _ (T602.setTop (mkF m 82 #[.val (.int (Int32.ofNat nr)), .val (.int (Int32.ofNat nc)), .val (.ref b4), .val (.ref b101), .val (.int (4 : Int32))] [(.ref b101)]))
              refine own_go (fun t_ k_ => XS.pop A603.here hx rfl (hb hby d1_82) rfl rfl k_) ?_
              show own_Go _ _ _ _ (T602.setTop (mkF m 83 #[.val (.int (Int32.ofNat nr)), .val (.int (Int32.ofNat nc)), .val (.ref b4), .val (.ref b101), .val (.int (4 : Int32))] []))
              refine own_go (fun t_ k_ => XS.iinc A603.here hx rfl (hb hby d1_83) rfl (l' := #[.val (.int (Int32.ofNat nr)), .val (.int (Int32.ofNat nc)), .val (.ref b4), .val (.ref b101), .val (.int (5 : Int32))]) rfl k_) ?_
              show own_Go _ _ _ _ (T602.setTop (mkF m 86 #[.val (.int (Int32.ofNat nr)), .val (.int (Int32.ofNat nc)), .val (.ref b4), .val (.ref b101), .val (.int (5 : Int32))] []))
              refine own_go (fun t_ k_ => XS.goto A603.here hx rfl (pc0 := 86) (pc' := 56) rfl (hb hby d1_86) (by decide) (by decide) k_) ?_
              show own_Go _ _ _ _ (T602.setTop (mkF m 56 #[.val (.int (Int32.ofNat nr)), .val (.int (Int32.ofNat nc)), .val (.ref b4), .val (.ref b101), .val (.int (5 : Int32))] []))
              refine own_go (fun t_ k_ => XS.iload A603.here hx rfl (hb hby d1_56) rfl k_) ?_
              show own_Go _ _ _ _ (T602.setTop (mkF m 58 #[.val (.int (Int32.ofNat nr)), .val (.int (Int32.ofNat nc)), .val (.ref b4), .val (.ref b101), .val (.int (5 : Int32))] [(.int (5 : Int32))]))
              refine own_go (fun t_ k_ => XS.iloadN A603.here hx rfl (hb hby d1_58) rfl k_) ?_
              show own_Go _ _ _ _ (T602.setTop (mkF m 59 #[.val (.int (Int32.ofNat nr)), .val (.int (Int32.ofNat nc)), .val (.ref b4), .val (.ref b101), .val (.int (5 : Int32))] [(.int (Int32.ofNat nr)), (.int (5 : Int32))]))
              by_cases hc642 : (5 : Int32) < (Int32.ofNat nr)
              ·
                refine own_go (fun t_ k_ => XS.icmpNo A603.here hx rfl (hb hby d1_59) rfl (tlt hc642).2.1 k_) ?_
                show own_Go _ _ _ _ (T602.setTop (mkF m 62 #[.val (.int (Int32.ofNat nr)), .val (.int (Int32.ofNat nc)), .val (.ref b4), .val (.ref b101), .val (.int (5 : Int32))] []))
                have hi5 : 5 < nr := (own_nlt (i := 5) (by decide) (by omega)).mp hc642
                have fit5 : (own_rows 5 x1).length + (own_sep 5).length + x1.length ≤ cap2 := by rw [ec2]; exact own_rows_fit 5 nr x1 hi5
                refine own_go (fun t_ k_ => XS.aloadN A603.here hx rfl (hb hby d1_62) rfl rfl k_) ?_
                show own_Go _ _ _ _ (T602.setTop (mkF m 63 #[.val (.int (Int32.ofNat nr)), .val (.int (Int32.ofNat nc)), .val (.ref b4), .val (.ref b101), .val (.int (5 : Int32))] [(.ref b101)]))
                refine own_go (fun t_ k_ => XS.iload A603.here hx rfl (hb hby d1_63) rfl k_) ?_
                show own_Go _ _ _ _ (T602.setTop (mkF m 65 #[.val (.int (Int32.ofNat nr)), .val (.int (Int32.ofNat nc)), .val (.ref b4), .val (.ref b101), .val (.int (5 : Int32))] [(.int (5 : Int32)), (.ref b101)]))
                have hc643 : ¬ ((5 : Int32) = (0 : Int32)) := (by decide)
                refine own_go (fun t_ k_ => XS.ifYes A603.here hx rfl (pc0 := 65) (pc' := 73) rfl (hb hby d1_65) rfl ((if0 _ _).trans (feq hc643).2) (by decide) (by decide) k_) ?_
                show own_Go _ _ _ _ (T602.setTop (mkF m 73 #[.val (.int (Int32.ofNat nr)), .val (.int (Int32.ofNat nc)), .val (.ref b4), .val (.ref b101), .val (.int (5 : Int32))] [(.ref b101)]))
                refine own_ldcA A603 hx hZ hown (hw _ (List.mem_of_getElem? (i := 239) rfl)) Lt289 rfl (hb hby d1_73) ?_
                show own_Go _ _ _ _ (T602.setTop (mkF m 75 #[.val (.int (Int32.ofNat nr)), .val (.int (Int32.ofNat nc)), .val (.ref b4), .val (.ref b101), .val (.int (5 : Int32))] [(.ref b276), (.ref b101)]))
                refine own_callV A603 hx hZ (y := (⟨"java/lang/StringBuilder", "append", "(Ljava/lang/String;)Ljava/lang/StringBuilder;"⟩ : MethodName)) (z := (⟨"java/lang/StringBuilder", "append", "(Ljava/lang/String;)Ljava/lang/StringBuilder;"⟩ : MethodName)) hown (hw _ (List.mem_of_getElem? (i := 88) rfl)) (hw _ (List.mem_of_getElem? (i := 53) rfl)) (hw _ (List.mem_of_getElem? (i := 55) rfl)) (hw _ (List.mem_of_getElem? (i := 54) rfl)) (hw _ (List.mem_of_getElem? (i := 6) rfl)) (hw _ (List.mem_of_getElem? (i := 56) rfl)) (notFace_of_selects (args := #[]) (mvT hZ (hw _ (List.mem_of_getElem? (i := 55) rfl)))) (by decide) (b := b101) (argsL := [(.ref b276)]) (rest := []) E626 (rm8 l Z a0 hw b101 b276 z_C b277 (fun j => ([44, 32] : List Int32).getD j.toNatClampNeg 0) ([44, 32] : List Int32) fz641 (own_rows 5 x1).length cap2 t134 h604 n0 (S_COMPACT_STRINGS.ext O615.2) hz E626 F608 F609 F640 F611 V612 (by omega) E634 F635 F636 V637 gt135 g_b101 (Ne.symm ne_b101_t134) ne_t134_b276 ne_t134_b277 ne_b101_b276 ne_b101_b277 (own_bytS _ (by decide) (by decide +kernel)) Y639 (show (own_rows 5 x1).length + (own_sep 5).length ≤ cap2 by omega)) 0 (by decide) (by decide) rfl (by rw [hml]; rfl) (lenOf pd__Ljava_lang_String__Ljava_lang_StringBuilder_ rfl) rfl (by show 2 * 0 + _ ≤ _; exact Nat.le_of_eq rfl) (hb hby d1_75) (by decide) (by decide) (fun v647 T644 h646 A645 hQ648 => ?_)
                obtain ⟨rfl, K649, F650, F651, F652, F653, V654⟩ := hQ648
                have C655 : CHr Z consts_1 s.vm h0 vm278 h646 := C613.trans (CHr.keep K649 (sfS sf625 (sfS sf627 sf0)) C613.1)
                have K656 : Keep h0 h646 [] := K614.trans K649 (allS (Or.inr nw_b101) (allS (Or.inr nw_t134) all0))
                have O657 : Old Z n0 h646 := O615.keep K649 (allS g_b101 (allS gt135 all0))
                have Z658 : n0 ≤ h646.size := Nat.le_trans Z616 K649.1
                have E659 : Exa Z h646 b4 "java/lang/StringBuilder" := E617.keep K649
                have sf660 : Safe Z consts_1 vm278 h646 b4 := Safe.keep K649 (sfS sf625 (sfS sf627 sf0)) C613.1 sf618
                have sf661 : Safe Z consts_1 vm278 h646 v1 := Safe.keep K649 (sfS sf625 (sfS sf627 sf0)) C613.1 sf619
                have F662 : Fld Z h646 b4 "java/lang/AbstractStringBuilder" "maybeLatin1" "Z" (.int (0 : Int32)) := F620.keep K649 (ninS ne_b4_b101 (ninS ne_b4_t134 nin0))
                have F663 : Fld Z h646 b4 "java/lang/AbstractStringBuilder" "value" "[B" (.ref v1) := F621.keep K649 (ninS ne_b4_b101 (ninS ne_b4_t134 nin0))
                have F664 : Fld Z h646 b4 "java/lang/AbstractStringBuilder" "coder" "B" (.int (0 : Int32)) := F622.keep K649 (ninS ne_b4_b101 (ninS ne_b4_t134 nin0))
                have F665 : Fld Z h646 b4 "java/lang/AbstractStringBuilder" "count" "I" (.int (Int32.ofNat x1.length)) := F623.keep K649 (ninS ne_b4_b101 (ninS ne_b4_t134 nin0))
                have V666 : own_Arr Z h646 v1 .byte (Int32.ofNat cp) fz97 := V624.keep K649 (ninS ne_v1_b101 (ninS ne_v1_t134 nin0))
                have sf667 : Safe Z consts_1 vm278 h646 b101 := Safe.keep K649 (sfS sf625 (sfS sf627 sf0)) C613.1 sf625
                have E668 : Exa Z h646 b101 "java/lang/StringBuilder" := E626.keep K649
                have sf669 : Safe Z consts_1 vm278 h646 t134 := Safe.keep K649 (sfS sf625 (sfS sf627 sf0)) C613.1 sf627
                have E670 : Exa Z h646 t134 "[B" := E628.keep K649
                have E671 : Exa Z h646 b163 "java/lang/String" := E629.keep K649
                have F672 : Fld Z h646 b163 "java/lang/String" "coder" "B" (.int (0 : Int32)) := F630.keep K649 (ninS (Ne.symm ne_b101_b163) (ninS (Ne.symm ne_t134_b163) nin0))
                have F673 : Fld Z h646 b163 "java/lang/String" "value" "[B" (.ref b164) := F631.keep K649 (ninS (Ne.symm ne_b101_b163) (ninS (Ne.symm ne_t134_b163) nin0))
                have V674 : own_Arr Z h646 b164 .byte (0 : Int32) (fun j => ([] : List Int32).getD j.toNatClampNeg 0) := V632.keep K649 (ninS (Ne.symm ne_b101_b164) (ninS (Ne.symm ne_t134_b164) nin0))
                have Y675 : k279 ≤ h646.size := Nat.le_trans Y633 K649.1
                have E676 : Exa Z h646 b276 "java/lang/String" := E634.keep K649
                have F677 : Fld Z h646 b276 "java/lang/String" "coder" "B" (.int (0 : Int32)) := F635.keep K649 (ninS (Ne.symm ne_b101_b276) (ninS (Ne.symm ne_t134_b276) nin0))
                have F678 : Fld Z h646 b276 "java/lang/String" "value" "[B" (.ref b277) := F636.keep K649 (ninS (Ne.symm ne_b101_b276) (ninS (Ne.symm ne_t134_b276) nin0))
                have V679 : own_Arr Z h646 b277 .byte (2 : Int32) (fun j => ([44, 32] : List Int32).getD j.toNatClampNeg 0) := V637.keep K649 (ninS (Ne.symm ne_b101_b277) (ninS (Ne.symm ne_t134_b277) nin0))
                have P680 : own_Pre (own_cpf (fun j => ([44, 32] : List Int32).getD j.toNatClampNeg 0) 0 (own_rows 5 x1).length ([44, 32] : List Int32).length fz641) (own_rows 5 x1 ++ own_sep 5) := own_Pre.app (ys := own_rows 5 x1) (xs := own_sep 5) P638 (own_preS _ (by decide)) (by have := fit5; omega)
                have Y681 : own_Byt (own_cpf (fun j => ([44, 32] : List Int32).getD j.toNatClampNeg 0) 0 (own_rows 5 x1).length ([44, 32] : List Int32).length fz641) cap2 := own_Byt.cp Y639 (own_bytS _ (by decide) (by decide +kernel)) (by decide) (by omega)
                have F682 : Fld Z h646 b101 "java/lang/AbstractStringBuilder" "count" "I" (.int (Int32.ofNat (own_rows 5 x1 ++ own_sep 5).length)) := by rw [List.length_append]; exact F652
                generalize (own_cpf (fun j => ([44, 32] : List Int32).getD j.toNatClampNeg 0) 0 (own_rows 5 x1).length ([44, 32] : List Int32).length fz641) = fz683 at V654 P680 Y681
                show own_Go _ _ _ _ (T644.setTop (mkF m 78 #[.val (.int (Int32.ofNat nr)), .val (.int (Int32.ofNat nc)), .val (.ref b4), .val (.ref b101), .val (.int (5 : Int32))] [(.ref b101)]))
                refine own_go (fun t_ k_ => XS.aloadN A645.here hx rfl (hb hby d1_78) rfl rfl k_) ?_
                show own_Go _ _ _ _ (T644.setTop (mkF m 79 #[.val (.int (Int32.ofNat nr)), .val (.int (Int32.ofNat nc)), .val (.ref b4), .val (.ref b101), .val (.int (5 : Int32))] [(.ref b4), (.ref b101)]))
                refine own_callV A645 hx hZ (y := (⟨"java/lang/StringBuilder", "append", "(Ljava/lang/CharSequence;)Ljava/lang/StringBuilder;"⟩ : MethodName)) (z := (⟨"java/lang/StringBuilder", "append", "(Ljava/lang/CharSequence;)Ljava/lang/StringBuilder;"⟩ : MethodName)) hown (hw _ (List.mem_of_getElem? (i := 165) rfl)) (hw _ (List.mem_of_getElem? (i := 166) rfl)) (hw _ (List.mem_of_getElem? (i := 168) rfl)) (hw _ (List.mem_of_getElem? (i := 167) rfl)) (hw _ (List.mem_of_getElem? (i := 6) rfl)) (hw _ (List.mem_of_getElem? (i := 169) rfl)) (notFace_of_selects (args := #[]) (mvT hZ (hw _ (List.mem_of_getElem? (i := 168) rfl)))) (by decide) (b := b101) (argsL := [(.ref b4)]) (rest := []) E668 (rm28 l Z a0 hw b101 b4 z_C v1 fz97 x1 fz683 (own_rows 5 x1 ++ own_sep 5).length cap2 cp t134 h646 n0 (S_COMPACT_STRINGS.ext O657.2) hz E668 F650 F651 F682 F653 V654 (by omega) E659 F663 F664 F665 F662 V666 (by omega) (by omega) Y95 gt135 g_b101 (Ne.symm ne_b101_t134) (Ne.symm ne_b4_t134) (Ne.symm ne_v1_t134) (Ne.symm ne_b4_b101) (Ne.symm ne_v1_b101) Y681 (by rw [List.length_append]; exact fit5)) 0 (by decide) (by decide) rfl (by rw [hml]; rfl) (lenOf pd__Ljava_lang_CharSequence__Ljava_lang_StringBuilder_ rfl) rfl (by show 2 * 0 + _ ≤ _; exact Nat.le_of_eq rfl) (hb hby d1_79) (by decide) (by decide) (fun v687 T684 h686 A685 hQ688 => ?_)
                obtain ⟨rfl, K689, F690, F691, F692, F693, V694⟩ := hQ688
                have C695 : CHr Z consts_1 s.vm h0 vm278 h686 := C655.trans (CHr.keep K689 (sfS sf667 (sfS sf669 sf0)) C655.1)
                have K696 : Keep h0 h686 [] := K656.trans K689 (allS (Or.inr nw_b101) (allS (Or.inr nw_t134) all0))
                have O697 : Old Z n0 h686 := O657.keep K689 (allS g_b101 (allS gt135 all0))
                have Z698 : n0 ≤ h686.size := Nat.le_trans Z658 K689.1
                have E699 : Exa Z h686 b4 "java/lang/StringBuilder" := E659.keep K689
                have sf700 : Safe Z consts_1 vm278 h686 b4 := Safe.keep K689 (sfS sf667 (sfS sf669 sf0)) C655.1 sf660
                have sf701 : Safe Z consts_1 vm278 h686 v1 := Safe.keep K689 (sfS sf667 (sfS sf669 sf0)) C655.1 sf661
                have F702 : Fld Z h686 b4 "java/lang/AbstractStringBuilder" "maybeLatin1" "Z" (.int (0 : Int32)) := F662.keep K689 (ninS ne_b4_b101 (ninS ne_b4_t134 nin0))
                have F703 : Fld Z h686 b4 "java/lang/AbstractStringBuilder" "value" "[B" (.ref v1) := F663.keep K689 (ninS ne_b4_b101 (ninS ne_b4_t134 nin0))
                have F704 : Fld Z h686 b4 "java/lang/AbstractStringBuilder" "coder" "B" (.int (0 : Int32)) := F664.keep K689 (ninS ne_b4_b101 (ninS ne_b4_t134 nin0))
                have F705 : Fld Z h686 b4 "java/lang/AbstractStringBuilder" "count" "I" (.int (Int32.ofNat x1.length)) := F665.keep K689 (ninS ne_b4_b101 (ninS ne_b4_t134 nin0))
                have V706 : own_Arr Z h686 v1 .byte (Int32.ofNat cp) fz97 := V666.keep K689 (ninS ne_v1_b101 (ninS ne_v1_t134 nin0))
                have sf707 : Safe Z consts_1 vm278 h686 b101 := Safe.keep K689 (sfS sf667 (sfS sf669 sf0)) C655.1 sf667
                have E708 : Exa Z h686 b101 "java/lang/StringBuilder" := E668.keep K689
                have sf709 : Safe Z consts_1 vm278 h686 t134 := Safe.keep K689 (sfS sf667 (sfS sf669 sf0)) C655.1 sf669
                have E710 : Exa Z h686 t134 "[B" := E670.keep K689
                have E711 : Exa Z h686 b163 "java/lang/String" := E671.keep K689
                have F712 : Fld Z h686 b163 "java/lang/String" "coder" "B" (.int (0 : Int32)) := F672.keep K689 (ninS (Ne.symm ne_b101_b163) (ninS (Ne.symm ne_t134_b163) nin0))
                have F713 : Fld Z h686 b163 "java/lang/String" "value" "[B" (.ref b164) := F673.keep K689 (ninS (Ne.symm ne_b101_b163) (ninS (Ne.symm ne_t134_b163) nin0))
                have V714 : own_Arr Z h686 b164 .byte (0 : Int32) (fun j => ([] : List Int32).getD j.toNatClampNeg 0) := V674.keep K689 (ninS (Ne.symm ne_b101_b164) (ninS (Ne.symm ne_t134_b164) nin0))
                have Y715 : k279 ≤ h686.size := Nat.le_trans Y675 K689.1
                have E716 : Exa Z h686 b276 "java/lang/String" := E676.keep K689
                have F717 : Fld Z h686 b276 "java/lang/String" "coder" "B" (.int (0 : Int32)) := F677.keep K689 (ninS (Ne.symm ne_b101_b276) (ninS (Ne.symm ne_t134_b276) nin0))
                have F718 : Fld Z h686 b276 "java/lang/String" "value" "[B" (.ref b277) := F678.keep K689 (ninS (Ne.symm ne_b101_b276) (ninS (Ne.symm ne_t134_b276) nin0))
                have V719 : own_Arr Z h686 b277 .byte (2 : Int32) (fun j => ([44, 32] : List Int32).getD j.toNatClampNeg 0) := V679.keep K689 (ninS (Ne.symm ne_b101_b277) (ninS (Ne.symm ne_t134_b277) nin0))
                have P720 : own_Pre (own_cpf fz97 0 (own_rows 5 x1 ++ own_sep 5).length x1.length fz683) (own_rows 6 x1) := by rw [show own_rows 6 x1 = (own_rows 5 x1 ++ own_sep 5) ++ x1 from rfl]; exact own_Pre.app (ys := own_rows 5 x1 ++ own_sep 5) (xs := x1) P680 P94 (by rw [List.length_append]; have := fit5; omega)
                have Y721 : own_Byt (own_cpf fz97 0 (own_rows 5 x1 ++ own_sep 5).length x1.length fz683) cap2 := own_Byt.cp Y681 Y95 (by omega) (by omega)
                have F722 : Fld Z h686 b101 "java/lang/AbstractStringBuilder" "count" "I" (.int (Int32.ofNat (own_rows 6 x1).length)) := by rw [show own_rows 6 x1 = (own_rows 5 x1 ++ own_sep 5) ++ x1 from rfl, List.length_append]; exact F692
                generalize (own_cpf fz97 0 (own_rows 5 x1 ++ own_sep 5).length x1.length fz683) = fz723 at V694 P720 Y721
                show own_Go _ _ _ _ (T684.setTop (mkF m 82 #[.val (.int (Int32.ofNat nr)), .val (.int (Int32.ofNat nc)), .val (.ref b4), .val (.ref b101), .val (.int (5 : Int32))] [(.ref b101)]))
                refine own_go (fun t_ k_ => XS.pop A685.here hx rfl (hb hby d1_82) rfl rfl k_) ?_
                show own_Go _ _ _ _ (T684.setTop (mkF m 83 #[.val (.int (Int32.ofNat nr)), .val (.int (Int32.ofNat nc)), .val (.ref b4), .val (.ref b101), .val (.int (5 : Int32))] []))
                refine own_go (fun t_ k_ => XS.iinc A685.here hx rfl (hb hby d1_83) rfl (l' := #[.val (.int (Int32.ofNat nr)), .val (.int (Int32.ofNat nc)), .val (.ref b4), .val (.ref b101), .val (.int (6 : Int32))]) rfl k_) ?_
                show own_Go _ _ _ _ (T684.setTop (mkF m 86 #[.val (.int (Int32.ofNat nr)), .val (.int (Int32.ofNat nc)), .val (.ref b4), .val (.ref b101), .val (.int (6 : Int32))] []))
                refine own_go (fun t_ k_ => XS.goto A685.here hx rfl (pc0 := 86) (pc' := 56) rfl (hb hby d1_86) (by decide) (by decide) k_) ?_
                show own_Go _ _ _ _ (T684.setTop (mkF m 56 #[.val (.int (Int32.ofNat nr)), .val (.int (Int32.ofNat nc)), .val (.ref b4), .val (.ref b101), .val (.int (6 : Int32))] []))
                refine own_go (fun t_ k_ => XS.iload A685.here hx rfl (hb hby d1_56) rfl k_) ?_
                show own_Go _ _ _ _ (T684.setTop (mkF m 58 #[.val (.int (Int32.ofNat nr)), .val (.int (Int32.ofNat nc)), .val (.ref b4), .val (.ref b101), .val (.int (6 : Int32))] [(.int (6 : Int32))]))
                refine own_go (fun t_ k_ => XS.iloadN A685.here hx rfl (hb hby d1_58) rfl k_) ?_
                show own_Go _ _ _ _ (T684.setTop (mkF m 59 #[.val (.int (Int32.ofNat nr)), .val (.int (Int32.ofNat nc)), .val (.ref b4), .val (.ref b101), .val (.int (6 : Int32))] [(.int (Int32.ofNat nr)), (.int (6 : Int32))]))
                by_cases hc724 : (6 : Int32) < (Int32.ofNat nr)
                ·
                  refine own_go (fun t_ k_ => XS.icmpNo A685.here hx rfl (hb hby d1_59) rfl (tlt hc724).2.1 k_) ?_
                  show own_Go _ _ _ _ (T684.setTop (mkF m 62 #[.val (.int (Int32.ofNat nr)), .val (.int (Int32.ofNat nc)), .val (.ref b4), .val (.ref b101), .val (.int (6 : Int32))] []))
                  have hi6 : 6 < nr := (own_nlt (i := 6) (by decide) (by omega)).mp hc724
                  have fit6 : (own_rows 6 x1).length + (own_sep 6).length + x1.length ≤ cap2 := by rw [ec2]; exact own_rows_fit 6 nr x1 hi6
                  refine own_go (fun t_ k_ => XS.aloadN A685.here hx rfl (hb hby d1_62) rfl rfl k_) ?_
                  show own_Go _ _ _ _ (T684.setTop (mkF m 63 #[.val (.int (Int32.ofNat nr)), .val (.int (Int32.ofNat nc)), .val (.ref b4), .val (.ref b101), .val (.int (6 : Int32))] [(.ref b101)]))
                  refine own_go (fun t_ k_ => XS.iload A685.here hx rfl (hb hby d1_63) rfl k_) ?_
                  show own_Go _ _ _ _ (T684.setTop (mkF m 65 #[.val (.int (Int32.ofNat nr)), .val (.int (Int32.ofNat nc)), .val (.ref b4), .val (.ref b101), .val (.int (6 : Int32))] [(.int (6 : Int32)), (.ref b101)]))
                  have hc725 : ¬ ((6 : Int32) = (0 : Int32)) := (by decide)
                  refine own_go (fun t_ k_ => XS.ifYes A685.here hx rfl (pc0 := 65) (pc' := 73) rfl (hb hby d1_65) rfl ((if0 _ _).trans (feq hc725).2) (by decide) (by decide) k_) ?_
                  show own_Go _ _ _ _ (T684.setTop (mkF m 73 #[.val (.int (Int32.ofNat nr)), .val (.int (Int32.ofNat nc)), .val (.ref b4), .val (.ref b101), .val (.int (6 : Int32))] [(.ref b101)]))
                  refine own_ldcA A685 hx hZ hown (hw _ (List.mem_of_getElem? (i := 239) rfl)) Lt289 rfl (hb hby d1_73) ?_
                  show own_Go _ _ _ _ (T684.setTop (mkF m 75 #[.val (.int (Int32.ofNat nr)), .val (.int (Int32.ofNat nc)), .val (.ref b4), .val (.ref b101), .val (.int (6 : Int32))] [(.ref b276), (.ref b101)]))
                  refine own_callV A685 hx hZ (y := (⟨"java/lang/StringBuilder", "append", "(Ljava/lang/String;)Ljava/lang/StringBuilder;"⟩ : MethodName)) (z := (⟨"java/lang/StringBuilder", "append", "(Ljava/lang/String;)Ljava/lang/StringBuilder;"⟩ : MethodName)) hown (hw _ (List.mem_of_getElem? (i := 88) rfl)) (hw _ (List.mem_of_getElem? (i := 53) rfl)) (hw _ (List.mem_of_getElem? (i := 55) rfl)) (hw _ (List.mem_of_getElem? (i := 54) rfl)) (hw _ (List.mem_of_getElem? (i := 6) rfl)) (hw _ (List.mem_of_getElem? (i := 56) rfl)) (notFace_of_selects (args := #[]) (mvT hZ (hw _ (List.mem_of_getElem? (i := 55) rfl)))) (by decide) (b := b101) (argsL := [(.ref b276)]) (rest := []) E708 (rm8 l Z a0 hw b101 b276 z_C b277 (fun j => ([44, 32] : List Int32).getD j.toNatClampNeg 0) ([44, 32] : List Int32) fz723 (own_rows 6 x1).length cap2 t134 h686 n0 (S_COMPACT_STRINGS.ext O697.2) hz E708 F690 F691 F722 F693 V694 (by omega) E716 F717 F718 V719 gt135 g_b101 (Ne.symm ne_b101_t134) ne_t134_b276 ne_t134_b277 ne_b101_b276 ne_b101_b277 (own_bytS _ (by decide) (by decide +kernel)) Y721 (show (own_rows 6 x1).length + (own_sep 6).length ≤ cap2 by omega)) 0 (by decide) (by decide) rfl (by rw [hml]; rfl) (lenOf pd__Ljava_lang_String__Ljava_lang_StringBuilder_ rfl) rfl (by show 2 * 0 + _ ≤ _; exact Nat.le_of_eq rfl) (hb hby d1_75) (by decide) (by decide) (fun v729 T726 h728 A727 hQ730 => ?_)
                  obtain ⟨rfl, K731, F732, F733, F734, F735, V736⟩ := hQ730
                  have C737 : CHr Z consts_1 s.vm h0 vm278 h728 := C695.trans (CHr.keep K731 (sfS sf707 (sfS sf709 sf0)) C695.1)
                  have K738 : Keep h0 h728 [] := K696.trans K731 (allS (Or.inr nw_b101) (allS (Or.inr nw_t134) all0))
                  have O739 : Old Z n0 h728 := O697.keep K731 (allS g_b101 (allS gt135 all0))
                  have Z740 : n0 ≤ h728.size := Nat.le_trans Z698 K731.1
                  have E741 : Exa Z h728 b4 "java/lang/StringBuilder" := E699.keep K731
                  have sf742 : Safe Z consts_1 vm278 h728 b4 := Safe.keep K731 (sfS sf707 (sfS sf709 sf0)) C695.1 sf700
                  have sf743 : Safe Z consts_1 vm278 h728 v1 := Safe.keep K731 (sfS sf707 (sfS sf709 sf0)) C695.1 sf701
                  have F744 : Fld Z h728 b4 "java/lang/AbstractStringBuilder" "maybeLatin1" "Z" (.int (0 : Int32)) := F702.keep K731 (ninS ne_b4_b101 (ninS ne_b4_t134 nin0))
                  have F745 : Fld Z h728 b4 "java/lang/AbstractStringBuilder" "value" "[B" (.ref v1) := F703.keep K731 (ninS ne_b4_b101 (ninS ne_b4_t134 nin0))
                  have F746 : Fld Z h728 b4 "java/lang/AbstractStringBuilder" "coder" "B" (.int (0 : Int32)) := F704.keep K731 (ninS ne_b4_b101 (ninS ne_b4_t134 nin0))
                  have F747 : Fld Z h728 b4 "java/lang/AbstractStringBuilder" "count" "I" (.int (Int32.ofNat x1.length)) := F705.keep K731 (ninS ne_b4_b101 (ninS ne_b4_t134 nin0))
                  have V748 : own_Arr Z h728 v1 .byte (Int32.ofNat cp) fz97 := V706.keep K731 (ninS ne_v1_b101 (ninS ne_v1_t134 nin0))
                  have sf749 : Safe Z consts_1 vm278 h728 b101 := Safe.keep K731 (sfS sf707 (sfS sf709 sf0)) C695.1 sf707
                  have E750 : Exa Z h728 b101 "java/lang/StringBuilder" := E708.keep K731
                  have sf751 : Safe Z consts_1 vm278 h728 t134 := Safe.keep K731 (sfS sf707 (sfS sf709 sf0)) C695.1 sf709
                  have E752 : Exa Z h728 t134 "[B" := E710.keep K731
                  have E753 : Exa Z h728 b163 "java/lang/String" := E711.keep K731
                  have F754 : Fld Z h728 b163 "java/lang/String" "coder" "B" (.int (0 : Int32)) := F712.keep K731 (ninS (Ne.symm ne_b101_b163) (ninS (Ne.symm ne_t134_b163) nin0))
                  have F755 : Fld Z h728 b163 "java/lang/String" "value" "[B" (.ref b164) := F713.keep K731 (ninS (Ne.symm ne_b101_b163) (ninS (Ne.symm ne_t134_b163) nin0))
                  have V756 : own_Arr Z h728 b164 .byte (0 : Int32) (fun j => ([] : List Int32).getD j.toNatClampNeg 0) := V714.keep K731 (ninS (Ne.symm ne_b101_b164) (ninS (Ne.symm ne_t134_b164) nin0))
                  have Y757 : k279 ≤ h728.size := Nat.le_trans Y715 K731.1
                  have E758 : Exa Z h728 b276 "java/lang/String" := E716.keep K731
                  have F759 : Fld Z h728 b276 "java/lang/String" "coder" "B" (.int (0 : Int32)) := F717.keep K731 (ninS (Ne.symm ne_b101_b276) (ninS (Ne.symm ne_t134_b276) nin0))
                  have F760 : Fld Z h728 b276 "java/lang/String" "value" "[B" (.ref b277) := F718.keep K731 (ninS (Ne.symm ne_b101_b276) (ninS (Ne.symm ne_t134_b276) nin0))
                  have V761 : own_Arr Z h728 b277 .byte (2 : Int32) (fun j => ([44, 32] : List Int32).getD j.toNatClampNeg 0) := V719.keep K731 (ninS (Ne.symm ne_b101_b277) (ninS (Ne.symm ne_t134_b277) nin0))
                  have P762 : own_Pre (own_cpf (fun j => ([44, 32] : List Int32).getD j.toNatClampNeg 0) 0 (own_rows 6 x1).length ([44, 32] : List Int32).length fz723) (own_rows 6 x1 ++ own_sep 6) := own_Pre.app (ys := own_rows 6 x1) (xs := own_sep 6) P720 (own_preS _ (by decide)) (by have := fit6; omega)
                  have Y763 : own_Byt (own_cpf (fun j => ([44, 32] : List Int32).getD j.toNatClampNeg 0) 0 (own_rows 6 x1).length ([44, 32] : List Int32).length fz723) cap2 := own_Byt.cp Y721 (own_bytS _ (by decide) (by decide +kernel)) (by decide) (by omega)
                  have F764 : Fld Z h728 b101 "java/lang/AbstractStringBuilder" "count" "I" (.int (Int32.ofNat (own_rows 6 x1 ++ own_sep 6).length)) := by rw [List.length_append]; exact F734
                  generalize (own_cpf (fun j => ([44, 32] : List Int32).getD j.toNatClampNeg 0) 0 (own_rows 6 x1).length ([44, 32] : List Int32).length fz723) = fz765 at V736 P762 Y763
                  show own_Go _ _ _ _ (T726.setTop (mkF m 78 #[.val (.int (Int32.ofNat nr)), .val (.int (Int32.ofNat nc)), .val (.ref b4), .val (.ref b101), .val (.int (6 : Int32))] [(.ref b101)]))
                  refine own_go (fun t_ k_ => XS.aloadN A727.here hx rfl (hb hby d1_78) rfl rfl k_) ?_
                  show own_Go _ _ _ _ (T726.setTop (mkF m 79 #[.val (.int (Int32.ofNat nr)), .val (.int (Int32.ofNat nc)), .val (.ref b4), .val (.ref b101), .val (.int (6 : Int32))] [(.ref b4), (.ref b101)]))
                  refine own_callV A727 hx hZ (y := (⟨"java/lang/StringBuilder", "append", "(Ljava/lang/CharSequence;)Ljava/lang/StringBuilder;"⟩ : MethodName)) (z := (⟨"java/lang/StringBuilder", "append", "(Ljava/lang/CharSequence;)Ljava/lang/StringBuilder;"⟩ : MethodName)) hown (hw _ (List.mem_of_getElem? (i := 165) rfl)) (hw _ (List.mem_of_getElem? (i := 166) rfl)) (hw _ (List.mem_of_getElem? (i := 168) rfl)) (hw _ (List.mem_of_getElem? (i := 167) rfl)) (hw _ (List.mem_of_getElem? (i := 6) rfl)) (hw _ (List.mem_of_getElem? (i := 169) rfl)) (notFace_of_selects (args := #[]) (mvT hZ (hw _ (List.mem_of_getElem? (i := 168) rfl)))) (by decide) (b := b101) (argsL := [(.ref b4)]) (rest := []) E750 (rm28 l Z a0 hw b101 b4 z_C v1 fz97 x1 fz765 (own_rows 6 x1 ++ own_sep 6).length cap2 cp t134 h728 n0 (S_COMPACT_STRINGS.ext O739.2) hz E750 F732 F733 F764 F735 V736 (by omega) E741 F745 F746 F747 F744 V748 (by omega) (by omega) Y95 gt135 g_b101 (Ne.symm ne_b101_t134) (Ne.symm ne_b4_t134) (Ne.symm ne_v1_t134) (Ne.symm ne_b4_b101) (Ne.symm ne_v1_b101) Y763 (by rw [List.length_append]; exact fit6)) 0 (by decide) (by decide) rfl (by rw [hml]; rfl) (lenOf pd__Ljava_lang_CharSequence__Ljava_lang_StringBuilder_ rfl) rfl (by show 2 * 0 + _ ≤ _; exact Nat.le_of_eq rfl) (hb hby d1_79) (by decide) (by decide) (fun v769 T766 h768 A767 hQ770 => ?_)
                  obtain ⟨rfl, K771, F772, F773, F774, F775, V776⟩ := hQ770
                  have C777 : CHr Z consts_1 s.vm h0 vm278 h768 := C737.trans (CHr.keep K771 (sfS sf749 (sfS sf751 sf0)) C737.1)
                  have K778 : Keep h0 h768 [] := K738.trans K771 (allS (Or.inr nw_b101) (allS (Or.inr nw_t134) all0))
                  have O779 : Old Z n0 h768 := O739.keep K771 (allS g_b101 (allS gt135 all0))
                  have Z780 : n0 ≤ h768.size := Nat.le_trans Z740 K771.1
                  have E781 : Exa Z h768 b4 "java/lang/StringBuilder" := E741.keep K771
                  have sf782 : Safe Z consts_1 vm278 h768 b4 := Safe.keep K771 (sfS sf749 (sfS sf751 sf0)) C737.1 sf742
                  have sf783 : Safe Z consts_1 vm278 h768 v1 := Safe.keep K771 (sfS sf749 (sfS sf751 sf0)) C737.1 sf743
                  have F784 : Fld Z h768 b4 "java/lang/AbstractStringBuilder" "maybeLatin1" "Z" (.int (0 : Int32)) := F744.keep K771 (ninS ne_b4_b101 (ninS ne_b4_t134 nin0))
                  have F785 : Fld Z h768 b4 "java/lang/AbstractStringBuilder" "value" "[B" (.ref v1) := F745.keep K771 (ninS ne_b4_b101 (ninS ne_b4_t134 nin0))
                  have F786 : Fld Z h768 b4 "java/lang/AbstractStringBuilder" "coder" "B" (.int (0 : Int32)) := F746.keep K771 (ninS ne_b4_b101 (ninS ne_b4_t134 nin0))
                  have F787 : Fld Z h768 b4 "java/lang/AbstractStringBuilder" "count" "I" (.int (Int32.ofNat x1.length)) := F747.keep K771 (ninS ne_b4_b101 (ninS ne_b4_t134 nin0))
                  have V788 : own_Arr Z h768 v1 .byte (Int32.ofNat cp) fz97 := V748.keep K771 (ninS ne_v1_b101 (ninS ne_v1_t134 nin0))
                  have sf789 : Safe Z consts_1 vm278 h768 b101 := Safe.keep K771 (sfS sf749 (sfS sf751 sf0)) C737.1 sf749
                  have E790 : Exa Z h768 b101 "java/lang/StringBuilder" := E750.keep K771
                  have sf791 : Safe Z consts_1 vm278 h768 t134 := Safe.keep K771 (sfS sf749 (sfS sf751 sf0)) C737.1 sf751
                  have E792 : Exa Z h768 t134 "[B" := E752.keep K771
                  have E793 : Exa Z h768 b163 "java/lang/String" := E753.keep K771
                  have F794 : Fld Z h768 b163 "java/lang/String" "coder" "B" (.int (0 : Int32)) := F754.keep K771 (ninS (Ne.symm ne_b101_b163) (ninS (Ne.symm ne_t134_b163) nin0))
                  have F795 : Fld Z h768 b163 "java/lang/String" "value" "[B" (.ref b164) := F755.keep K771 (ninS (Ne.symm ne_b101_b163) (ninS (Ne.symm ne_t134_b163) nin0))
                  have V796 : own_Arr Z h768 b164 .byte (0 : Int32) (fun j => ([] : List Int32).getD j.toNatClampNeg 0) := V756.keep K771 (ninS (Ne.symm ne_b101_b164) (ninS (Ne.symm ne_t134_b164) nin0))
                  have Y797 : k279 ≤ h768.size := Nat.le_trans Y757 K771.1
                  have E798 : Exa Z h768 b276 "java/lang/String" := E758.keep K771
                  have F799 : Fld Z h768 b276 "java/lang/String" "coder" "B" (.int (0 : Int32)) := F759.keep K771 (ninS (Ne.symm ne_b101_b276) (ninS (Ne.symm ne_t134_b276) nin0))
                  have F800 : Fld Z h768 b276 "java/lang/String" "value" "[B" (.ref b277) := F760.keep K771 (ninS (Ne.symm ne_b101_b276) (ninS (Ne.symm ne_t134_b276) nin0))
                  have V801 : own_Arr Z h768 b277 .byte (2 : Int32) (fun j => ([44, 32] : List Int32).getD j.toNatClampNeg 0) := V761.keep K771 (ninS (Ne.symm ne_b101_b277) (ninS (Ne.symm ne_t134_b277) nin0))
                  have P802 : own_Pre (own_cpf fz97 0 (own_rows 6 x1 ++ own_sep 6).length x1.length fz765) (own_rows 7 x1) := by rw [show own_rows 7 x1 = (own_rows 6 x1 ++ own_sep 6) ++ x1 from rfl]; exact own_Pre.app (ys := own_rows 6 x1 ++ own_sep 6) (xs := x1) P762 P94 (by rw [List.length_append]; have := fit6; omega)
                  have Y803 : own_Byt (own_cpf fz97 0 (own_rows 6 x1 ++ own_sep 6).length x1.length fz765) cap2 := own_Byt.cp Y763 Y95 (by omega) (by omega)
                  have F804 : Fld Z h768 b101 "java/lang/AbstractStringBuilder" "count" "I" (.int (Int32.ofNat (own_rows 7 x1).length)) := by rw [show own_rows 7 x1 = (own_rows 6 x1 ++ own_sep 6) ++ x1 from rfl, List.length_append]; exact F774
                  generalize (own_cpf fz97 0 (own_rows 6 x1 ++ own_sep 6).length x1.length fz765) = fz805 at V776 P802 Y803
                  show own_Go _ _ _ _ (T766.setTop (mkF m 82 #[.val (.int (Int32.ofNat nr)), .val (.int (Int32.ofNat nc)), .val (.ref b4), .val (.ref b101), .val (.int (6 : Int32))] [(.ref b101)]))
                  refine own_go (fun t_ k_ => XS.pop A767.here hx rfl (hb hby d1_82) rfl rfl k_) ?_
                  show own_Go _ _ _ _ (T766.setTop (mkF m 83 #[.val (.int (Int32.ofNat nr)), .val (.int (Int32.ofNat nc)), .val (.ref b4), .val (.ref b101), .val (.int (6 : Int32))] []))
                  refine own_go (fun t_ k_ => XS.iinc A767.here hx rfl (hb hby d1_83) rfl (l' := #[.val (.int (Int32.ofNat nr)), .val (.int (Int32.ofNat nc)), .val (.ref b4), .val (.ref b101), .val (.int (7 : Int32))]) rfl k_) ?_
                  show own_Go _ _ _ _ (T766.setTop (mkF m 86 #[.val (.int (Int32.ofNat nr)), .val (.int (Int32.ofNat nc)), .val (.ref b4), .val (.ref b101), .val (.int (7 : Int32))] []))
                  refine own_go (fun t_ k_ => XS.goto A767.here hx rfl (pc0 := 86) (pc' := 56) rfl (hb hby d1_86) (by decide) (by decide) k_) ?_
                  show own_Go _ _ _ _ (T766.setTop (mkF m 56 #[.val (.int (Int32.ofNat nr)), .val (.int (Int32.ofNat nc)), .val (.ref b4), .val (.ref b101), .val (.int (7 : Int32))] []))
                  refine own_go (fun t_ k_ => XS.iload A767.here hx rfl (hb hby d1_56) rfl k_) ?_
                  show own_Go _ _ _ _ (T766.setTop (mkF m 58 #[.val (.int (Int32.ofNat nr)), .val (.int (Int32.ofNat nc)), .val (.ref b4), .val (.ref b101), .val (.int (7 : Int32))] [(.int (7 : Int32))]))
                  refine own_go (fun t_ k_ => XS.iloadN A767.here hx rfl (hb hby d1_58) rfl k_) ?_
                  show own_Go _ _ _ _ (T766.setTop (mkF m 59 #[.val (.int (Int32.ofNat nr)), .val (.int (Int32.ofNat nc)), .val (.ref b4), .val (.ref b101), .val (.int (7 : Int32))] [(.int (Int32.ofNat nr)), (.int (7 : Int32))]))
                  have hc806 : ¬ ((7 : Int32) < (Int32.ofNat nr)) := (fun z => by have := (own_nlt (i := 7) (by decide) (by omega)).mp z; omega)
                  refine own_go (fun t_ k_ => XS.icmpYes A767.here hx rfl (pc0 := 59) (pc' := 89) rfl (hb hby d1_59) rfl (flt hc806).2.1 (by decide) (by decide) k_) ?_
                  show own_Go _ _ _ _ (T766.setTop (mkF m 89 #[.val (.int (Int32.ofNat nr)), .val (.int (Int32.ofNat nc)), .val (.ref b4), .val (.ref b101), .val (.int (7 : Int32))] []))
                  have enr : nr = 7 := by omega
                  refine own_go (fun t_ k_ => XS.aloadN A767.here hx rfl (hb hby d1_89) rfl rfl k_) ?_
                  show own_Go _ _ _ _ (T766.setTop (mkF m 90 #[.val (.int (Int32.ofNat nr)), .val (.int (Int32.ofNat nc)), .val (.ref b4), .val (.ref b101), .val (.int (7 : Int32))] [(.ref b101)]))
                  refine own_callV A767 hx hZ (y := (⟨"java/lang/StringBuilder", "toString", "()Ljava/lang/String;"⟩ : MethodName)) (z := (⟨"java/lang/StringBuilder", "toString", "()Ljava/lang/String;"⟩ : MethodName)) hown (hw _ (List.mem_of_getElem? (i := 123) rfl)) (hw _ (List.mem_of_getElem? (i := 124) rfl)) (hw _ (List.mem_of_getElem? (i := 126) rfl)) (hw _ (List.mem_of_getElem? (i := 125) rfl)) (hw _ (List.mem_of_getElem? (i := 6) rfl)) (hw _ (List.mem_of_getElem? (i := 127) rfl)) (notFace_of_selects (args := #[]) (mvT hZ (hw _ (List.mem_of_getElem? (i := 126) rfl)))) (by decide) (b := b101) (argsL := []) (rest := []) E790 (rm22 l Z a0 hw b101 z_C t134 fz805 (own_rows 7 x1).length cap2 h768 n0 O779 hz S_COMPACT_STRINGS Z780 E790 F772 F773 F804 F775 V776 Y803 (by rw [ec2]; exact own_rows_lt 6 nr x1 enr) hc2) 0 (by decide) (by decide) rfl (by rw [hml]; rfl) (lenOf pd___Ljava_lang_String_ rfl) rfl (by show 2 * 0 + _ ≤ _; exact Nat.le_of_eq rfl) (hb hby d1_90) (by decide) (by decide) (fun v810 T807 h809 A808 hQ811 => ?_)
                  obtain ⟨K812, s813, t814, rfl, gt815, nt816, E817, F818, F819, V820⟩ := hQ811
                  have C821 : CHr Z consts_1 s.vm h0 vm278 h809 := C777.trans (CHr.keep K812 sf0 C777.1)
                  have K822 : Keep h0 h809 [] := K778.trans K812 all0
                  have O823 : Old Z n0 h809 := O779.keep K812 all0
                  have Z824 : n0 ≤ h809.size := Nat.le_trans Z780 K812.1
                  have E825 : Exa Z h809 b4 "java/lang/StringBuilder" := E781.keep K812
                  have sf826 : Safe Z consts_1 vm278 h809 b4 := Safe.keep K812 sf0 C777.1 sf782
                  have sf827 : Safe Z consts_1 vm278 h809 v1 := Safe.keep K812 sf0 C777.1 sf783
                  have F828 : Fld Z h809 b4 "java/lang/AbstractStringBuilder" "maybeLatin1" "Z" (.int (0 : Int32)) := F784.keep K812 nin0
                  have F829 : Fld Z h809 b4 "java/lang/AbstractStringBuilder" "value" "[B" (.ref v1) := F785.keep K812 nin0
                  have F830 : Fld Z h809 b4 "java/lang/AbstractStringBuilder" "coder" "B" (.int (0 : Int32)) := F786.keep K812 nin0
                  have F831 : Fld Z h809 b4 "java/lang/AbstractStringBuilder" "count" "I" (.int (Int32.ofNat x1.length)) := F787.keep K812 nin0
                  have V832 : own_Arr Z h809 v1 .byte (Int32.ofNat cp) fz97 := V788.keep K812 nin0
                  have sf833 : Safe Z consts_1 vm278 h809 b101 := Safe.keep K812 sf0 C777.1 sf789
                  have E834 : Exa Z h809 b101 "java/lang/StringBuilder" := E790.keep K812
                  have sf835 : Safe Z consts_1 vm278 h809 t134 := Safe.keep K812 sf0 C777.1 sf791
                  have E836 : Exa Z h809 t134 "[B" := E792.keep K812
                  have E837 : Exa Z h809 b163 "java/lang/String" := E793.keep K812
                  have F838 : Fld Z h809 b163 "java/lang/String" "coder" "B" (.int (0 : Int32)) := F794.keep K812 nin0
                  have F839 : Fld Z h809 b163 "java/lang/String" "value" "[B" (.ref b164) := F795.keep K812 nin0
                  have V840 : own_Arr Z h809 b164 .byte (0 : Int32) (fun j => ([] : List Int32).getD j.toNatClampNeg 0) := V796.keep K812 nin0
                  have Y841 : k279 ≤ h809.size := Nat.le_trans Y797 K812.1
                  have E842 : Exa Z h809 b276 "java/lang/String" := E798.keep K812
                  have F843 : Fld Z h809 b276 "java/lang/String" "coder" "B" (.int (0 : Int32)) := F799.keep K812 nin0
                  have F844 : Fld Z h809 b276 "java/lang/String" "value" "[B" (.ref b277) := F800.keep K812 nin0
                  have V845 : own_Arr Z h809 b277 .byte (2 : Int32) (fun j => ([44, 32] : List Int32).getD j.toNatClampNeg 0) := V801.keep K812 nin0
                  have F846 : Fld Z h809 b101 "java/lang/AbstractStringBuilder" "maybeLatin1" "Z" (.int (0 : Int32)) := F775.keep K812 nin0
                  have F847 : Fld Z h809 b101 "java/lang/AbstractStringBuilder" "value" "[B" (.ref t134) := F772.keep K812 nin0
                  have F848 : Fld Z h809 b101 "java/lang/AbstractStringBuilder" "coder" "B" (.int (0 : Int32)) := F773.keep K812 nin0
                  have F849 : Fld Z h809 b101 "java/lang/AbstractStringBuilder" "count" "I" (.int (Int32.ofNat (own_rows 7 x1).length)) := F804.keep K812 nin0
                  have V850 : own_Arr Z h809 t134 .byte (Int32.ofNat cap2) fz805 := V776.keep K812 nin0
                  show own_Go _ _ _ _ (T807.setTop (mkF m 93 #[.val (.int (Int32.ofNat nr)), .val (.int (Int32.ofNat nc)), .val (.ref b4), .val (.ref b101), .val (.int (7 : Int32))] [(.ref s813)]))
                  refine own_retAC A808 hx hret rfl hlk (by decide) (by decide) hZ hEL hs0 C821 hS282 Y841 rfl (hb hby d1_93) ?_
                  have eZ : own_vals nr nc = own_rows 7 x1 := by unfold own_vals; rw [hx1, xsT, enr]
                  exact ⟨K822, s813, t814, _, rfl, E817, F818, F819, by rw [eZ]; exact V820, by rw [eZ]; exact own_Pre.wide P802 (Nat.le_refl _) (by have q : (own_rows 7 x1).length < nr * (x1.length + 2) := own_rows_lt 6 nr x1 enr; rw [← ec2] at q; omega)⟩
                ·
                  refine own_go (fun t_ k_ => XS.icmpYes A685.here hx rfl (pc0 := 59) (pc' := 89) rfl (hb hby d1_59) rfl (flt hc724).2.1 (by decide) (by decide) k_) ?_
                  show own_Go _ _ _ _ (T684.setTop (mkF m 89 #[.val (.int (Int32.ofNat nr)), .val (.int (Int32.ofNat nc)), .val (.ref b4), .val (.ref b101), .val (.int (6 : Int32))] []))
                  have enr : nr = 6 := by have a2 := own_nge (i := 6) (by decide) (by omega) hc724; omega
                  refine own_go (fun t_ k_ => XS.aloadN A685.here hx rfl (hb hby d1_89) rfl rfl k_) ?_
                  show own_Go _ _ _ _ (T684.setTop (mkF m 90 #[.val (.int (Int32.ofNat nr)), .val (.int (Int32.ofNat nc)), .val (.ref b4), .val (.ref b101), .val (.int (6 : Int32))] [(.ref b101)]))
                  refine own_callV A685 hx hZ (y := (⟨"java/lang/StringBuilder", "toString", "()Ljava/lang/String;"⟩ : MethodName)) (z := (⟨"java/lang/StringBuilder", "toString", "()Ljava/lang/String;"⟩ : MethodName)) hown (hw _ (List.mem_of_getElem? (i := 123) rfl)) (hw _ (List.mem_of_getElem? (i := 124) rfl)) (hw _ (List.mem_of_getElem? (i := 126) rfl)) (hw _ (List.mem_of_getElem? (i := 125) rfl)) (hw _ (List.mem_of_getElem? (i := 6) rfl)) (hw _ (List.mem_of_getElem? (i := 127) rfl)) (notFace_of_selects (args := #[]) (mvT hZ (hw _ (List.mem_of_getElem? (i := 126) rfl)))) (by decide) (b := b101) (argsL := []) (rest := []) E708 (rm22 l Z a0 hw b101 z_C t134 fz723 (own_rows 6 x1).length cap2 h686 n0 O697 hz S_COMPACT_STRINGS Z698 E708 F690 F691 F722 F693 V694 Y721 (by rw [ec2]; exact own_rows_lt 5 nr x1 enr) hc2) 0 (by decide) (by decide) rfl (by rw [hml]; rfl) (lenOf pd___Ljava_lang_String_ rfl) rfl (by show 2 * 0 + _ ≤ _; exact Nat.le_of_eq rfl) (hb hby d1_90) (by decide) (by decide) (fun v854 T851 h853 A852 hQ855 => ?_)
                  obtain ⟨K856, s857, t858, rfl, gt859, nt860, E861, F862, F863, V864⟩ := hQ855
                  have C865 : CHr Z consts_1 s.vm h0 vm278 h853 := C695.trans (CHr.keep K856 sf0 C695.1)
                  have K866 : Keep h0 h853 [] := K696.trans K856 all0
                  have O867 : Old Z n0 h853 := O697.keep K856 all0
                  have Z868 : n0 ≤ h853.size := Nat.le_trans Z698 K856.1
                  have E869 : Exa Z h853 b4 "java/lang/StringBuilder" := E699.keep K856
                  have sf870 : Safe Z consts_1 vm278 h853 b4 := Safe.keep K856 sf0 C695.1 sf700
                  have sf871 : Safe Z consts_1 vm278 h853 v1 := Safe.keep K856 sf0 C695.1 sf701
                  have F872 : Fld Z h853 b4 "java/lang/AbstractStringBuilder" "maybeLatin1" "Z" (.int (0 : Int32)) := F702.keep K856 nin0
                  have F873 : Fld Z h853 b4 "java/lang/AbstractStringBuilder" "value" "[B" (.ref v1) := F703.keep K856 nin0
                  have F874 : Fld Z h853 b4 "java/lang/AbstractStringBuilder" "coder" "B" (.int (0 : Int32)) := F704.keep K856 nin0
                  have F875 : Fld Z h853 b4 "java/lang/AbstractStringBuilder" "count" "I" (.int (Int32.ofNat x1.length)) := F705.keep K856 nin0
                  have V876 : own_Arr Z h853 v1 .byte (Int32.ofNat cp) fz97 := V706.keep K856 nin0
                  have sf877 : Safe Z consts_1 vm278 h853 b101 := Safe.keep K856 sf0 C695.1 sf707
                  have E878 : Exa Z h853 b101 "java/lang/StringBuilder" := E708.keep K856
                  have sf879 : Safe Z consts_1 vm278 h853 t134 := Safe.keep K856 sf0 C695.1 sf709
                  have E880 : Exa Z h853 t134 "[B" := E710.keep K856
                  have E881 : Exa Z h853 b163 "java/lang/String" := E711.keep K856
                  have F882 : Fld Z h853 b163 "java/lang/String" "coder" "B" (.int (0 : Int32)) := F712.keep K856 nin0
                  have F883 : Fld Z h853 b163 "java/lang/String" "value" "[B" (.ref b164) := F713.keep K856 nin0
                  have V884 : own_Arr Z h853 b164 .byte (0 : Int32) (fun j => ([] : List Int32).getD j.toNatClampNeg 0) := V714.keep K856 nin0
                  have Y885 : k279 ≤ h853.size := Nat.le_trans Y715 K856.1
                  have E886 : Exa Z h853 b276 "java/lang/String" := E716.keep K856
                  have F887 : Fld Z h853 b276 "java/lang/String" "coder" "B" (.int (0 : Int32)) := F717.keep K856 nin0
                  have F888 : Fld Z h853 b276 "java/lang/String" "value" "[B" (.ref b277) := F718.keep K856 nin0
                  have V889 : own_Arr Z h853 b277 .byte (2 : Int32) (fun j => ([44, 32] : List Int32).getD j.toNatClampNeg 0) := V719.keep K856 nin0
                  have F890 : Fld Z h853 b101 "java/lang/AbstractStringBuilder" "maybeLatin1" "Z" (.int (0 : Int32)) := F693.keep K856 nin0
                  have F891 : Fld Z h853 b101 "java/lang/AbstractStringBuilder" "value" "[B" (.ref t134) := F690.keep K856 nin0
                  have F892 : Fld Z h853 b101 "java/lang/AbstractStringBuilder" "coder" "B" (.int (0 : Int32)) := F691.keep K856 nin0
                  have F893 : Fld Z h853 b101 "java/lang/AbstractStringBuilder" "count" "I" (.int (Int32.ofNat (own_rows 6 x1).length)) := F722.keep K856 nin0
                  have V894 : own_Arr Z h853 t134 .byte (Int32.ofNat cap2) fz723 := V694.keep K856 nin0
                  show own_Go _ _ _ _ (T851.setTop (mkF m 93 #[.val (.int (Int32.ofNat nr)), .val (.int (Int32.ofNat nc)), .val (.ref b4), .val (.ref b101), .val (.int (6 : Int32))] [(.ref s857)]))
                  refine own_retAC A852 hx hret rfl hlk (by decide) (by decide) hZ hEL hs0 C865 hS282 Y885 rfl (hb hby d1_93) ?_
                  have eZ : own_vals nr nc = own_rows 6 x1 := by unfold own_vals; rw [hx1, xsT, enr]
                  exact ⟨K866, s857, t858, _, rfl, E861, F862, F863, by rw [eZ]; exact V864, by rw [eZ]; exact own_Pre.wide P720 (Nat.le_refl _) (by have q : (own_rows 6 x1).length < nr * (x1.length + 2) := own_rows_lt 5 nr x1 enr; rw [← ec2] at q; omega)⟩
              ·
                refine own_go (fun t_ k_ => XS.icmpYes A603.here hx rfl (pc0 := 59) (pc' := 89) rfl (hb hby d1_59) rfl (flt hc642).2.1 (by decide) (by decide) k_) ?_
                show own_Go _ _ _ _ (T602.setTop (mkF m 89 #[.val (.int (Int32.ofNat nr)), .val (.int (Int32.ofNat nc)), .val (.ref b4), .val (.ref b101), .val (.int (5 : Int32))] []))
                have enr : nr = 5 := by have a2 := own_nge (i := 5) (by decide) (by omega) hc642; omega
                refine own_go (fun t_ k_ => XS.aloadN A603.here hx rfl (hb hby d1_89) rfl rfl k_) ?_
                show own_Go _ _ _ _ (T602.setTop (mkF m 90 #[.val (.int (Int32.ofNat nr)), .val (.int (Int32.ofNat nc)), .val (.ref b4), .val (.ref b101), .val (.int (5 : Int32))] [(.ref b101)]))
                refine own_callV A603 hx hZ (y := (⟨"java/lang/StringBuilder", "toString", "()Ljava/lang/String;"⟩ : MethodName)) (z := (⟨"java/lang/StringBuilder", "toString", "()Ljava/lang/String;"⟩ : MethodName)) hown (hw _ (List.mem_of_getElem? (i := 123) rfl)) (hw _ (List.mem_of_getElem? (i := 124) rfl)) (hw _ (List.mem_of_getElem? (i := 126) rfl)) (hw _ (List.mem_of_getElem? (i := 125) rfl)) (hw _ (List.mem_of_getElem? (i := 6) rfl)) (hw _ (List.mem_of_getElem? (i := 127) rfl)) (notFace_of_selects (args := #[]) (mvT hZ (hw _ (List.mem_of_getElem? (i := 126) rfl)))) (by decide) (b := b101) (argsL := []) (rest := []) E626 (rm22 l Z a0 hw b101 z_C t134 fz641 (own_rows 5 x1).length cap2 h604 n0 O615 hz S_COMPACT_STRINGS Z616 E626 F608 F609 F640 F611 V612 Y639 (by rw [ec2]; exact own_rows_lt 4 nr x1 enr) hc2) 0 (by decide) (by decide) rfl (by rw [hml]; rfl) (lenOf pd___Ljava_lang_String_ rfl) rfl (by show 2 * 0 + _ ≤ _; exact Nat.le_of_eq rfl) (hb hby d1_90) (by decide) (by decide) (fun v898 T895 h897 A896 hQ899 => ?_)
                obtain ⟨K900, s901, t902, rfl, gt903, nt904, E905, F906, F907, V908⟩ := hQ899
                have C909 : CHr Z consts_1 s.vm h0 vm278 h897 := C613.trans (CHr.keep K900 sf0 C613.1)
                have K910 : Keep h0 h897 [] := K614.trans K900 all0
                have O911 : Old Z n0 h897 := O615.keep K900 all0
                have Z912 : n0 ≤ h897.size := Nat.le_trans Z616 K900.1
                have E913 : Exa Z h897 b4 "java/lang/StringBuilder" := E617.keep K900
                have sf914 : Safe Z consts_1 vm278 h897 b4 := Safe.keep K900 sf0 C613.1 sf618
                have sf915 : Safe Z consts_1 vm278 h897 v1 := Safe.keep K900 sf0 C613.1 sf619
                have F916 : Fld Z h897 b4 "java/lang/AbstractStringBuilder" "maybeLatin1" "Z" (.int (0 : Int32)) := F620.keep K900 nin0
                have F917 : Fld Z h897 b4 "java/lang/AbstractStringBuilder" "value" "[B" (.ref v1) := F621.keep K900 nin0
                have F918 : Fld Z h897 b4 "java/lang/AbstractStringBuilder" "coder" "B" (.int (0 : Int32)) := F622.keep K900 nin0
                have F919 : Fld Z h897 b4 "java/lang/AbstractStringBuilder" "count" "I" (.int (Int32.ofNat x1.length)) := F623.keep K900 nin0
                have V920 : own_Arr Z h897 v1 .byte (Int32.ofNat cp) fz97 := V624.keep K900 nin0
                have sf921 : Safe Z consts_1 vm278 h897 b101 := Safe.keep K900 sf0 C613.1 sf625
                have E922 : Exa Z h897 b101 "java/lang/StringBuilder" := E626.keep K900
                have sf923 : Safe Z consts_1 vm278 h897 t134 := Safe.keep K900 sf0 C613.1 sf627
                have E924 : Exa Z h897 t134 "[B" := E628.keep K900
                have E925 : Exa Z h897 b163 "java/lang/String" := E629.keep K900
                have F926 : Fld Z h897 b163 "java/lang/String" "coder" "B" (.int (0 : Int32)) := F630.keep K900 nin0
                have F927 : Fld Z h897 b163 "java/lang/String" "value" "[B" (.ref b164) := F631.keep K900 nin0
                have V928 : own_Arr Z h897 b164 .byte (0 : Int32) (fun j => ([] : List Int32).getD j.toNatClampNeg 0) := V632.keep K900 nin0
                have Y929 : k279 ≤ h897.size := Nat.le_trans Y633 K900.1
                have E930 : Exa Z h897 b276 "java/lang/String" := E634.keep K900
                have F931 : Fld Z h897 b276 "java/lang/String" "coder" "B" (.int (0 : Int32)) := F635.keep K900 nin0
                have F932 : Fld Z h897 b276 "java/lang/String" "value" "[B" (.ref b277) := F636.keep K900 nin0
                have V933 : own_Arr Z h897 b277 .byte (2 : Int32) (fun j => ([44, 32] : List Int32).getD j.toNatClampNeg 0) := V637.keep K900 nin0
                have F934 : Fld Z h897 b101 "java/lang/AbstractStringBuilder" "maybeLatin1" "Z" (.int (0 : Int32)) := F611.keep K900 nin0
                have F935 : Fld Z h897 b101 "java/lang/AbstractStringBuilder" "value" "[B" (.ref t134) := F608.keep K900 nin0
                have F936 : Fld Z h897 b101 "java/lang/AbstractStringBuilder" "coder" "B" (.int (0 : Int32)) := F609.keep K900 nin0
                have F937 : Fld Z h897 b101 "java/lang/AbstractStringBuilder" "count" "I" (.int (Int32.ofNat (own_rows 5 x1).length)) := F640.keep K900 nin0
                have V938 : own_Arr Z h897 t134 .byte (Int32.ofNat cap2) fz641 := V612.keep K900 nin0
                show own_Go _ _ _ _ (T895.setTop (mkF m 93 #[.val (.int (Int32.ofNat nr)), .val (.int (Int32.ofNat nc)), .val (.ref b4), .val (.ref b101), .val (.int (5 : Int32))] [(.ref s901)]))
                refine own_retAC A896 hx hret rfl hlk (by decide) (by decide) hZ hEL hs0 C909 hS282 Y929 rfl (hb hby d1_93) ?_
                have eZ : own_vals nr nc = own_rows 5 x1 := by unfold own_vals; rw [hx1, xsT, enr]
                exact ⟨K910, s901, t902, _, rfl, E905, F906, F907, by rw [eZ]; exact V908, by rw [eZ]; exact own_Pre.wide P638 (Nat.le_refl _) (by have q : (own_rows 5 x1).length < nr * (x1.length + 2) := own_rows_lt 4 nr x1 enr; rw [← ec2] at q; omega)⟩
            ·
              refine own_go (fun t_ k_ => XS.icmpYes A521.here hx rfl (pc0 := 59) (pc' := 89) rfl (hb hby d1_59) rfl (flt hc560).2.1 (by decide) (by decide) k_) ?_
              show own_Go _ _ _ _ (T520.setTop (mkF m 89 #[.val (.int (Int32.ofNat nr)), .val (.int (Int32.ofNat nc)), .val (.ref b4), .val (.ref b101), .val (.int (4 : Int32))] []))
              have enr : nr = 4 := by have a2 := own_nge (i := 4) (by decide) (by omega) hc560; omega
              refine own_go (fun t_ k_ => XS.aloadN A521.here hx rfl (hb hby d1_89) rfl rfl k_) ?_
              show own_Go _ _ _ _ (T520.setTop (mkF m 90 #[.val (.int (Int32.ofNat nr)), .val (.int (Int32.ofNat nc)), .val (.ref b4), .val (.ref b101), .val (.int (4 : Int32))] [(.ref b101)]))
              refine own_callV A521 hx hZ (y := (⟨"java/lang/StringBuilder", "toString", "()Ljava/lang/String;"⟩ : MethodName)) (z := (⟨"java/lang/StringBuilder", "toString", "()Ljava/lang/String;"⟩ : MethodName)) hown (hw _ (List.mem_of_getElem? (i := 123) rfl)) (hw _ (List.mem_of_getElem? (i := 124) rfl)) (hw _ (List.mem_of_getElem? (i := 126) rfl)) (hw _ (List.mem_of_getElem? (i := 125) rfl)) (hw _ (List.mem_of_getElem? (i := 6) rfl)) (hw _ (List.mem_of_getElem? (i := 127) rfl)) (notFace_of_selects (args := #[]) (mvT hZ (hw _ (List.mem_of_getElem? (i := 126) rfl)))) (by decide) (b := b101) (argsL := []) (rest := []) E544 (rm22 l Z a0 hw b101 z_C t134 fz559 (own_rows 4 x1).length cap2 h522 n0 O533 hz S_COMPACT_STRINGS Z534 E544 F526 F527 F558 F529 V530 Y557 (by rw [ec2]; exact own_rows_lt 3 nr x1 enr) hc2) 0 (by decide) (by decide) rfl (by rw [hml]; rfl) (lenOf pd___Ljava_lang_String_ rfl) rfl (by show 2 * 0 + _ ≤ _; exact Nat.le_of_eq rfl) (hb hby d1_90) (by decide) (by decide) (fun v942 T939 h941 A940 hQ943 => ?_)
              obtain ⟨K944, s945, t946, rfl, gt947, nt948, E949, F950, F951, V952⟩ := hQ943
              have C953 : CHr Z consts_1 s.vm h0 vm278 h941 := C531.trans (CHr.keep K944 sf0 C531.1)
              have K954 : Keep h0 h941 [] := K532.trans K944 all0
              have O955 : Old Z n0 h941 := O533.keep K944 all0
              have Z956 : n0 ≤ h941.size := Nat.le_trans Z534 K944.1
              have E957 : Exa Z h941 b4 "java/lang/StringBuilder" := E535.keep K944
              have sf958 : Safe Z consts_1 vm278 h941 b4 := Safe.keep K944 sf0 C531.1 sf536
              have sf959 : Safe Z consts_1 vm278 h941 v1 := Safe.keep K944 sf0 C531.1 sf537
              have F960 : Fld Z h941 b4 "java/lang/AbstractStringBuilder" "maybeLatin1" "Z" (.int (0 : Int32)) := F538.keep K944 nin0
              have F961 : Fld Z h941 b4 "java/lang/AbstractStringBuilder" "value" "[B" (.ref v1) := F539.keep K944 nin0
              have F962 : Fld Z h941 b4 "java/lang/AbstractStringBuilder" "coder" "B" (.int (0 : Int32)) := F540.keep K944 nin0
              have F963 : Fld Z h941 b4 "java/lang/AbstractStringBuilder" "count" "I" (.int (Int32.ofNat x1.length)) := F541.keep K944 nin0
              have V964 : own_Arr Z h941 v1 .byte (Int32.ofNat cp) fz97 := V542.keep K944 nin0
              have sf965 : Safe Z consts_1 vm278 h941 b101 := Safe.keep K944 sf0 C531.1 sf543
              have E966 : Exa Z h941 b101 "java/lang/StringBuilder" := E544.keep K944
              have sf967 : Safe Z consts_1 vm278 h941 t134 := Safe.keep K944 sf0 C531.1 sf545
              have E968 : Exa Z h941 t134 "[B" := E546.keep K944
              have E969 : Exa Z h941 b163 "java/lang/String" := E547.keep K944
              have F970 : Fld Z h941 b163 "java/lang/String" "coder" "B" (.int (0 : Int32)) := F548.keep K944 nin0
              have F971 : Fld Z h941 b163 "java/lang/String" "value" "[B" (.ref b164) := F549.keep K944 nin0
              have V972 : own_Arr Z h941 b164 .byte (0 : Int32) (fun j => ([] : List Int32).getD j.toNatClampNeg 0) := V550.keep K944 nin0
              have Y973 : k279 ≤ h941.size := Nat.le_trans Y551 K944.1
              have E974 : Exa Z h941 b276 "java/lang/String" := E552.keep K944
              have F975 : Fld Z h941 b276 "java/lang/String" "coder" "B" (.int (0 : Int32)) := F553.keep K944 nin0
              have F976 : Fld Z h941 b276 "java/lang/String" "value" "[B" (.ref b277) := F554.keep K944 nin0
              have V977 : own_Arr Z h941 b277 .byte (2 : Int32) (fun j => ([44, 32] : List Int32).getD j.toNatClampNeg 0) := V555.keep K944 nin0
              have F978 : Fld Z h941 b101 "java/lang/AbstractStringBuilder" "maybeLatin1" "Z" (.int (0 : Int32)) := F529.keep K944 nin0
              have F979 : Fld Z h941 b101 "java/lang/AbstractStringBuilder" "value" "[B" (.ref t134) := F526.keep K944 nin0
              have F980 : Fld Z h941 b101 "java/lang/AbstractStringBuilder" "coder" "B" (.int (0 : Int32)) := F527.keep K944 nin0
              have F981 : Fld Z h941 b101 "java/lang/AbstractStringBuilder" "count" "I" (.int (Int32.ofNat (own_rows 4 x1).length)) := F558.keep K944 nin0
              have V982 : own_Arr Z h941 t134 .byte (Int32.ofNat cap2) fz559 := V530.keep K944 nin0
              show own_Go _ _ _ _ (T939.setTop (mkF m 93 #[.val (.int (Int32.ofNat nr)), .val (.int (Int32.ofNat nc)), .val (.ref b4), .val (.ref b101), .val (.int (4 : Int32))] [(.ref s945)]))
              refine own_retAC A940 hx hret rfl hlk (by decide) (by decide) hZ hEL hs0 C953 hS282 Y973 rfl (hb hby d1_93) ?_
              have eZ : own_vals nr nc = own_rows 4 x1 := by unfold own_vals; rw [hx1, xsT, enr]
              exact ⟨K954, s945, t946, _, rfl, E949, F950, F951, by rw [eZ]; exact V952, by rw [eZ]; exact own_Pre.wide P556 (Nat.le_refl _) (by have q : (own_rows 4 x1).length < nr * (x1.length + 2) := own_rows_lt 3 nr x1 enr; rw [← ec2] at q; omega)⟩
          ·
            refine own_go (fun t_ k_ => XS.icmpYes A439.here hx rfl (pc0 := 59) (pc' := 89) rfl (hb hby d1_59) rfl (flt hc478).2.1 (by decide) (by decide) k_) ?_
            show own_Go _ _ _ _ (T438.setTop (mkF m 89 #[.val (.int (Int32.ofNat nr)), .val (.int (Int32.ofNat nc)), .val (.ref b4), .val (.ref b101), .val (.int (3 : Int32))] []))
            have enr : nr = 3 := by have a2 := own_nge (i := 3) (by decide) (by omega) hc478; omega
            refine own_go (fun t_ k_ => XS.aloadN A439.here hx rfl (hb hby d1_89) rfl rfl k_) ?_
            show own_Go _ _ _ _ (T438.setTop (mkF m 90 #[.val (.int (Int32.ofNat nr)), .val (.int (Int32.ofNat nc)), .val (.ref b4), .val (.ref b101), .val (.int (3 : Int32))] [(.ref b101)]))
            refine own_callV A439 hx hZ (y := (⟨"java/lang/StringBuilder", "toString", "()Ljava/lang/String;"⟩ : MethodName)) (z := (⟨"java/lang/StringBuilder", "toString", "()Ljava/lang/String;"⟩ : MethodName)) hown (hw _ (List.mem_of_getElem? (i := 123) rfl)) (hw _ (List.mem_of_getElem? (i := 124) rfl)) (hw _ (List.mem_of_getElem? (i := 126) rfl)) (hw _ (List.mem_of_getElem? (i := 125) rfl)) (hw _ (List.mem_of_getElem? (i := 6) rfl)) (hw _ (List.mem_of_getElem? (i := 127) rfl)) (notFace_of_selects (args := #[]) (mvT hZ (hw _ (List.mem_of_getElem? (i := 126) rfl)))) (by decide) (b := b101) (argsL := []) (rest := []) E462 (rm22 l Z a0 hw b101 z_C t134 fz477 (own_rows 3 x1).length cap2 h440 n0 O451 hz S_COMPACT_STRINGS Z452 E462 F444 F445 F476 F447 V448 Y475 (by rw [ec2]; exact own_rows_lt 2 nr x1 enr) hc2) 0 (by decide) (by decide) rfl (by rw [hml]; rfl) (lenOf pd___Ljava_lang_String_ rfl) rfl (by show 2 * 0 + _ ≤ _; exact Nat.le_of_eq rfl) (hb hby d1_90) (by decide) (by decide) (fun v986 T983 h985 A984 hQ987 => ?_)
            obtain ⟨K988, s989, t990, rfl, gt991, nt992, E993, F994, F995, V996⟩ := hQ987
            have C997 : CHr Z consts_1 s.vm h0 vm278 h985 := C449.trans (CHr.keep K988 sf0 C449.1)
            have K998 : Keep h0 h985 [] := K450.trans K988 all0
            have O999 : Old Z n0 h985 := O451.keep K988 all0
            have Z1000 : n0 ≤ h985.size := Nat.le_trans Z452 K988.1
            have E1001 : Exa Z h985 b4 "java/lang/StringBuilder" := E453.keep K988
            have sf1002 : Safe Z consts_1 vm278 h985 b4 := Safe.keep K988 sf0 C449.1 sf454
            have sf1003 : Safe Z consts_1 vm278 h985 v1 := Safe.keep K988 sf0 C449.1 sf455
            have F1004 : Fld Z h985 b4 "java/lang/AbstractStringBuilder" "maybeLatin1" "Z" (.int (0 : Int32)) := F456.keep K988 nin0
            have F1005 : Fld Z h985 b4 "java/lang/AbstractStringBuilder" "value" "[B" (.ref v1) := F457.keep K988 nin0
            have F1006 : Fld Z h985 b4 "java/lang/AbstractStringBuilder" "coder" "B" (.int (0 : Int32)) := F458.keep K988 nin0
            have F1007 : Fld Z h985 b4 "java/lang/AbstractStringBuilder" "count" "I" (.int (Int32.ofNat x1.length)) := F459.keep K988 nin0
            have V1008 : own_Arr Z h985 v1 .byte (Int32.ofNat cp) fz97 := V460.keep K988 nin0
            have sf1009 : Safe Z consts_1 vm278 h985 b101 := Safe.keep K988 sf0 C449.1 sf461
            have E1010 : Exa Z h985 b101 "java/lang/StringBuilder" := E462.keep K988
            have sf1011 : Safe Z consts_1 vm278 h985 t134 := Safe.keep K988 sf0 C449.1 sf463
            have E1012 : Exa Z h985 t134 "[B" := E464.keep K988
            have E1013 : Exa Z h985 b163 "java/lang/String" := E465.keep K988
            have F1014 : Fld Z h985 b163 "java/lang/String" "coder" "B" (.int (0 : Int32)) := F466.keep K988 nin0
            have F1015 : Fld Z h985 b163 "java/lang/String" "value" "[B" (.ref b164) := F467.keep K988 nin0
            have V1016 : own_Arr Z h985 b164 .byte (0 : Int32) (fun j => ([] : List Int32).getD j.toNatClampNeg 0) := V468.keep K988 nin0
            have Y1017 : k279 ≤ h985.size := Nat.le_trans Y469 K988.1
            have E1018 : Exa Z h985 b276 "java/lang/String" := E470.keep K988
            have F1019 : Fld Z h985 b276 "java/lang/String" "coder" "B" (.int (0 : Int32)) := F471.keep K988 nin0
            have F1020 : Fld Z h985 b276 "java/lang/String" "value" "[B" (.ref b277) := F472.keep K988 nin0
            have V1021 : own_Arr Z h985 b277 .byte (2 : Int32) (fun j => ([44, 32] : List Int32).getD j.toNatClampNeg 0) := V473.keep K988 nin0
            have F1022 : Fld Z h985 b101 "java/lang/AbstractStringBuilder" "maybeLatin1" "Z" (.int (0 : Int32)) := F447.keep K988 nin0
            have F1023 : Fld Z h985 b101 "java/lang/AbstractStringBuilder" "value" "[B" (.ref t134) := F444.keep K988 nin0
            have F1024 : Fld Z h985 b101 "java/lang/AbstractStringBuilder" "coder" "B" (.int (0 : Int32)) := F445.keep K988 nin0
            have F1025 : Fld Z h985 b101 "java/lang/AbstractStringBuilder" "count" "I" (.int (Int32.ofNat (own_rows 3 x1).length)) := F476.keep K988 nin0
            have V1026 : own_Arr Z h985 t134 .byte (Int32.ofNat cap2) fz477 := V448.keep K988 nin0
            show own_Go _ _ _ _ (T983.setTop (mkF m 93 #[.val (.int (Int32.ofNat nr)), .val (.int (Int32.ofNat nc)), .val (.ref b4), .val (.ref b101), .val (.int (3 : Int32))] [(.ref s989)]))
            refine own_retAC A984 hx hret rfl hlk (by decide) (by decide) hZ hEL hs0 C997 hS282 Y1017 rfl (hb hby d1_93) ?_
            have eZ : own_vals nr nc = own_rows 3 x1 := by unfold own_vals; rw [hx1, xsT, enr]
            exact ⟨K998, s989, t990, _, rfl, E993, F994, F995, by rw [eZ]; exact V996, by rw [eZ]; exact own_Pre.wide P474 (Nat.le_refl _) (by have q : (own_rows 3 x1).length < nr * (x1.length + 2) := own_rows_lt 2 nr x1 enr; rw [← ec2] at q; omega)⟩
        ·
          refine own_go (fun t_ k_ => XS.icmpYes A357.here hx rfl (pc0 := 59) (pc' := 89) rfl (hb hby d1_59) rfl (flt hc396).2.1 (by decide) (by decide) k_) ?_
          show own_Go _ _ _ _ (T356.setTop (mkF m 89 #[.val (.int (Int32.ofNat nr)), .val (.int (Int32.ofNat nc)), .val (.ref b4), .val (.ref b101), .val (.int (2 : Int32))] []))
          have enr : nr = 2 := by have a2 := own_nge (i := 2) (by decide) (by omega) hc396; omega
          refine own_go (fun t_ k_ => XS.aloadN A357.here hx rfl (hb hby d1_89) rfl rfl k_) ?_
          show own_Go _ _ _ _ (T356.setTop (mkF m 90 #[.val (.int (Int32.ofNat nr)), .val (.int (Int32.ofNat nc)), .val (.ref b4), .val (.ref b101), .val (.int (2 : Int32))] [(.ref b101)]))
          refine own_callV A357 hx hZ (y := (⟨"java/lang/StringBuilder", "toString", "()Ljava/lang/String;"⟩ : MethodName)) (z := (⟨"java/lang/StringBuilder", "toString", "()Ljava/lang/String;"⟩ : MethodName)) hown (hw _ (List.mem_of_getElem? (i := 123) rfl)) (hw _ (List.mem_of_getElem? (i := 124) rfl)) (hw _ (List.mem_of_getElem? (i := 126) rfl)) (hw _ (List.mem_of_getElem? (i := 125) rfl)) (hw _ (List.mem_of_getElem? (i := 6) rfl)) (hw _ (List.mem_of_getElem? (i := 127) rfl)) (notFace_of_selects (args := #[]) (mvT hZ (hw _ (List.mem_of_getElem? (i := 126) rfl)))) (by decide) (b := b101) (argsL := []) (rest := []) E380 (rm22 l Z a0 hw b101 z_C t134 fz395 (own_rows 2 x1).length cap2 h358 n0 O369 hz S_COMPACT_STRINGS Z370 E380 F362 F363 F394 F365 V366 Y393 (by rw [ec2]; exact own_rows_lt 1 nr x1 enr) hc2) 0 (by decide) (by decide) rfl (by rw [hml]; rfl) (lenOf pd___Ljava_lang_String_ rfl) rfl (by show 2 * 0 + _ ≤ _; exact Nat.le_of_eq rfl) (hb hby d1_90) (by decide) (by decide) (fun v1030 T1027 h1029 A1028 hQ1031 => ?_)
          obtain ⟨K1032, s1033, t1034, rfl, gt1035, nt1036, E1037, F1038, F1039, V1040⟩ := hQ1031
          have C1041 : CHr Z consts_1 s.vm h0 vm278 h1029 := C367.trans (CHr.keep K1032 sf0 C367.1)
          have K1042 : Keep h0 h1029 [] := K368.trans K1032 all0
          have O1043 : Old Z n0 h1029 := O369.keep K1032 all0
          have Z1044 : n0 ≤ h1029.size := Nat.le_trans Z370 K1032.1
          have E1045 : Exa Z h1029 b4 "java/lang/StringBuilder" := E371.keep K1032
          have sf1046 : Safe Z consts_1 vm278 h1029 b4 := Safe.keep K1032 sf0 C367.1 sf372
          have sf1047 : Safe Z consts_1 vm278 h1029 v1 := Safe.keep K1032 sf0 C367.1 sf373
          have F1048 : Fld Z h1029 b4 "java/lang/AbstractStringBuilder" "maybeLatin1" "Z" (.int (0 : Int32)) := F374.keep K1032 nin0
          have F1049 : Fld Z h1029 b4 "java/lang/AbstractStringBuilder" "value" "[B" (.ref v1) := F375.keep K1032 nin0
          have F1050 : Fld Z h1029 b4 "java/lang/AbstractStringBuilder" "coder" "B" (.int (0 : Int32)) := F376.keep K1032 nin0
          have F1051 : Fld Z h1029 b4 "java/lang/AbstractStringBuilder" "count" "I" (.int (Int32.ofNat x1.length)) := F377.keep K1032 nin0
          have V1052 : own_Arr Z h1029 v1 .byte (Int32.ofNat cp) fz97 := V378.keep K1032 nin0
          have sf1053 : Safe Z consts_1 vm278 h1029 b101 := Safe.keep K1032 sf0 C367.1 sf379
          have E1054 : Exa Z h1029 b101 "java/lang/StringBuilder" := E380.keep K1032
          have sf1055 : Safe Z consts_1 vm278 h1029 t134 := Safe.keep K1032 sf0 C367.1 sf381
          have E1056 : Exa Z h1029 t134 "[B" := E382.keep K1032
          have E1057 : Exa Z h1029 b163 "java/lang/String" := E383.keep K1032
          have F1058 : Fld Z h1029 b163 "java/lang/String" "coder" "B" (.int (0 : Int32)) := F384.keep K1032 nin0
          have F1059 : Fld Z h1029 b163 "java/lang/String" "value" "[B" (.ref b164) := F385.keep K1032 nin0
          have V1060 : own_Arr Z h1029 b164 .byte (0 : Int32) (fun j => ([] : List Int32).getD j.toNatClampNeg 0) := V386.keep K1032 nin0
          have Y1061 : k279 ≤ h1029.size := Nat.le_trans Y387 K1032.1
          have E1062 : Exa Z h1029 b276 "java/lang/String" := E388.keep K1032
          have F1063 : Fld Z h1029 b276 "java/lang/String" "coder" "B" (.int (0 : Int32)) := F389.keep K1032 nin0
          have F1064 : Fld Z h1029 b276 "java/lang/String" "value" "[B" (.ref b277) := F390.keep K1032 nin0
          have V1065 : own_Arr Z h1029 b277 .byte (2 : Int32) (fun j => ([44, 32] : List Int32).getD j.toNatClampNeg 0) := V391.keep K1032 nin0
          have F1066 : Fld Z h1029 b101 "java/lang/AbstractStringBuilder" "maybeLatin1" "Z" (.int (0 : Int32)) := F365.keep K1032 nin0
          have F1067 : Fld Z h1029 b101 "java/lang/AbstractStringBuilder" "value" "[B" (.ref t134) := F362.keep K1032 nin0
          have F1068 : Fld Z h1029 b101 "java/lang/AbstractStringBuilder" "coder" "B" (.int (0 : Int32)) := F363.keep K1032 nin0
          have F1069 : Fld Z h1029 b101 "java/lang/AbstractStringBuilder" "count" "I" (.int (Int32.ofNat (own_rows 2 x1).length)) := F394.keep K1032 nin0
          have V1070 : own_Arr Z h1029 t134 .byte (Int32.ofNat cap2) fz395 := V366.keep K1032 nin0
          show own_Go _ _ _ _ (T1027.setTop (mkF m 93 #[.val (.int (Int32.ofNat nr)), .val (.int (Int32.ofNat nc)), .val (.ref b4), .val (.ref b101), .val (.int (2 : Int32))] [(.ref s1033)]))
          refine own_retAC A1028 hx hret rfl hlk (by decide) (by decide) hZ hEL hs0 C1041 hS282 Y1061 rfl (hb hby d1_93) ?_
          have eZ : own_vals nr nc = own_rows 2 x1 := by unfold own_vals; rw [hx1, xsT, enr]
          exact ⟨K1042, s1033, t1034, _, rfl, E1037, F1038, F1039, by rw [eZ]; exact V1040, by rw [eZ]; exact own_Pre.wide P392 (Nat.le_refl _) (by have q : (own_rows 2 x1).length < nr * (x1.length + 2) := own_rows_lt 1 nr x1 enr; rw [← ec2] at q; omega)⟩
      ·
        refine own_go (fun t_ k_ => XS.icmpYes A236.here hx rfl (pc0 := 59) (pc' := 89) rfl (hb hby d1_59) rfl (flt hc271).2.1 (by decide) (by decide) k_) ?_
        show own_Go _ _ _ _ (T235.setTop (mkF m 89 #[.val (.int (Int32.ofNat nr)), .val (.int (Int32.ofNat nc)), .val (.ref b4), .val (.ref b101), .val (.int (1 : Int32))] []))
        have enr : nr = 1 := by have a2 := own_nge (i := 1) (by decide) (by omega) hc271; omega
        refine own_go (fun t_ k_ => XS.aloadN A236.here hx rfl (hb hby d1_89) rfl rfl k_) ?_
        show own_Go _ _ _ _ (T235.setTop (mkF m 90 #[.val (.int (Int32.ofNat nr)), .val (.int (Int32.ofNat nc)), .val (.ref b4), .val (.ref b101), .val (.int (1 : Int32))] [(.ref b101)]))
        refine own_callV A236 hx hZ (y := (⟨"java/lang/StringBuilder", "toString", "()Ljava/lang/String;"⟩ : MethodName)) (z := (⟨"java/lang/StringBuilder", "toString", "()Ljava/lang/String;"⟩ : MethodName)) hown (hw _ (List.mem_of_getElem? (i := 123) rfl)) (hw _ (List.mem_of_getElem? (i := 124) rfl)) (hw _ (List.mem_of_getElem? (i := 126) rfl)) (hw _ (List.mem_of_getElem? (i := 125) rfl)) (hw _ (List.mem_of_getElem? (i := 6) rfl)) (hw _ (List.mem_of_getElem? (i := 127) rfl)) (notFace_of_selects (args := #[]) (mvT hZ (hw _ (List.mem_of_getElem? (i := 126) rfl)))) (by decide) (b := b101) (argsL := []) (rest := []) E259 (rm22 l Z a0 hw b101 z_C t134 fz270 (own_rows 1 x1).length cap2 h237 n0 O248 hz S_COMPACT_STRINGS Z249 E259 F241 F242 F269 F244 V245 Y268 (by rw [ec2]; exact own_rows_lt 0 nr x1 enr) hc2) 0 (by decide) (by decide) rfl (by rw [hml]; rfl) (lenOf pd___Ljava_lang_String_ rfl) rfl (by show 2 * 0 + _ ≤ _; exact Nat.le_of_eq rfl) (hb hby d1_90) (by decide) (by decide) (fun v1074 T1071 h1073 A1072 hQ1075 => ?_)
        obtain ⟨K1076, s1077, t1078, rfl, gt1079, nt1080, E1081, F1082, F1083, V1084⟩ := hQ1075
        have C1085 : CHr Z consts_1 s.vm h0 vm165 h1073 := C246.trans (CHr.keep K1076 sf0 C246.1)
        have K1086 : Keep h0 h1073 [] := K247.trans K1076 all0
        have O1087 : Old Z n0 h1073 := O248.keep K1076 all0
        have Z1088 : n0 ≤ h1073.size := Nat.le_trans Z249 K1076.1
        have E1089 : Exa Z h1073 b4 "java/lang/StringBuilder" := E250.keep K1076
        have sf1090 : Safe Z consts_1 vm165 h1073 b4 := Safe.keep K1076 sf0 C246.1 sf251
        have sf1091 : Safe Z consts_1 vm165 h1073 v1 := Safe.keep K1076 sf0 C246.1 sf252
        have F1092 : Fld Z h1073 b4 "java/lang/AbstractStringBuilder" "maybeLatin1" "Z" (.int (0 : Int32)) := F253.keep K1076 nin0
        have F1093 : Fld Z h1073 b4 "java/lang/AbstractStringBuilder" "value" "[B" (.ref v1) := F254.keep K1076 nin0
        have F1094 : Fld Z h1073 b4 "java/lang/AbstractStringBuilder" "coder" "B" (.int (0 : Int32)) := F255.keep K1076 nin0
        have F1095 : Fld Z h1073 b4 "java/lang/AbstractStringBuilder" "count" "I" (.int (Int32.ofNat x1.length)) := F256.keep K1076 nin0
        have V1096 : own_Arr Z h1073 v1 .byte (Int32.ofNat cp) fz97 := V257.keep K1076 nin0
        have sf1097 : Safe Z consts_1 vm165 h1073 b101 := Safe.keep K1076 sf0 C246.1 sf258
        have E1098 : Exa Z h1073 b101 "java/lang/StringBuilder" := E259.keep K1076
        have sf1099 : Safe Z consts_1 vm165 h1073 t134 := Safe.keep K1076 sf0 C246.1 sf260
        have E1100 : Exa Z h1073 t134 "[B" := E261.keep K1076
        have Y1101 : k166 ≤ h1073.size := Nat.le_trans Y262 K1076.1
        have E1102 : Exa Z h1073 b163 "java/lang/String" := E263.keep K1076
        have F1103 : Fld Z h1073 b163 "java/lang/String" "coder" "B" (.int (0 : Int32)) := F264.keep K1076 nin0
        have F1104 : Fld Z h1073 b163 "java/lang/String" "value" "[B" (.ref b164) := F265.keep K1076 nin0
        have V1105 : own_Arr Z h1073 b164 .byte (0 : Int32) (fun j => ([] : List Int32).getD j.toNatClampNeg 0) := V266.keep K1076 nin0
        have F1106 : Fld Z h1073 b101 "java/lang/AbstractStringBuilder" "maybeLatin1" "Z" (.int (0 : Int32)) := F244.keep K1076 nin0
        have F1107 : Fld Z h1073 b101 "java/lang/AbstractStringBuilder" "value" "[B" (.ref t134) := F241.keep K1076 nin0
        have F1108 : Fld Z h1073 b101 "java/lang/AbstractStringBuilder" "coder" "B" (.int (0 : Int32)) := F242.keep K1076 nin0
        have F1109 : Fld Z h1073 b101 "java/lang/AbstractStringBuilder" "count" "I" (.int (Int32.ofNat (own_rows 1 x1).length)) := F269.keep K1076 nin0
        have V1110 : own_Arr Z h1073 t134 .byte (Int32.ofNat cap2) fz270 := V245.keep K1076 nin0
        show own_Go _ _ _ _ (T1071.setTop (mkF m 93 #[.val (.int (Int32.ofNat nr)), .val (.int (Int32.ofNat nc)), .val (.ref b4), .val (.ref b101), .val (.int (1 : Int32))] [(.ref s1077)]))
        refine own_retAC A1072 hx hret rfl hlk (by decide) (by decide) hZ hEL hs0 C1085 hS169 Y1101 rfl (hb hby d1_93) ?_
        have eZ : own_vals nr nc = own_rows 1 x1 := by unfold own_vals; rw [hx1, xsT, enr]
        exact ⟨K1086, s1077, t1078, _, rfl, E1081, F1082, F1083, by rw [eZ]; exact V1084, by rw [eZ]; exact own_Pre.wide P267 (Nat.le_refl _) (by have q : (own_rows 1 x1).length < nr * (x1.length + 2) := own_rows_lt 0 nr x1 enr; rw [← ec2] at q; omega)⟩
    ·
      refine own_go (fun t_ k_ => XS.icmpYes A129.here hx rfl (pc0 := 59) (pc' := 89) rfl (hb hby d1_59) rfl (flt hc158).2.1 (by decide) (by decide) k_) ?_
      show own_Go _ _ _ _ (T128.setTop (mkF m 89 #[.val (.int (Int32.ofNat nr)), .val (.int (Int32.ofNat nc)), .val (.ref b4), .val (.ref b101), .val (.int (0 : Int32))] []))
      have enr : nr = 0 := by have a2 := own_nge (i := 0) (by decide) (by omega) hc158; omega
      have c20 : cap2 = 0 := by rw [ec2, enr, Nat.zero_mul]
      have V20 : own_Arr Z h130 t134 .byte (0 : Int32) (fun _ => 0) := by have q := V141; rw [c20] at q; exact q
      refine own_go (fun t_ k_ => XS.aloadN A129.here hx rfl (hb hby d1_89) rfl rfl k_) ?_
      show own_Go _ _ _ _ (T128.setTop (mkF m 90 #[.val (.int (Int32.ofNat nr)), .val (.int (Int32.ofNat nc)), .val (.ref b4), .val (.ref b101), .val (.int (0 : Int32))] [(.ref b101)]))
      refine own_callV A129 hx hZ (y := (⟨"java/lang/StringBuilder", "toString", "()Ljava/lang/String;"⟩ : MethodName)) (z := (⟨"java/lang/StringBuilder", "toString", "()Ljava/lang/String;"⟩ : MethodName)) hown (hw _ (List.mem_of_getElem? (i := 123) rfl)) (hw _ (List.mem_of_getElem? (i := 124) rfl)) (hw _ (List.mem_of_getElem? (i := 126) rfl)) (hw _ (List.mem_of_getElem? (i := 125) rfl)) (hw _ (List.mem_of_getElem? (i := 6) rfl)) (hw _ (List.mem_of_getElem? (i := 127) rfl)) (notFace_of_selects (args := #[]) (mvT hZ (hw _ (List.mem_of_getElem? (i := 126) rfl)))) (by decide) (b := b101) (argsL := []) (rest := []) E157 (rm22_0 l Z a0 hw b101 z_C t134 (fun _ => 0) h130 n0 O146 hz S_COMPACT_STRINGS Z147 E157 F137 F138 F139 F140 V20 X142) 0 (by decide) (by decide) rfl (by rw [hml]; rfl) (lenOf pd___Ljava_lang_String_ rfl) rfl (by show 2 * 0 + _ ≤ _; exact Nat.le_of_eq rfl) (hb hby d1_90) (by decide) (by decide) (fun v1114 T1111 h1113 A1112 hQ1115 => ?_)
      obtain ⟨K1116, s1117, t1118, rfl, gt1119, nt1120, E1121, F1122, F1123, V1124⟩ := hQ1115
      have C1125 : CHr Z consts_1 s.vm h0 vmT h1113 := C143.trans (CHr.keep K1116 sf0 C143.1)
      have Y1126 : kT ≤ h1113.size := Nat.le_trans Y144 K1116.1
      have K1127 : Keep h0 h1113 [] := K145.trans K1116 all0
      have O1128 : Old Z n0 h1113 := O146.keep K1116 all0
      have Z1129 : n0 ≤ h1113.size := Nat.le_trans Z147 K1116.1
      have E1130 : Exa Z h1113 b4 "java/lang/StringBuilder" := E148.keep K1116
      have sf1131 : Safe Z consts_1 vmT h1113 b4 := Safe.keep K1116 sf0 C143.1 sf149
      have sf1132 : Safe Z consts_1 vmT h1113 v1 := Safe.keep K1116 sf0 C143.1 sf150
      have F1133 : Fld Z h1113 b4 "java/lang/AbstractStringBuilder" "maybeLatin1" "Z" (.int (0 : Int32)) := F151.keep K1116 nin0
      have F1134 : Fld Z h1113 b4 "java/lang/AbstractStringBuilder" "value" "[B" (.ref v1) := F152.keep K1116 nin0
      have F1135 : Fld Z h1113 b4 "java/lang/AbstractStringBuilder" "coder" "B" (.int (0 : Int32)) := F153.keep K1116 nin0
      have F1136 : Fld Z h1113 b4 "java/lang/AbstractStringBuilder" "count" "I" (.int (Int32.ofNat x1.length)) := F154.keep K1116 nin0
      have V1137 : own_Arr Z h1113 v1 .byte (Int32.ofNat cp) fz97 := V155.keep K1116 nin0
      have sf1138 : Safe Z consts_1 vmT h1113 b101 := Safe.keep K1116 sf0 C143.1 sf156
      have E1139 : Exa Z h1113 b101 "java/lang/StringBuilder" := E157.keep K1116
      have sf1140 : Safe Z consts_1 vmT h1113 t134 := Safe.keep K1116 sf0 C143.1 sf_t134
      have E1141 : Exa Z h1113 t134 "[B" := X142.keep K1116
      have F1142 : Fld Z h1113 b101 "java/lang/AbstractStringBuilder" "maybeLatin1" "Z" (.int (0 : Int32)) := F140.keep K1116 nin0
      have F1143 : Fld Z h1113 b101 "java/lang/AbstractStringBuilder" "value" "[B" (.ref t134) := F137.keep K1116 nin0
      have F1144 : Fld Z h1113 b101 "java/lang/AbstractStringBuilder" "coder" "B" (.int (0 : Int32)) := F138.keep K1116 nin0
      have F1145 : Fld Z h1113 b101 "java/lang/AbstractStringBuilder" "count" "I" (.int (0 : Int32)) := F139.keep K1116 nin0
      have V1146 : own_Arr Z h1113 t134 .byte (0 : Int32) (fun _ => 0) := V20.keep K1116 nin0
      show own_Go _ _ _ _ (T1111.setTop (mkF m 93 #[.val (.int (Int32.ofNat nr)), .val (.int (Int32.ofNat nc)), .val (.ref b4), .val (.ref b101), .val (.int (0 : Int32))] [(.ref s1117)]))
      refine own_retAC A1112 hx hret rfl hlk (by decide) (by decide) hZ hEL hs0 C1125 hST Y1126 rfl (hb hby d1_93) ?_
      have eZ : own_vals nr nc = own_rows 0 x1 := by unfold own_vals; rw [hx1, xsT, enr]
      exact ⟨K1127, s1117, t1118, _, rfl, E1121, F1122, F1123, by rw [eZ]; exact V1124, by rw [eZ]; exact own_pre0⟩
  refine own_go (fun t_ k_ => XS.iconst A47.here hx rfl (hb hby d1_10) k_) ?_
  show own_Go _ _ _ _ (T46.setTop (mkF m 11 #[.val (.int (Int32.ofNat nr)), .val (.int (Int32.ofNat nc)), .val (.ref b4), .unset, .unset] [(.int (1 : Int32))]))
  refine own_go (fun t_ k_ => XS.istoreN A47.here hx rfl (hb hby d1_11) rfl (l' := #[.val (.int (Int32.ofNat nr)), .val (.int (Int32.ofNat nc)), .val (.ref b4), .val (.int (1 : Int32)), .unset]) rfl k_) ?_
  show own_Go _ _ _ _ (T46.setTop (mkF m 12 #[.val (.int (Int32.ofNat nr)), .val (.int (Int32.ofNat nc)), .val (.ref b4), .val (.int (1 : Int32)), .unset] []))
  refine own_go (fun t_ k_ => XS.iloadN A47.here hx rfl (hb hby d1_12) rfl k_) ?_
  show own_Go _ _ _ _ (T46.setTop (mkF m 13 #[.val (.int (Int32.ofNat nr)), .val (.int (Int32.ofNat nc)), .val (.ref b4), .val (.int (1 : Int32)), .unset] [(.int (1 : Int32))]))
  refine own_go (fun t_ k_ => XS.iloadN A47.here hx rfl (hb hby d1_13) rfl k_) ?_
  show own_Go _ _ _ _ (T46.setTop (mkF m 14 #[.val (.int (Int32.ofNat nr)), .val (.int (Int32.ofNat nc)), .val (.ref b4), .val (.int (1 : Int32)), .unset] [(.int (Int32.ofNat nc)), (.int (1 : Int32))]))
  by_cases hc1147 : (1 : Int32) < (Int32.ofNat nc)
  ·
    refine own_go (fun t_ k_ => XS.icmpNo A47.here hx rfl (hb hby d1_14) rfl (tlt hc1147).2.1 k_) ?_
    show own_Go _ _ _ _ (T46.setTop (mkF m 17 #[.val (.int (Int32.ofNat nr)), .val (.int (Int32.ofNat nc)), .val (.ref b4), .val (.int (1 : Int32)), .unset] []))
    refine own_go (fun t_ k_ => XS.aloadN A47.here hx rfl (hb hby d1_17) rfl rfl k_) ?_
    show own_Go _ _ _ _ (T46.setTop (mkF m 18 #[.val (.int (Int32.ofNat nr)), .val (.int (Int32.ofNat nc)), .val (.ref b4), .val (.int (1 : Int32)), .unset] [(.ref b4)]))
    refine own_ldcL A47 hx hZ hown (hw _ (List.mem_of_getElem? (i := 87) rfl)) (own_wS hw) hEL (by decide) C60 hS27 Y66 (xs := [44, 32, 63]) (z := (3 : Int32)) ⟨by decide +kernel, by decide +kernel⟩ (by decide) rfl rfl (hb hby d1_18) 12 (by decide +kernel) (by decide) (by decide) (by decide) (fun T1148 h1150 b1151 b1152 vm1153 k1154 A1149 E1155 R1156 hS1157 hk1158 hZ hown NE1159 Lt1164 X1160 F1161 F1162 V1163 => ?_)
    have K1165 : Keep h48 h1150 [] := (Keep.refl _ _).ext E1155
    have C1166 : CHr Z consts_1 s.vm h0 vm1153 h1150 := C60.trans R1156
    have O1167 : Old Z n0 h1150 := O61.keep K1165 all0
    have Z1168 : n0 ≤ h1150.size := Nat.le_trans Z62 K1165.1
    have K1169 : Keep h0 h1150 [] := K63.trans K1165 all0
    have sf1170 : Safe Z consts_1 vm1153 h1150 b4 := R1156.safe E65.lt sf64
    have E1171 : Exa Z h1150 b4 "java/lang/StringBuilder" := E65.keep K1165
    have E1172 : Exa Z h1150 b21 "java/lang/String" := E67.keep K1165
    have F1173 : Fld Z h1150 b21 "java/lang/String" "coder" "B" (.int (0 : Int32)) := F68.keep K1165 nin0
    have F1174 : Fld Z h1150 b21 "java/lang/String" "value" "[B" (.ref b22) := F69.keep K1165 nin0
    have V1175 : own_Arr Z h1150 b22 .byte (2 : Int32) (fun j => ([40, 63] : List Int32).getD j.toNatClampNeg 0) := V70.keep K1165 nin0
    have sf1176 : Safe Z consts_1 vm1153 h1150 t52 := R1156.safe V59.lt sf_t52
    have F1177 : Fld Z h1150 b4 "java/lang/AbstractStringBuilder" "maybeLatin1" "Z" (.int (0 : Int32)) := F58.keep K1165 nin0
    have F1178 : Fld Z h1150 b4 "java/lang/AbstractStringBuilder" "value" "[B" (.ref t52) := F55.keep K1165 nin0
    have F1179 : Fld Z h1150 b4 "java/lang/AbstractStringBuilder" "coder" "B" (.int (0 : Int32)) := F56.keep K1165 nin0
    have F1180 : Fld Z h1150 b4 "java/lang/AbstractStringBuilder" "count" "I" (.int (Int32.ofNat 2)) := F73.keep K1165 nin0
    have V1181 : own_Arr Z h1150 t52 .byte (Int32.ofNat 18) fz74 := V59.keep K1165 nin0
    obtain ⟨ne_b4_b1151, ne_b4_b1152⟩ := NE1159 _ sf1170
    obtain ⟨ne_t52_b1151, ne_t52_b1152⟩ := NE1159 _ sf1176
    show own_Go _ _ _ _ (T1148.setTop (mkF m 20 #[.val (.int (Int32.ofNat nr)), .val (.int (Int32.ofNat nc)), .val (.ref b4), .val (.int (1 : Int32)), .unset] [(.ref b1151), (.ref b4)]))
    refine own_callV A1149 hx hZ (y := (⟨"java/lang/StringBuilder", "append", "(Ljava/lang/String;)Ljava/lang/StringBuilder;"⟩ : MethodName)) (z := (⟨"java/lang/StringBuilder", "append", "(Ljava/lang/String;)Ljava/lang/StringBuilder;"⟩ : MethodName)) hown (hw _ (List.mem_of_getElem? (i := 88) rfl)) (hw _ (List.mem_of_getElem? (i := 53) rfl)) (hw _ (List.mem_of_getElem? (i := 55) rfl)) (hw _ (List.mem_of_getElem? (i := 54) rfl)) (hw _ (List.mem_of_getElem? (i := 6) rfl)) (hw _ (List.mem_of_getElem? (i := 56) rfl)) (notFace_of_selects (args := #[]) (mvT hZ (hw _ (List.mem_of_getElem? (i := 55) rfl)))) (by decide) (b := b4) (argsL := [(.ref b1151)]) (rest := []) E1171 (rm8 l Z a0 hw b4 b1151 z_C b1152 (fun j => ([44, 32, 63] : List Int32).getD j.toNatClampNeg 0) ([44, 32, 63] : List Int32) fz74 2 18 t52 h1150 n0 (S_COMPACT_STRINGS.ext O1167.2) hz E1171 F1178 F1179 F1180 F1177 V1181 (by decide) X1160 F1161 F1162 V1163 gt53 g_b4 (Ne.symm ne_b4_t52) ne_t52_b1151 ne_t52_b1152 ne_b4_b1151 ne_b4_b1152 (own_bytS _ (by decide) (by decide +kernel)) Y72 (by decide)) 0 (by decide) (by decide) rfl (by rw [hml]; rfl) (lenOf pd__Ljava_lang_String__Ljava_lang_StringBuilder_ rfl) rfl (by show 2 * 0 + _ ≤ _; exact Nat.le_of_eq rfl) (hb hby d1_20) (by decide) (by decide) (fun v1185 T1182 h1184 A1183 hQ1186 => ?_)
    obtain ⟨rfl, K1187, F1188, F1189, F1190, F1191, V1192⟩ := hQ1186
    have C1193 : CHr Z consts_1 s.vm h0 vm1153 h1184 := C1166.trans (CHr.keep K1187 (sfS sf1170 (sfS sf1176 sf0)) C1166.1)
    have O1194 : Old Z n0 h1184 := O1167.keep K1187 (allS g_b4 (allS gt53 all0))
    have Z1195 : n0 ≤ h1184.size := Nat.le_trans Z1168 K1187.1
    have K1196 : Keep h0 h1184 [] := K1169.trans K1187 (allS (Or.inr nw_b4) (allS (Or.inr nw_t52) all0))
    have sf1197 : Safe Z consts_1 vm1153 h1184 b4 := Safe.keep K1187 (sfS sf1170 (sfS sf1176 sf0)) C1166.1 sf1170
    have E1198 : Exa Z h1184 b4 "java/lang/StringBuilder" := E1171.keep K1187
    have E1199 : Exa Z h1184 b21 "java/lang/String" := E1172.keep K1187
    have F1200 : Fld Z h1184 b21 "java/lang/String" "coder" "B" (.int (0 : Int32)) := F1173.keep K1187 (ninS (Ne.symm ne_b4_b21) (ninS ne_b21_t52 nin0))
    have F1201 : Fld Z h1184 b21 "java/lang/String" "value" "[B" (.ref b22) := F1174.keep K1187 (ninS (Ne.symm ne_b4_b21) (ninS ne_b21_t52 nin0))
    have V1202 : own_Arr Z h1184 b22 .byte (2 : Int32) (fun j => ([40, 63] : List Int32).getD j.toNatClampNeg 0) := V1175.keep K1187 (ninS (Ne.symm ne_b4_b22) (ninS ne_b22_t52 nin0))
    have sf1203 : Safe Z consts_1 vm1153 h1184 t52 := Safe.keep K1187 (sfS sf1170 (sfS sf1176 sf0)) C1166.1 sf1176
    have Y1204 : k1154 ≤ h1184.size := Nat.le_trans hk1158 K1187.1
    have E1205 : Exa Z h1184 b1151 "java/lang/String" := X1160.keep K1187
    have F1206 : Fld Z h1184 b1151 "java/lang/String" "coder" "B" (.int (0 : Int32)) := F1161.keep K1187 (ninS (Ne.symm ne_b4_b1151) (ninS (Ne.symm ne_t52_b1151) nin0))
    have F1207 : Fld Z h1184 b1151 "java/lang/String" "value" "[B" (.ref b1152) := F1162.keep K1187 (ninS (Ne.symm ne_b4_b1151) (ninS (Ne.symm ne_t52_b1151) nin0))
    have V1208 : own_Arr Z h1184 b1152 .byte (3 : Int32) (fun j => ([44, 32, 63] : List Int32).getD j.toNatClampNeg 0) := V1163.keep K1187 (ninS (Ne.symm ne_b4_b1152) (ninS (Ne.symm ne_t52_b1152) nin0))
    have P1209 : own_Pre (own_cpf (fun j => ([44, 32, 63] : List Int32).getD j.toNatClampNeg 0) 0 2 ([44, 32, 63] : List Int32).length fz74) (own_col 1) := own_Pre.app (ys := own_col 0) (xs := ([44, 32, 63] : List Int32)) P71 (own_preS _ (by decide)) (by decide)
    have Y1210 : own_Byt (own_cpf (fun j => ([44, 32, 63] : List Int32).getD j.toNatClampNeg 0) 0 2 ([44, 32, 63] : List Int32).length fz74) 18 := own_Byt.cp Y72 (own_bytS _ (by decide) (by decide +kernel)) (by decide) (by decide)
    have F1211 : Fld Z h1184 b4 "java/lang/AbstractStringBuilder" "count" "I" (.int (Int32.ofNat 5)) := F1190
    generalize (own_cpf (fun j => ([44, 32, 63] : List Int32).getD j.toNatClampNeg 0) 0 2 ([44, 32, 63] : List Int32).length fz74) = fz1212 at V1192 P1209 Y1210
    show own_Go _ _ _ _ (T1182.setTop (mkF m 23 #[.val (.int (Int32.ofNat nr)), .val (.int (Int32.ofNat nc)), .val (.ref b4), .val (.int (1 : Int32)), .unset] [(.ref b4)]))
    refine own_go (fun t_ k_ => XS.pop A1183.here hx rfl (hb hby d1_23) rfl rfl k_) ?_
    show own_Go _ _ _ _ (T1182.setTop (mkF m 24 #[.val (.int (Int32.ofNat nr)), .val (.int (Int32.ofNat nc)), .val (.ref b4), .val (.int (1 : Int32)), .unset] []))
    refine own_go (fun t_ k_ => XS.iinc A1183.here hx rfl (hb hby d1_24) rfl (l' := #[.val (.int (Int32.ofNat nr)), .val (.int (Int32.ofNat nc)), .val (.ref b4), .val (.int (2 : Int32)), .unset]) rfl k_) ?_
    show own_Go _ _ _ _ (T1182.setTop (mkF m 27 #[.val (.int (Int32.ofNat nr)), .val (.int (Int32.ofNat nc)), .val (.ref b4), .val (.int (2 : Int32)), .unset] []))
    refine own_go (fun t_ k_ => XS.goto A1183.here hx rfl (pc0 := 27) (pc' := 12) rfl (hb hby d1_27) (by decide) (by decide) k_) ?_
    show own_Go _ _ _ _ (T1182.setTop (mkF m 12 #[.val (.int (Int32.ofNat nr)), .val (.int (Int32.ofNat nc)), .val (.ref b4), .val (.int (2 : Int32)), .unset] []))
    refine own_go (fun t_ k_ => XS.iloadN A1183.here hx rfl (hb hby d1_12) rfl k_) ?_
    show own_Go _ _ _ _ (T1182.setTop (mkF m 13 #[.val (.int (Int32.ofNat nr)), .val (.int (Int32.ofNat nc)), .val (.ref b4), .val (.int (2 : Int32)), .unset] [(.int (2 : Int32))]))
    refine own_go (fun t_ k_ => XS.iloadN A1183.here hx rfl (hb hby d1_13) rfl k_) ?_
    show own_Go _ _ _ _ (T1182.setTop (mkF m 14 #[.val (.int (Int32.ofNat nr)), .val (.int (Int32.ofNat nc)), .val (.ref b4), .val (.int (2 : Int32)), .unset] [(.int (Int32.ofNat nc)), (.int (2 : Int32))]))
    by_cases hc1213 : (2 : Int32) < (Int32.ofNat nc)
    ·
      refine own_go (fun t_ k_ => XS.icmpNo A1183.here hx rfl (hb hby d1_14) rfl (tlt hc1213).2.1 k_) ?_
      show own_Go _ _ _ _ (T1182.setTop (mkF m 17 #[.val (.int (Int32.ofNat nr)), .val (.int (Int32.ofNat nc)), .val (.ref b4), .val (.int (2 : Int32)), .unset] []))
      refine own_go (fun t_ k_ => XS.aloadN A1183.here hx rfl (hb hby d1_17) rfl rfl k_) ?_
      show own_Go _ _ _ _ (T1182.setTop (mkF m 18 #[.val (.int (Int32.ofNat nr)), .val (.int (Int32.ofNat nc)), .val (.ref b4), .val (.int (2 : Int32)), .unset] [(.ref b4)]))
      refine own_ldcA A1183 hx hZ hown (hw _ (List.mem_of_getElem? (i := 87) rfl)) Lt1164 rfl (hb hby d1_18) ?_
      show own_Go _ _ _ _ (T1182.setTop (mkF m 20 #[.val (.int (Int32.ofNat nr)), .val (.int (Int32.ofNat nc)), .val (.ref b4), .val (.int (2 : Int32)), .unset] [(.ref b1151), (.ref b4)]))
      refine own_callV A1183 hx hZ (y := (⟨"java/lang/StringBuilder", "append", "(Ljava/lang/String;)Ljava/lang/StringBuilder;"⟩ : MethodName)) (z := (⟨"java/lang/StringBuilder", "append", "(Ljava/lang/String;)Ljava/lang/StringBuilder;"⟩ : MethodName)) hown (hw _ (List.mem_of_getElem? (i := 88) rfl)) (hw _ (List.mem_of_getElem? (i := 53) rfl)) (hw _ (List.mem_of_getElem? (i := 55) rfl)) (hw _ (List.mem_of_getElem? (i := 54) rfl)) (hw _ (List.mem_of_getElem? (i := 6) rfl)) (hw _ (List.mem_of_getElem? (i := 56) rfl)) (notFace_of_selects (args := #[]) (mvT hZ (hw _ (List.mem_of_getElem? (i := 55) rfl)))) (by decide) (b := b4) (argsL := [(.ref b1151)]) (rest := []) E1198 (rm8 l Z a0 hw b4 b1151 z_C b1152 (fun j => ([44, 32, 63] : List Int32).getD j.toNatClampNeg 0) ([44, 32, 63] : List Int32) fz1212 5 18 t52 h1184 n0 (S_COMPACT_STRINGS.ext O1194.2) hz E1198 F1188 F1189 F1211 F1191 V1192 (by decide) E1205 F1206 F1207 V1208 gt53 g_b4 (Ne.symm ne_b4_t52) ne_t52_b1151 ne_t52_b1152 ne_b4_b1151 ne_b4_b1152 (own_bytS _ (by decide) (by decide +kernel)) Y1210 (by decide)) 0 (by decide) (by decide) rfl (by rw [hml]; rfl) (lenOf pd__Ljava_lang_String__Ljava_lang_StringBuilder_ rfl) rfl (by show 2 * 0 + _ ≤ _; exact Nat.le_of_eq rfl) (hb hby d1_20) (by decide) (by decide) (fun v1217 T1214 h1216 A1215 hQ1218 => ?_)
      obtain ⟨rfl, K1219, F1220, F1221, F1222, F1223, V1224⟩ := hQ1218
      have C1225 : CHr Z consts_1 s.vm h0 vm1153 h1216 := C1193.trans (CHr.keep K1219 (sfS sf1197 (sfS sf1203 sf0)) C1193.1)
      have O1226 : Old Z n0 h1216 := O1194.keep K1219 (allS g_b4 (allS gt53 all0))
      have Z1227 : n0 ≤ h1216.size := Nat.le_trans Z1195 K1219.1
      have K1228 : Keep h0 h1216 [] := K1196.trans K1219 (allS (Or.inr nw_b4) (allS (Or.inr nw_t52) all0))
      have sf1229 : Safe Z consts_1 vm1153 h1216 b4 := Safe.keep K1219 (sfS sf1197 (sfS sf1203 sf0)) C1193.1 sf1197
      have E1230 : Exa Z h1216 b4 "java/lang/StringBuilder" := E1198.keep K1219
      have E1231 : Exa Z h1216 b21 "java/lang/String" := E1199.keep K1219
      have F1232 : Fld Z h1216 b21 "java/lang/String" "coder" "B" (.int (0 : Int32)) := F1200.keep K1219 (ninS (Ne.symm ne_b4_b21) (ninS ne_b21_t52 nin0))
      have F1233 : Fld Z h1216 b21 "java/lang/String" "value" "[B" (.ref b22) := F1201.keep K1219 (ninS (Ne.symm ne_b4_b21) (ninS ne_b21_t52 nin0))
      have V1234 : own_Arr Z h1216 b22 .byte (2 : Int32) (fun j => ([40, 63] : List Int32).getD j.toNatClampNeg 0) := V1202.keep K1219 (ninS (Ne.symm ne_b4_b22) (ninS ne_b22_t52 nin0))
      have sf1235 : Safe Z consts_1 vm1153 h1216 t52 := Safe.keep K1219 (sfS sf1197 (sfS sf1203 sf0)) C1193.1 sf1203
      have Y1236 : k1154 ≤ h1216.size := Nat.le_trans Y1204 K1219.1
      have E1237 : Exa Z h1216 b1151 "java/lang/String" := E1205.keep K1219
      have F1238 : Fld Z h1216 b1151 "java/lang/String" "coder" "B" (.int (0 : Int32)) := F1206.keep K1219 (ninS (Ne.symm ne_b4_b1151) (ninS (Ne.symm ne_t52_b1151) nin0))
      have F1239 : Fld Z h1216 b1151 "java/lang/String" "value" "[B" (.ref b1152) := F1207.keep K1219 (ninS (Ne.symm ne_b4_b1151) (ninS (Ne.symm ne_t52_b1151) nin0))
      have V1240 : own_Arr Z h1216 b1152 .byte (3 : Int32) (fun j => ([44, 32, 63] : List Int32).getD j.toNatClampNeg 0) := V1208.keep K1219 (ninS (Ne.symm ne_b4_b1152) (ninS (Ne.symm ne_t52_b1152) nin0))
      have P1241 : own_Pre (own_cpf (fun j => ([44, 32, 63] : List Int32).getD j.toNatClampNeg 0) 0 5 ([44, 32, 63] : List Int32).length fz1212) (own_col 2) := own_Pre.app (ys := own_col 1) (xs := ([44, 32, 63] : List Int32)) P1209 (own_preS _ (by decide)) (by decide)
      have Y1242 : own_Byt (own_cpf (fun j => ([44, 32, 63] : List Int32).getD j.toNatClampNeg 0) 0 5 ([44, 32, 63] : List Int32).length fz1212) 18 := own_Byt.cp Y1210 (own_bytS _ (by decide) (by decide +kernel)) (by decide) (by decide)
      have F1243 : Fld Z h1216 b4 "java/lang/AbstractStringBuilder" "count" "I" (.int (Int32.ofNat 8)) := F1222
      generalize (own_cpf (fun j => ([44, 32, 63] : List Int32).getD j.toNatClampNeg 0) 0 5 ([44, 32, 63] : List Int32).length fz1212) = fz1244 at V1224 P1241 Y1242
      show own_Go _ _ _ _ (T1214.setTop (mkF m 23 #[.val (.int (Int32.ofNat nr)), .val (.int (Int32.ofNat nc)), .val (.ref b4), .val (.int (2 : Int32)), .unset] [(.ref b4)]))
      refine own_go (fun t_ k_ => XS.pop A1215.here hx rfl (hb hby d1_23) rfl rfl k_) ?_
      show own_Go _ _ _ _ (T1214.setTop (mkF m 24 #[.val (.int (Int32.ofNat nr)), .val (.int (Int32.ofNat nc)), .val (.ref b4), .val (.int (2 : Int32)), .unset] []))
      refine own_go (fun t_ k_ => XS.iinc A1215.here hx rfl (hb hby d1_24) rfl (l' := #[.val (.int (Int32.ofNat nr)), .val (.int (Int32.ofNat nc)), .val (.ref b4), .val (.int (3 : Int32)), .unset]) rfl k_) ?_
      show own_Go _ _ _ _ (T1214.setTop (mkF m 27 #[.val (.int (Int32.ofNat nr)), .val (.int (Int32.ofNat nc)), .val (.ref b4), .val (.int (3 : Int32)), .unset] []))
      refine own_go (fun t_ k_ => XS.goto A1215.here hx rfl (pc0 := 27) (pc' := 12) rfl (hb hby d1_27) (by decide) (by decide) k_) ?_
      show own_Go _ _ _ _ (T1214.setTop (mkF m 12 #[.val (.int (Int32.ofNat nr)), .val (.int (Int32.ofNat nc)), .val (.ref b4), .val (.int (3 : Int32)), .unset] []))
      refine own_go (fun t_ k_ => XS.iloadN A1215.here hx rfl (hb hby d1_12) rfl k_) ?_
      show own_Go _ _ _ _ (T1214.setTop (mkF m 13 #[.val (.int (Int32.ofNat nr)), .val (.int (Int32.ofNat nc)), .val (.ref b4), .val (.int (3 : Int32)), .unset] [(.int (3 : Int32))]))
      refine own_go (fun t_ k_ => XS.iloadN A1215.here hx rfl (hb hby d1_13) rfl k_) ?_
      show own_Go _ _ _ _ (T1214.setTop (mkF m 14 #[.val (.int (Int32.ofNat nr)), .val (.int (Int32.ofNat nc)), .val (.ref b4), .val (.int (3 : Int32)), .unset] [(.int (Int32.ofNat nc)), (.int (3 : Int32))]))
      by_cases hc1245 : (3 : Int32) < (Int32.ofNat nc)
      ·
        refine own_go (fun t_ k_ => XS.icmpNo A1215.here hx rfl (hb hby d1_14) rfl (tlt hc1245).2.1 k_) ?_
        show own_Go _ _ _ _ (T1214.setTop (mkF m 17 #[.val (.int (Int32.ofNat nr)), .val (.int (Int32.ofNat nc)), .val (.ref b4), .val (.int (3 : Int32)), .unset] []))
        refine own_go (fun t_ k_ => XS.aloadN A1215.here hx rfl (hb hby d1_17) rfl rfl k_) ?_
        show own_Go _ _ _ _ (T1214.setTop (mkF m 18 #[.val (.int (Int32.ofNat nr)), .val (.int (Int32.ofNat nc)), .val (.ref b4), .val (.int (3 : Int32)), .unset] [(.ref b4)]))
        refine own_ldcA A1215 hx hZ hown (hw _ (List.mem_of_getElem? (i := 87) rfl)) Lt1164 rfl (hb hby d1_18) ?_
        show own_Go _ _ _ _ (T1214.setTop (mkF m 20 #[.val (.int (Int32.ofNat nr)), .val (.int (Int32.ofNat nc)), .val (.ref b4), .val (.int (3 : Int32)), .unset] [(.ref b1151), (.ref b4)]))
        refine own_callV A1215 hx hZ (y := (⟨"java/lang/StringBuilder", "append", "(Ljava/lang/String;)Ljava/lang/StringBuilder;"⟩ : MethodName)) (z := (⟨"java/lang/StringBuilder", "append", "(Ljava/lang/String;)Ljava/lang/StringBuilder;"⟩ : MethodName)) hown (hw _ (List.mem_of_getElem? (i := 88) rfl)) (hw _ (List.mem_of_getElem? (i := 53) rfl)) (hw _ (List.mem_of_getElem? (i := 55) rfl)) (hw _ (List.mem_of_getElem? (i := 54) rfl)) (hw _ (List.mem_of_getElem? (i := 6) rfl)) (hw _ (List.mem_of_getElem? (i := 56) rfl)) (notFace_of_selects (args := #[]) (mvT hZ (hw _ (List.mem_of_getElem? (i := 55) rfl)))) (by decide) (b := b4) (argsL := [(.ref b1151)]) (rest := []) E1230 (rm8 l Z a0 hw b4 b1151 z_C b1152 (fun j => ([44, 32, 63] : List Int32).getD j.toNatClampNeg 0) ([44, 32, 63] : List Int32) fz1244 8 18 t52 h1216 n0 (S_COMPACT_STRINGS.ext O1226.2) hz E1230 F1220 F1221 F1243 F1223 V1224 (by decide) E1237 F1238 F1239 V1240 gt53 g_b4 (Ne.symm ne_b4_t52) ne_t52_b1151 ne_t52_b1152 ne_b4_b1151 ne_b4_b1152 (own_bytS _ (by decide) (by decide +kernel)) Y1242 (by decide)) 0 (by decide) (by decide) rfl (by rw [hml]; rfl) (lenOf pd__Ljava_lang_String__Ljava_lang_StringBuilder_ rfl) rfl (by show 2 * 0 + _ ≤ _; exact Nat.le_of_eq rfl) (hb hby d1_20) (by decide) (by decide) (fun v1249 T1246 h1248 A1247 hQ1250 => ?_)
        obtain ⟨rfl, K1251, F1252, F1253, F1254, F1255, V1256⟩ := hQ1250
        have C1257 : CHr Z consts_1 s.vm h0 vm1153 h1248 := C1225.trans (CHr.keep K1251 (sfS sf1229 (sfS sf1235 sf0)) C1225.1)
        have O1258 : Old Z n0 h1248 := O1226.keep K1251 (allS g_b4 (allS gt53 all0))
        have Z1259 : n0 ≤ h1248.size := Nat.le_trans Z1227 K1251.1
        have K1260 : Keep h0 h1248 [] := K1228.trans K1251 (allS (Or.inr nw_b4) (allS (Or.inr nw_t52) all0))
        have sf1261 : Safe Z consts_1 vm1153 h1248 b4 := Safe.keep K1251 (sfS sf1229 (sfS sf1235 sf0)) C1225.1 sf1229
        have E1262 : Exa Z h1248 b4 "java/lang/StringBuilder" := E1230.keep K1251
        have E1263 : Exa Z h1248 b21 "java/lang/String" := E1231.keep K1251
        have F1264 : Fld Z h1248 b21 "java/lang/String" "coder" "B" (.int (0 : Int32)) := F1232.keep K1251 (ninS (Ne.symm ne_b4_b21) (ninS ne_b21_t52 nin0))
        have F1265 : Fld Z h1248 b21 "java/lang/String" "value" "[B" (.ref b22) := F1233.keep K1251 (ninS (Ne.symm ne_b4_b21) (ninS ne_b21_t52 nin0))
        have V1266 : own_Arr Z h1248 b22 .byte (2 : Int32) (fun j => ([40, 63] : List Int32).getD j.toNatClampNeg 0) := V1234.keep K1251 (ninS (Ne.symm ne_b4_b22) (ninS ne_b22_t52 nin0))
        have sf1267 : Safe Z consts_1 vm1153 h1248 t52 := Safe.keep K1251 (sfS sf1229 (sfS sf1235 sf0)) C1225.1 sf1235
        have Y1268 : k1154 ≤ h1248.size := Nat.le_trans Y1236 K1251.1
        have E1269 : Exa Z h1248 b1151 "java/lang/String" := E1237.keep K1251
        have F1270 : Fld Z h1248 b1151 "java/lang/String" "coder" "B" (.int (0 : Int32)) := F1238.keep K1251 (ninS (Ne.symm ne_b4_b1151) (ninS (Ne.symm ne_t52_b1151) nin0))
        have F1271 : Fld Z h1248 b1151 "java/lang/String" "value" "[B" (.ref b1152) := F1239.keep K1251 (ninS (Ne.symm ne_b4_b1151) (ninS (Ne.symm ne_t52_b1151) nin0))
        have V1272 : own_Arr Z h1248 b1152 .byte (3 : Int32) (fun j => ([44, 32, 63] : List Int32).getD j.toNatClampNeg 0) := V1240.keep K1251 (ninS (Ne.symm ne_b4_b1152) (ninS (Ne.symm ne_t52_b1152) nin0))
        have P1273 : own_Pre (own_cpf (fun j => ([44, 32, 63] : List Int32).getD j.toNatClampNeg 0) 0 8 ([44, 32, 63] : List Int32).length fz1244) (own_col 3) := own_Pre.app (ys := own_col 2) (xs := ([44, 32, 63] : List Int32)) P1241 (own_preS _ (by decide)) (by decide)
        have Y1274 : own_Byt (own_cpf (fun j => ([44, 32, 63] : List Int32).getD j.toNatClampNeg 0) 0 8 ([44, 32, 63] : List Int32).length fz1244) 18 := own_Byt.cp Y1242 (own_bytS _ (by decide) (by decide +kernel)) (by decide) (by decide)
        have F1275 : Fld Z h1248 b4 "java/lang/AbstractStringBuilder" "count" "I" (.int (Int32.ofNat 11)) := F1254
        generalize (own_cpf (fun j => ([44, 32, 63] : List Int32).getD j.toNatClampNeg 0) 0 8 ([44, 32, 63] : List Int32).length fz1244) = fz1276 at V1256 P1273 Y1274
        show own_Go _ _ _ _ (T1246.setTop (mkF m 23 #[.val (.int (Int32.ofNat nr)), .val (.int (Int32.ofNat nc)), .val (.ref b4), .val (.int (3 : Int32)), .unset] [(.ref b4)]))
        refine own_go (fun t_ k_ => XS.pop A1247.here hx rfl (hb hby d1_23) rfl rfl k_) ?_
        show own_Go _ _ _ _ (T1246.setTop (mkF m 24 #[.val (.int (Int32.ofNat nr)), .val (.int (Int32.ofNat nc)), .val (.ref b4), .val (.int (3 : Int32)), .unset] []))
        refine own_go (fun t_ k_ => XS.iinc A1247.here hx rfl (hb hby d1_24) rfl (l' := #[.val (.int (Int32.ofNat nr)), .val (.int (Int32.ofNat nc)), .val (.ref b4), .val (.int (4 : Int32)), .unset]) rfl k_) ?_
        show own_Go _ _ _ _ (T1246.setTop (mkF m 27 #[.val (.int (Int32.ofNat nr)), .val (.int (Int32.ofNat nc)), .val (.ref b4), .val (.int (4 : Int32)), .unset] []))
        refine own_go (fun t_ k_ => XS.goto A1247.here hx rfl (pc0 := 27) (pc' := 12) rfl (hb hby d1_27) (by decide) (by decide) k_) ?_
        show own_Go _ _ _ _ (T1246.setTop (mkF m 12 #[.val (.int (Int32.ofNat nr)), .val (.int (Int32.ofNat nc)), .val (.ref b4), .val (.int (4 : Int32)), .unset] []))
        refine own_go (fun t_ k_ => XS.iloadN A1247.here hx rfl (hb hby d1_12) rfl k_) ?_
        show own_Go _ _ _ _ (T1246.setTop (mkF m 13 #[.val (.int (Int32.ofNat nr)), .val (.int (Int32.ofNat nc)), .val (.ref b4), .val (.int (4 : Int32)), .unset] [(.int (4 : Int32))]))
        refine own_go (fun t_ k_ => XS.iloadN A1247.here hx rfl (hb hby d1_13) rfl k_) ?_
        show own_Go _ _ _ _ (T1246.setTop (mkF m 14 #[.val (.int (Int32.ofNat nr)), .val (.int (Int32.ofNat nc)), .val (.ref b4), .val (.int (4 : Int32)), .unset] [(.int (Int32.ofNat nc)), (.int (4 : Int32))]))
        by_cases hc1277 : (4 : Int32) < (Int32.ofNat nc)
        ·
          refine own_go (fun t_ k_ => XS.icmpNo A1247.here hx rfl (hb hby d1_14) rfl (tlt hc1277).2.1 k_) ?_
          show own_Go _ _ _ _ (T1246.setTop (mkF m 17 #[.val (.int (Int32.ofNat nr)), .val (.int (Int32.ofNat nc)), .val (.ref b4), .val (.int (4 : Int32)), .unset] []))
          refine own_go (fun t_ k_ => XS.aloadN A1247.here hx rfl (hb hby d1_17) rfl rfl k_) ?_
          show own_Go _ _ _ _ (T1246.setTop (mkF m 18 #[.val (.int (Int32.ofNat nr)), .val (.int (Int32.ofNat nc)), .val (.ref b4), .val (.int (4 : Int32)), .unset] [(.ref b4)]))
          refine own_ldcA A1247 hx hZ hown (hw _ (List.mem_of_getElem? (i := 87) rfl)) Lt1164 rfl (hb hby d1_18) ?_
          show own_Go _ _ _ _ (T1246.setTop (mkF m 20 #[.val (.int (Int32.ofNat nr)), .val (.int (Int32.ofNat nc)), .val (.ref b4), .val (.int (4 : Int32)), .unset] [(.ref b1151), (.ref b4)]))
          refine own_callV A1247 hx hZ (y := (⟨"java/lang/StringBuilder", "append", "(Ljava/lang/String;)Ljava/lang/StringBuilder;"⟩ : MethodName)) (z := (⟨"java/lang/StringBuilder", "append", "(Ljava/lang/String;)Ljava/lang/StringBuilder;"⟩ : MethodName)) hown (hw _ (List.mem_of_getElem? (i := 88) rfl)) (hw _ (List.mem_of_getElem? (i := 53) rfl)) (hw _ (List.mem_of_getElem? (i := 55) rfl)) (hw _ (List.mem_of_getElem? (i := 54) rfl)) (hw _ (List.mem_of_getElem? (i := 6) rfl)) (hw _ (List.mem_of_getElem? (i := 56) rfl)) (notFace_of_selects (args := #[]) (mvT hZ (hw _ (List.mem_of_getElem? (i := 55) rfl)))) (by decide) (b := b4) (argsL := [(.ref b1151)]) (rest := []) E1262 (rm8 l Z a0 hw b4 b1151 z_C b1152 (fun j => ([44, 32, 63] : List Int32).getD j.toNatClampNeg 0) ([44, 32, 63] : List Int32) fz1276 11 18 t52 h1248 n0 (S_COMPACT_STRINGS.ext O1258.2) hz E1262 F1252 F1253 F1275 F1255 V1256 (by decide) E1269 F1270 F1271 V1272 gt53 g_b4 (Ne.symm ne_b4_t52) ne_t52_b1151 ne_t52_b1152 ne_b4_b1151 ne_b4_b1152 (own_bytS _ (by decide) (by decide +kernel)) Y1274 (by decide)) 0 (by decide) (by decide) rfl (by rw [hml]; rfl) (lenOf pd__Ljava_lang_String__Ljava_lang_StringBuilder_ rfl) rfl (by show 2 * 0 + _ ≤ _; exact Nat.le_of_eq rfl) (hb hby d1_20) (by decide) (by decide) (fun v1281 T1278 h1280 A1279 hQ1282 => ?_)
          obtain ⟨rfl, K1283, F1284, F1285, F1286, F1287, V1288⟩ := hQ1282
          have C1289 : CHr Z consts_1 s.vm h0 vm1153 h1280 := C1257.trans (CHr.keep K1283 (sfS sf1261 (sfS sf1267 sf0)) C1257.1)
          have O1290 : Old Z n0 h1280 := O1258.keep K1283 (allS g_b4 (allS gt53 all0))
          have Z1291 : n0 ≤ h1280.size := Nat.le_trans Z1259 K1283.1
          have K1292 : Keep h0 h1280 [] := K1260.trans K1283 (allS (Or.inr nw_b4) (allS (Or.inr nw_t52) all0))
          have sf1293 : Safe Z consts_1 vm1153 h1280 b4 := Safe.keep K1283 (sfS sf1261 (sfS sf1267 sf0)) C1257.1 sf1261
          have E1294 : Exa Z h1280 b4 "java/lang/StringBuilder" := E1262.keep K1283
          have E1295 : Exa Z h1280 b21 "java/lang/String" := E1263.keep K1283
          have F1296 : Fld Z h1280 b21 "java/lang/String" "coder" "B" (.int (0 : Int32)) := F1264.keep K1283 (ninS (Ne.symm ne_b4_b21) (ninS ne_b21_t52 nin0))
          have F1297 : Fld Z h1280 b21 "java/lang/String" "value" "[B" (.ref b22) := F1265.keep K1283 (ninS (Ne.symm ne_b4_b21) (ninS ne_b21_t52 nin0))
          have V1298 : own_Arr Z h1280 b22 .byte (2 : Int32) (fun j => ([40, 63] : List Int32).getD j.toNatClampNeg 0) := V1266.keep K1283 (ninS (Ne.symm ne_b4_b22) (ninS ne_b22_t52 nin0))
          have sf1299 : Safe Z consts_1 vm1153 h1280 t52 := Safe.keep K1283 (sfS sf1261 (sfS sf1267 sf0)) C1257.1 sf1267
          have Y1300 : k1154 ≤ h1280.size := Nat.le_trans Y1268 K1283.1
          have E1301 : Exa Z h1280 b1151 "java/lang/String" := E1269.keep K1283
          have F1302 : Fld Z h1280 b1151 "java/lang/String" "coder" "B" (.int (0 : Int32)) := F1270.keep K1283 (ninS (Ne.symm ne_b4_b1151) (ninS (Ne.symm ne_t52_b1151) nin0))
          have F1303 : Fld Z h1280 b1151 "java/lang/String" "value" "[B" (.ref b1152) := F1271.keep K1283 (ninS (Ne.symm ne_b4_b1151) (ninS (Ne.symm ne_t52_b1151) nin0))
          have V1304 : own_Arr Z h1280 b1152 .byte (3 : Int32) (fun j => ([44, 32, 63] : List Int32).getD j.toNatClampNeg 0) := V1272.keep K1283 (ninS (Ne.symm ne_b4_b1152) (ninS (Ne.symm ne_t52_b1152) nin0))
          have P1305 : own_Pre (own_cpf (fun j => ([44, 32, 63] : List Int32).getD j.toNatClampNeg 0) 0 11 ([44, 32, 63] : List Int32).length fz1276) (own_col 4) := own_Pre.app (ys := own_col 3) (xs := ([44, 32, 63] : List Int32)) P1273 (own_preS _ (by decide)) (by decide)
          have Y1306 : own_Byt (own_cpf (fun j => ([44, 32, 63] : List Int32).getD j.toNatClampNeg 0) 0 11 ([44, 32, 63] : List Int32).length fz1276) 18 := own_Byt.cp Y1274 (own_bytS _ (by decide) (by decide +kernel)) (by decide) (by decide)
          have F1307 : Fld Z h1280 b4 "java/lang/AbstractStringBuilder" "count" "I" (.int (Int32.ofNat 14)) := F1286
          generalize (own_cpf (fun j => ([44, 32, 63] : List Int32).getD j.toNatClampNeg 0) 0 11 ([44, 32, 63] : List Int32).length fz1276) = fz1308 at V1288 P1305 Y1306
          show own_Go _ _ _ _ (T1278.setTop (mkF m 23 #[.val (.int (Int32.ofNat nr)), .val (.int (Int32.ofNat nc)), .val (.ref b4), .val (.int (4 : Int32)), .unset] [(.ref b4)]))
          refine own_go (fun t_ k_ => XS.pop A1279.here hx rfl (hb hby d1_23) rfl rfl k_) ?_
          show own_Go _ _ _ _ (T1278.setTop (mkF m 24 #[.val (.int (Int32.ofNat nr)), .val (.int (Int32.ofNat nc)), .val (.ref b4), .val (.int (4 : Int32)), .unset] []))
          refine own_go (fun t_ k_ => XS.iinc A1279.here hx rfl (hb hby d1_24) rfl (l' := #[.val (.int (Int32.ofNat nr)), .val (.int (Int32.ofNat nc)), .val (.ref b4), .val (.int (5 : Int32)), .unset]) rfl k_) ?_
          show own_Go _ _ _ _ (T1278.setTop (mkF m 27 #[.val (.int (Int32.ofNat nr)), .val (.int (Int32.ofNat nc)), .val (.ref b4), .val (.int (5 : Int32)), .unset] []))
          refine own_go (fun t_ k_ => XS.goto A1279.here hx rfl (pc0 := 27) (pc' := 12) rfl (hb hby d1_27) (by decide) (by decide) k_) ?_
          show own_Go _ _ _ _ (T1278.setTop (mkF m 12 #[.val (.int (Int32.ofNat nr)), .val (.int (Int32.ofNat nc)), .val (.ref b4), .val (.int (5 : Int32)), .unset] []))
          refine own_go (fun t_ k_ => XS.iloadN A1279.here hx rfl (hb hby d1_12) rfl k_) ?_
          show own_Go _ _ _ _ (T1278.setTop (mkF m 13 #[.val (.int (Int32.ofNat nr)), .val (.int (Int32.ofNat nc)), .val (.ref b4), .val (.int (5 : Int32)), .unset] [(.int (5 : Int32))]))
          refine own_go (fun t_ k_ => XS.iloadN A1279.here hx rfl (hb hby d1_13) rfl k_) ?_
          show own_Go _ _ _ _ (T1278.setTop (mkF m 14 #[.val (.int (Int32.ofNat nr)), .val (.int (Int32.ofNat nc)), .val (.ref b4), .val (.int (5 : Int32)), .unset] [(.int (Int32.ofNat nc)), (.int (5 : Int32))]))
          by_cases hc1309 : (5 : Int32) < (Int32.ofNat nc)
          ·
            refine own_go (fun t_ k_ => XS.icmpNo A1279.here hx rfl (hb hby d1_14) rfl (tlt hc1309).2.1 k_) ?_
            show own_Go _ _ _ _ (T1278.setTop (mkF m 17 #[.val (.int (Int32.ofNat nr)), .val (.int (Int32.ofNat nc)), .val (.ref b4), .val (.int (5 : Int32)), .unset] []))
            refine own_go (fun t_ k_ => XS.aloadN A1279.here hx rfl (hb hby d1_17) rfl rfl k_) ?_
            show own_Go _ _ _ _ (T1278.setTop (mkF m 18 #[.val (.int (Int32.ofNat nr)), .val (.int (Int32.ofNat nc)), .val (.ref b4), .val (.int (5 : Int32)), .unset] [(.ref b4)]))
            refine own_ldcA A1279 hx hZ hown (hw _ (List.mem_of_getElem? (i := 87) rfl)) Lt1164 rfl (hb hby d1_18) ?_
            show own_Go _ _ _ _ (T1278.setTop (mkF m 20 #[.val (.int (Int32.ofNat nr)), .val (.int (Int32.ofNat nc)), .val (.ref b4), .val (.int (5 : Int32)), .unset] [(.ref b1151), (.ref b4)]))
            refine own_callV A1279 hx hZ (y := (⟨"java/lang/StringBuilder", "append", "(Ljava/lang/String;)Ljava/lang/StringBuilder;"⟩ : MethodName)) (z := (⟨"java/lang/StringBuilder", "append", "(Ljava/lang/String;)Ljava/lang/StringBuilder;"⟩ : MethodName)) hown (hw _ (List.mem_of_getElem? (i := 88) rfl)) (hw _ (List.mem_of_getElem? (i := 53) rfl)) (hw _ (List.mem_of_getElem? (i := 55) rfl)) (hw _ (List.mem_of_getElem? (i := 54) rfl)) (hw _ (List.mem_of_getElem? (i := 6) rfl)) (hw _ (List.mem_of_getElem? (i := 56) rfl)) (notFace_of_selects (args := #[]) (mvT hZ (hw _ (List.mem_of_getElem? (i := 55) rfl)))) (by decide) (b := b4) (argsL := [(.ref b1151)]) (rest := []) E1294 (rm8 l Z a0 hw b4 b1151 z_C b1152 (fun j => ([44, 32, 63] : List Int32).getD j.toNatClampNeg 0) ([44, 32, 63] : List Int32) fz1308 14 18 t52 h1280 n0 (S_COMPACT_STRINGS.ext O1290.2) hz E1294 F1284 F1285 F1307 F1287 V1288 (by decide) E1301 F1302 F1303 V1304 gt53 g_b4 (Ne.symm ne_b4_t52) ne_t52_b1151 ne_t52_b1152 ne_b4_b1151 ne_b4_b1152 (own_bytS _ (by decide) (by decide +kernel)) Y1306 (by decide)) 0 (by decide) (by decide) rfl (by rw [hml]; rfl) (lenOf pd__Ljava_lang_String__Ljava_lang_StringBuilder_ rfl) rfl (by show 2 * 0 + _ ≤ _; exact Nat.le_of_eq rfl) (hb hby d1_20) (by decide) (by decide) (fun v1313 T1310 h1312 A1311 hQ1314 => ?_)
            obtain ⟨rfl, K1315, F1316, F1317, F1318, F1319, V1320⟩ := hQ1314
            have C1321 : CHr Z consts_1 s.vm h0 vm1153 h1312 := C1289.trans (CHr.keep K1315 (sfS sf1293 (sfS sf1299 sf0)) C1289.1)
            have O1322 : Old Z n0 h1312 := O1290.keep K1315 (allS g_b4 (allS gt53 all0))
            have Z1323 : n0 ≤ h1312.size := Nat.le_trans Z1291 K1315.1
            have K1324 : Keep h0 h1312 [] := K1292.trans K1315 (allS (Or.inr nw_b4) (allS (Or.inr nw_t52) all0))
            have sf1325 : Safe Z consts_1 vm1153 h1312 b4 := Safe.keep K1315 (sfS sf1293 (sfS sf1299 sf0)) C1289.1 sf1293
            have E1326 : Exa Z h1312 b4 "java/lang/StringBuilder" := E1294.keep K1315
            have E1327 : Exa Z h1312 b21 "java/lang/String" := E1295.keep K1315
            have F1328 : Fld Z h1312 b21 "java/lang/String" "coder" "B" (.int (0 : Int32)) := F1296.keep K1315 (ninS (Ne.symm ne_b4_b21) (ninS ne_b21_t52 nin0))
            have F1329 : Fld Z h1312 b21 "java/lang/String" "value" "[B" (.ref b22) := F1297.keep K1315 (ninS (Ne.symm ne_b4_b21) (ninS ne_b21_t52 nin0))
            have V1330 : own_Arr Z h1312 b22 .byte (2 : Int32) (fun j => ([40, 63] : List Int32).getD j.toNatClampNeg 0) := V1298.keep K1315 (ninS (Ne.symm ne_b4_b22) (ninS ne_b22_t52 nin0))
            have sf1331 : Safe Z consts_1 vm1153 h1312 t52 := Safe.keep K1315 (sfS sf1293 (sfS sf1299 sf0)) C1289.1 sf1299
            have Y1332 : k1154 ≤ h1312.size := Nat.le_trans Y1300 K1315.1
            have E1333 : Exa Z h1312 b1151 "java/lang/String" := E1301.keep K1315
            have F1334 : Fld Z h1312 b1151 "java/lang/String" "coder" "B" (.int (0 : Int32)) := F1302.keep K1315 (ninS (Ne.symm ne_b4_b1151) (ninS (Ne.symm ne_t52_b1151) nin0))
            have F1335 : Fld Z h1312 b1151 "java/lang/String" "value" "[B" (.ref b1152) := F1303.keep K1315 (ninS (Ne.symm ne_b4_b1151) (ninS (Ne.symm ne_t52_b1151) nin0))
            have V1336 : own_Arr Z h1312 b1152 .byte (3 : Int32) (fun j => ([44, 32, 63] : List Int32).getD j.toNatClampNeg 0) := V1304.keep K1315 (ninS (Ne.symm ne_b4_b1152) (ninS (Ne.symm ne_t52_b1152) nin0))
            have P1337 : own_Pre (own_cpf (fun j => ([44, 32, 63] : List Int32).getD j.toNatClampNeg 0) 0 14 ([44, 32, 63] : List Int32).length fz1308) (own_col 5) := own_Pre.app (ys := own_col 4) (xs := ([44, 32, 63] : List Int32)) P1305 (own_preS _ (by decide)) (by decide)
            have Y1338 : own_Byt (own_cpf (fun j => ([44, 32, 63] : List Int32).getD j.toNatClampNeg 0) 0 14 ([44, 32, 63] : List Int32).length fz1308) 18 := own_Byt.cp Y1306 (own_bytS _ (by decide) (by decide +kernel)) (by decide) (by decide)
            have F1339 : Fld Z h1312 b4 "java/lang/AbstractStringBuilder" "count" "I" (.int (Int32.ofNat 17)) := F1318
            generalize (own_cpf (fun j => ([44, 32, 63] : List Int32).getD j.toNatClampNeg 0) 0 14 ([44, 32, 63] : List Int32).length fz1308) = fz1340 at V1320 P1337 Y1338
            show own_Go _ _ _ _ (T1310.setTop (mkF m 23 #[.val (.int (Int32.ofNat nr)), .val (.int (Int32.ofNat nc)), .val (.ref b4), .val (.int (5 : Int32)), .unset] [(.ref b4)]))
            refine own_go (fun t_ k_ => XS.pop A1311.here hx rfl (hb hby d1_23) rfl rfl k_) ?_
            show own_Go _ _ _ _ (T1310.setTop (mkF m 24 #[.val (.int (Int32.ofNat nr)), .val (.int (Int32.ofNat nc)), .val (.ref b4), .val (.int (5 : Int32)), .unset] []))
            refine own_go (fun t_ k_ => XS.iinc A1311.here hx rfl (hb hby d1_24) rfl (l' := #[.val (.int (Int32.ofNat nr)), .val (.int (Int32.ofNat nc)), .val (.ref b4), .val (.int (6 : Int32)), .unset]) rfl k_) ?_
            show own_Go _ _ _ _ (T1310.setTop (mkF m 27 #[.val (.int (Int32.ofNat nr)), .val (.int (Int32.ofNat nc)), .val (.ref b4), .val (.int (6 : Int32)), .unset] []))
            refine own_go (fun t_ k_ => XS.goto A1311.here hx rfl (pc0 := 27) (pc' := 12) rfl (hb hby d1_27) (by decide) (by decide) k_) ?_
            show own_Go _ _ _ _ (T1310.setTop (mkF m 12 #[.val (.int (Int32.ofNat nr)), .val (.int (Int32.ofNat nc)), .val (.ref b4), .val (.int (6 : Int32)), .unset] []))
            refine own_go (fun t_ k_ => XS.iloadN A1311.here hx rfl (hb hby d1_12) rfl k_) ?_
            show own_Go _ _ _ _ (T1310.setTop (mkF m 13 #[.val (.int (Int32.ofNat nr)), .val (.int (Int32.ofNat nc)), .val (.ref b4), .val (.int (6 : Int32)), .unset] [(.int (6 : Int32))]))
            refine own_go (fun t_ k_ => XS.iloadN A1311.here hx rfl (hb hby d1_13) rfl k_) ?_
            show own_Go _ _ _ _ (T1310.setTop (mkF m 14 #[.val (.int (Int32.ofNat nr)), .val (.int (Int32.ofNat nc)), .val (.ref b4), .val (.int (6 : Int32)), .unset] [(.int (Int32.ofNat nc)), (.int (6 : Int32))]))
            by_cases hc1341 : (6 : Int32) < (Int32.ofNat nc)
            ·
              refine own_go (fun t_ k_ => XS.icmpNo A1311.here hx rfl (hb hby d1_14) rfl (tlt hc1341).2.1 k_) ?_
              show own_Go _ _ _ _ (T1310.setTop (mkF m 17 #[.val (.int (Int32.ofNat nr)), .val (.int (Int32.ofNat nc)), .val (.ref b4), .val (.int (6 : Int32)), .unset] []))
              refine own_go (fun t_ k_ => XS.aloadN A1311.here hx rfl (hb hby d1_17) rfl rfl k_) ?_
              show own_Go _ _ _ _ (T1310.setTop (mkF m 18 #[.val (.int (Int32.ofNat nr)), .val (.int (Int32.ofNat nc)), .val (.ref b4), .val (.int (6 : Int32)), .unset] [(.ref b4)]))
              refine own_ldcA A1311 hx hZ hown (hw _ (List.mem_of_getElem? (i := 87) rfl)) Lt1164 rfl (hb hby d1_18) ?_
              show own_Go _ _ _ _ (T1310.setTop (mkF m 20 #[.val (.int (Int32.ofNat nr)), .val (.int (Int32.ofNat nc)), .val (.ref b4), .val (.int (6 : Int32)), .unset] [(.ref b1151), (.ref b4)]))
              refine own_callV A1311 hx hZ (y := (⟨"java/lang/StringBuilder", "append", "(Ljava/lang/String;)Ljava/lang/StringBuilder;"⟩ : MethodName)) (z := (⟨"java/lang/StringBuilder", "append", "(Ljava/lang/String;)Ljava/lang/StringBuilder;"⟩ : MethodName)) hown (hw _ (List.mem_of_getElem? (i := 88) rfl)) (hw _ (List.mem_of_getElem? (i := 53) rfl)) (hw _ (List.mem_of_getElem? (i := 55) rfl)) (hw _ (List.mem_of_getElem? (i := 54) rfl)) (hw _ (List.mem_of_getElem? (i := 6) rfl)) (hw _ (List.mem_of_getElem? (i := 56) rfl)) (notFace_of_selects (args := #[]) (mvT hZ (hw _ (List.mem_of_getElem? (i := 55) rfl)))) (by decide) (b := b4) (argsL := [(.ref b1151)]) (rest := []) E1326 (rm8_g38 l Z a0 hw b4 b1151 z_C b1152 (fun j => ([44, 32, 63] : List Int32).getD j.toNatClampNeg 0) ([44, 32, 63] : List Int32) fz1340 t52 h1312 n0 O1322 hz S_COMPACT_STRINGS Z1323 E1326 F1316 F1317 F1339 F1319 V1320 E1333 F1334 F1335 V1336 g_b4 (Ne.symm ne_b4_t52) ne_b4_b1151 ne_b4_b1152 (own_bytS _ (by decide) (by decide +kernel)) Y1338 rfl) 0 (by decide) (by decide) rfl (by rw [hml]; rfl) (lenOf pd__Ljava_lang_String__Ljava_lang_StringBuilder_ rfl) rfl (by show 2 * 0 + _ ≤ _; exact Nat.le_of_eq rfl) (hb hby d1_20) (by decide) (by decide) (fun v1345 T1342 h1344 A1343 hQ1346 => ?_)
              obtain ⟨rfl, K1347, t1348, gt1349, nt1350, F1351, F1352, F1353, F1354, V1355⟩ := hQ1346
              have ne_b4_t1348 : b4 ≠ t1348 := Nat.ne_of_lt (Nat.lt_of_lt_of_le E1326.lt nt1350)
              have ne_b21_t1348 : b21 ≠ t1348 := Nat.ne_of_lt (Nat.lt_of_lt_of_le E1327.lt nt1350)
              have ne_b22_t1348 : b22 ≠ t1348 := Nat.ne_of_lt (Nat.lt_of_lt_of_le V1330.lt nt1350)
              have ne_b1151_t1348 : b1151 ≠ t1348 := Nat.ne_of_lt (Nat.lt_of_lt_of_le E1333.lt nt1350)
              have ne_b1152_t1348 : b1152 ≠ t1348 := Nat.ne_of_lt (Nat.lt_of_lt_of_le V1336.lt nt1350)
              have ne_t52_t1348 : t52 ≠ t1348 := Nat.ne_of_lt (Nat.lt_of_lt_of_le V1320.lt nt1350)
              have nw_t1348 : h0.size ≤ t1348 := Nat.le_trans K1324.1 nt1350
              have sf_t1348 : Safe Z consts_1 vm1153 h1344 t1348 := Safe.keep K1347 (sfS sf1325 sf0) C1321.1 (Safe.new nt1350)
              have C1356 : CHr Z consts_1 s.vm h0 vm1153 h1344 := C1321.trans (CHr.keep K1347 (sfS sf1325 sf0) C1321.1)
              have O1357 : Old Z n0 h1344 := O1322.keep K1347 (allS g_b4 all0)
              have Z1358 : n0 ≤ h1344.size := Nat.le_trans Z1323 K1347.1
              have K1359 : Keep h0 h1344 [] := K1324.trans K1347 (allS (Or.inr nw_b4) all0)
              have sf1360 : Safe Z consts_1 vm1153 h1344 b4 := Safe.keep K1347 (sfS sf1325 sf0) C1321.1 sf1325
              have E1361 : Exa Z h1344 b4 "java/lang/StringBuilder" := E1326.keep K1347
              have E1362 : Exa Z h1344 b21 "java/lang/String" := E1327.keep K1347
              have F1363 : Fld Z h1344 b21 "java/lang/String" "coder" "B" (.int (0 : Int32)) := F1328.keep K1347 (ninS (Ne.symm ne_b4_b21) nin0)
              have F1364 : Fld Z h1344 b21 "java/lang/String" "value" "[B" (.ref b22) := F1329.keep K1347 (ninS (Ne.symm ne_b4_b21) nin0)
              have V1365 : own_Arr Z h1344 b22 .byte (2 : Int32) (fun j => ([40, 63] : List Int32).getD j.toNatClampNeg 0) := V1330.keep K1347 (ninS (Ne.symm ne_b4_b22) nin0)
              have sf1366 : Safe Z consts_1 vm1153 h1344 t52 := Safe.keep K1347 (sfS sf1325 sf0) C1321.1 sf1331
              have Y1367 : k1154 ≤ h1344.size := Nat.le_trans Y1332 K1347.1
              have E1368 : Exa Z h1344 b1151 "java/lang/String" := E1333.keep K1347
              have F1369 : Fld Z h1344 b1151 "java/lang/String" "coder" "B" (.int (0 : Int32)) := F1334.keep K1347 (ninS (Ne.symm ne_b4_b1151) nin0)
              have F1370 : Fld Z h1344 b1151 "java/lang/String" "value" "[B" (.ref b1152) := F1335.keep K1347 (ninS (Ne.symm ne_b4_b1151) nin0)
              have V1371 : own_Arr Z h1344 b1152 .byte (3 : Int32) (fun j => ([44, 32, 63] : List Int32).getD j.toNatClampNeg 0) := V1336.keep K1347 (ninS (Ne.symm ne_b4_b1152) nin0)
              have V1372 : own_Arr Z h1344 t52 .byte (Int32.ofNat 18) fz1340 := V1320.keep K1347 (ninS (Ne.symm ne_b4_t52) nin0)
              have P1373 : own_Pre (own_cpf (fun j => ([44, 32, 63] : List Int32).getD j.toNatClampNeg 0) 0 17 ([44, 32, 63] : List Int32).length (own_cpf fz1340 0 0 18 (fun _ => 0))) (own_col 6) := own_Pre.app (ys := own_col 5) (xs := ([44, 32, 63] : List Int32)) (own_Pre.wide P1337 (by decide) (by decide)) (own_preS _ (by decide)) (by decide)
              have Y1374 : own_Byt (own_cpf (fun j => ([44, 32, 63] : List Int32).getD j.toNatClampNeg 0) 0 17 ([44, 32, 63] : List Int32).length (own_cpf fz1340 0 0 18 (fun _ => 0))) 38 := own_Byt.cp (own_Byt.cp (nb := 38) (na := 18) (fun k hk => rfl) Y1338 (by decide) (by decide)) (own_bytS _ (by decide) (by decide +kernel)) (by decide) (by decide)
              have F1375 : Fld Z h1344 b4 "java/lang/AbstractStringBuilder" "count" "I" (.int (Int32.ofNat 20)) := F1353
              generalize (own_cpf (fun j => ([44, 32, 63] : List Int32).getD j.toNatClampNeg 0) 0 17 ([44, 32, 63] : List Int32).length (own_cpf fz1340 0 0 18 (fun _ => 0))) = fz1376 at V1355 P1373 Y1374
              show own_Go _ _ _ _ (T1342.setTop (mkF m 23 #[.val (.int (Int32.ofNat nr)), .val (.int (Int32.ofNat nc)), .val (.ref b4), .val (.int (6 : Int32)), .unset] [(.ref b4)]))
              refine own_go (fun t_ k_ => XS.pop A1343.here hx rfl (hb hby d1_23) rfl rfl k_) ?_
              show own_Go _ _ _ _ (T1342.setTop (mkF m 24 #[.val (.int (Int32.ofNat nr)), .val (.int (Int32.ofNat nc)), .val (.ref b4), .val (.int (6 : Int32)), .unset] []))
              refine own_go (fun t_ k_ => XS.iinc A1343.here hx rfl (hb hby d1_24) rfl (l' := #[.val (.int (Int32.ofNat nr)), .val (.int (Int32.ofNat nc)), .val (.ref b4), .val (.int (7 : Int32)), .unset]) rfl k_) ?_
              show own_Go _ _ _ _ (T1342.setTop (mkF m 27 #[.val (.int (Int32.ofNat nr)), .val (.int (Int32.ofNat nc)), .val (.ref b4), .val (.int (7 : Int32)), .unset] []))
              refine own_go (fun t_ k_ => XS.goto A1343.here hx rfl (pc0 := 27) (pc' := 12) rfl (hb hby d1_27) (by decide) (by decide) k_) ?_
              show own_Go _ _ _ _ (T1342.setTop (mkF m 12 #[.val (.int (Int32.ofNat nr)), .val (.int (Int32.ofNat nc)), .val (.ref b4), .val (.int (7 : Int32)), .unset] []))
              refine own_go (fun t_ k_ => XS.iloadN A1343.here hx rfl (hb hby d1_12) rfl k_) ?_
              show own_Go _ _ _ _ (T1342.setTop (mkF m 13 #[.val (.int (Int32.ofNat nr)), .val (.int (Int32.ofNat nc)), .val (.ref b4), .val (.int (7 : Int32)), .unset] [(.int (7 : Int32))]))
              refine own_go (fun t_ k_ => XS.iloadN A1343.here hx rfl (hb hby d1_13) rfl k_) ?_
              show own_Go _ _ _ _ (T1342.setTop (mkF m 14 #[.val (.int (Int32.ofNat nr)), .val (.int (Int32.ofNat nc)), .val (.ref b4), .val (.int (7 : Int32)), .unset] [(.int (Int32.ofNat nc)), (.int (7 : Int32))]))
              by_cases hc1377 : (7 : Int32) < (Int32.ofNat nc)
              ·
                refine own_go (fun t_ k_ => XS.icmpNo A1343.here hx rfl (hb hby d1_14) rfl (tlt hc1377).2.1 k_) ?_
                show own_Go _ _ _ _ (T1342.setTop (mkF m 17 #[.val (.int (Int32.ofNat nr)), .val (.int (Int32.ofNat nc)), .val (.ref b4), .val (.int (7 : Int32)), .unset] []))
                refine own_go (fun t_ k_ => XS.aloadN A1343.here hx rfl (hb hby d1_17) rfl rfl k_) ?_
                show own_Go _ _ _ _ (T1342.setTop (mkF m 18 #[.val (.int (Int32.ofNat nr)), .val (.int (Int32.ofNat nc)), .val (.ref b4), .val (.int (7 : Int32)), .unset] [(.ref b4)]))
                refine own_ldcA A1343 hx hZ hown (hw _ (List.mem_of_getElem? (i := 87) rfl)) Lt1164 rfl (hb hby d1_18) ?_
                show own_Go _ _ _ _ (T1342.setTop (mkF m 20 #[.val (.int (Int32.ofNat nr)), .val (.int (Int32.ofNat nc)), .val (.ref b4), .val (.int (7 : Int32)), .unset] [(.ref b1151), (.ref b4)]))
                refine own_callV A1343 hx hZ (y := (⟨"java/lang/StringBuilder", "append", "(Ljava/lang/String;)Ljava/lang/StringBuilder;"⟩ : MethodName)) (z := (⟨"java/lang/StringBuilder", "append", "(Ljava/lang/String;)Ljava/lang/StringBuilder;"⟩ : MethodName)) hown (hw _ (List.mem_of_getElem? (i := 88) rfl)) (hw _ (List.mem_of_getElem? (i := 53) rfl)) (hw _ (List.mem_of_getElem? (i := 55) rfl)) (hw _ (List.mem_of_getElem? (i := 54) rfl)) (hw _ (List.mem_of_getElem? (i := 6) rfl)) (hw _ (List.mem_of_getElem? (i := 56) rfl)) (notFace_of_selects (args := #[]) (mvT hZ (hw _ (List.mem_of_getElem? (i := 55) rfl)))) (by decide) (b := b4) (argsL := [(.ref b1151)]) (rest := []) E1361 (rm8 l Z a0 hw b4 b1151 z_C b1152 (fun j => ([44, 32, 63] : List Int32).getD j.toNatClampNeg 0) ([44, 32, 63] : List Int32) fz1376 20 38 t1348 h1344 n0 (S_COMPACT_STRINGS.ext O1357.2) hz E1361 F1351 F1352 F1375 F1354 V1355 (by decide) E1368 F1369 F1370 V1371 gt1349 g_b4 (Ne.symm ne_b4_t1348) (Ne.symm ne_b1151_t1348) (Ne.symm ne_b1152_t1348) ne_b4_b1151 ne_b4_b1152 (own_bytS _ (by decide) (by decide +kernel)) Y1374 (by decide)) 0 (by decide) (by decide) rfl (by rw [hml]; rfl) (lenOf pd__Ljava_lang_String__Ljava_lang_StringBuilder_ rfl) rfl (by show 2 * 0 + _ ≤ _; exact Nat.le_of_eq rfl) (hb hby d1_20) (by decide) (by decide) (fun v1381 T1378 h1380 A1379 hQ1382 => ?_)
                obtain ⟨rfl, K1383, F1384, F1385, F1386, F1387, V1388⟩ := hQ1382
                have C1389 : CHr Z consts_1 s.vm h0 vm1153 h1380 := C1356.trans (CHr.keep K1383 (sfS sf1360 (sfS sf_t1348 sf0)) C1356.1)
                have O1390 : Old Z n0 h1380 := O1357.keep K1383 (allS g_b4 (allS gt1349 all0))
                have Z1391 : n0 ≤ h1380.size := Nat.le_trans Z1358 K1383.1
                have K1392 : Keep h0 h1380 [] := K1359.trans K1383 (allS (Or.inr nw_b4) (allS (Or.inr nw_t1348) all0))
                have sf1393 : Safe Z consts_1 vm1153 h1380 b4 := Safe.keep K1383 (sfS sf1360 (sfS sf_t1348 sf0)) C1356.1 sf1360
                have E1394 : Exa Z h1380 b4 "java/lang/StringBuilder" := E1361.keep K1383
                have E1395 : Exa Z h1380 b21 "java/lang/String" := E1362.keep K1383
                have F1396 : Fld Z h1380 b21 "java/lang/String" "coder" "B" (.int (0 : Int32)) := F1363.keep K1383 (ninS (Ne.symm ne_b4_b21) (ninS ne_b21_t1348 nin0))
                have F1397 : Fld Z h1380 b21 "java/lang/String" "value" "[B" (.ref b22) := F1364.keep K1383 (ninS (Ne.symm ne_b4_b21) (ninS ne_b21_t1348 nin0))
                have V1398 : own_Arr Z h1380 b22 .byte (2 : Int32) (fun j => ([40, 63] : List Int32).getD j.toNatClampNeg 0) := V1365.keep K1383 (ninS (Ne.symm ne_b4_b22) (ninS ne_b22_t1348 nin0))
                have sf1399 : Safe Z consts_1 vm1153 h1380 t52 := Safe.keep K1383 (sfS sf1360 (sfS sf_t1348 sf0)) C1356.1 sf1366
                have Y1400 : k1154 ≤ h1380.size := Nat.le_trans Y1367 K1383.1
                have E1401 : Exa Z h1380 b1151 "java/lang/String" := E1368.keep K1383
                have F1402 : Fld Z h1380 b1151 "java/lang/String" "coder" "B" (.int (0 : Int32)) := F1369.keep K1383 (ninS (Ne.symm ne_b4_b1151) (ninS ne_b1151_t1348 nin0))
                have F1403 : Fld Z h1380 b1151 "java/lang/String" "value" "[B" (.ref b1152) := F1370.keep K1383 (ninS (Ne.symm ne_b4_b1151) (ninS ne_b1151_t1348 nin0))
                have V1404 : own_Arr Z h1380 b1152 .byte (3 : Int32) (fun j => ([44, 32, 63] : List Int32).getD j.toNatClampNeg 0) := V1371.keep K1383 (ninS (Ne.symm ne_b4_b1152) (ninS ne_b1152_t1348 nin0))
                have V1405 : own_Arr Z h1380 t52 .byte (Int32.ofNat 18) fz1340 := V1372.keep K1383 (ninS (Ne.symm ne_b4_t52) (ninS ne_t52_t1348 nin0))
                have sf1406 : Safe Z consts_1 vm1153 h1380 t1348 := Safe.keep K1383 (sfS sf1360 (sfS sf_t1348 sf0)) C1356.1 sf_t1348
                have P1407 : own_Pre (own_cpf (fun j => ([44, 32, 63] : List Int32).getD j.toNatClampNeg 0) 0 20 ([44, 32, 63] : List Int32).length fz1376) (own_col 7) := own_Pre.app (ys := own_col 6) (xs := ([44, 32, 63] : List Int32)) P1373 (own_preS _ (by decide)) (by decide)
                have Y1408 : own_Byt (own_cpf (fun j => ([44, 32, 63] : List Int32).getD j.toNatClampNeg 0) 0 20 ([44, 32, 63] : List Int32).length fz1376) 38 := own_Byt.cp Y1374 (own_bytS _ (by decide) (by decide +kernel)) (by decide) (by decide)
                have F1409 : Fld Z h1380 b4 "java/lang/AbstractStringBuilder" "count" "I" (.int (Int32.ofNat 23)) := F1386
                generalize (own_cpf (fun j => ([44, 32, 63] : List Int32).getD j.toNatClampNeg 0) 0 20 ([44, 32, 63] : List Int32).length fz1376) = fz1410 at V1388 P1407 Y1408
                show own_Go _ _ _ _ (T1378.setTop (mkF m 23 #[.val (.int (Int32.ofNat nr)), .val (.int (Int32.ofNat nc)), .val (.ref b4), .val (.int (7 : Int32)), .unset] [(.ref b4)]))
                refine own_go (fun t_ k_ => XS.pop A1379.here hx rfl (hb hby d1_23) rfl rfl k_) ?_
                show own_Go _ _ _ _ (T1378.setTop (mkF m 24 #[.val (.int (Int32.ofNat nr)), .val (.int (Int32.ofNat nc)), .val (.ref b4), .val (.int (7 : Int32)), .unset] []))
                refine own_go (fun t_ k_ => XS.iinc A1379.here hx rfl (hb hby d1_24) rfl (l' := #[.val (.int (Int32.ofNat nr)), .val (.int (Int32.ofNat nc)), .val (.ref b4), .val (.int (8 : Int32)), .unset]) rfl k_) ?_
                show own_Go _ _ _ _ (T1378.setTop (mkF m 27 #[.val (.int (Int32.ofNat nr)), .val (.int (Int32.ofNat nc)), .val (.ref b4), .val (.int (8 : Int32)), .unset] []))
                refine own_go (fun t_ k_ => XS.goto A1379.here hx rfl (pc0 := 27) (pc' := 12) rfl (hb hby d1_27) (by decide) (by decide) k_) ?_
                show own_Go _ _ _ _ (T1378.setTop (mkF m 12 #[.val (.int (Int32.ofNat nr)), .val (.int (Int32.ofNat nc)), .val (.ref b4), .val (.int (8 : Int32)), .unset] []))
                refine own_go (fun t_ k_ => XS.iloadN A1379.here hx rfl (hb hby d1_12) rfl k_) ?_
                show own_Go _ _ _ _ (T1378.setTop (mkF m 13 #[.val (.int (Int32.ofNat nr)), .val (.int (Int32.ofNat nc)), .val (.ref b4), .val (.int (8 : Int32)), .unset] [(.int (8 : Int32))]))
                refine own_go (fun t_ k_ => XS.iloadN A1379.here hx rfl (hb hby d1_13) rfl k_) ?_
                show own_Go _ _ _ _ (T1378.setTop (mkF m 14 #[.val (.int (Int32.ofNat nr)), .val (.int (Int32.ofNat nc)), .val (.ref b4), .val (.int (8 : Int32)), .unset] [(.int (Int32.ofNat nc)), (.int (8 : Int32))]))
                have hc1411 : ¬ ((8 : Int32) < (Int32.ofNat nc)) := (fun z => by have := (own_nlt (i := 8) (by decide) (by omega)).mp z; omega)
                refine own_go (fun t_ k_ => XS.icmpYes A1379.here hx rfl (pc0 := 14) (pc' := 30) rfl (hb hby d1_14) rfl (flt hc1411).2.1 (by decide) (by decide) k_) ?_
                show own_Go _ _ _ _ (T1378.setTop (mkF m 30 #[.val (.int (Int32.ofNat nr)), .val (.int (Int32.ofNat nc)), .val (.ref b4), .val (.int (8 : Int32)), .unset] []))
                have enc : nc = 8 := by have a1 := (own_nlt (i := 7) (by decide) (by omega)).mp hc1377; have a2 := hcl.2; omega
                exact tail _ _ _ _ t1348 38 fz1410 (own_col 7) (8 : Int32) hZ hown (A1379.mono (by decide) (by decide)) C1389 hS1157 Y1400 K1392 O1390 Z1391 E1394 F1384 F1385 F1409 F1387 V1388 gt1349 nw_t1348 (Ne.symm ne_b4_t1348) sf1393 sf1406 P1407 Y1408 (by decide) (by decide) (by rw [enc])
              ·
                refine own_go (fun t_ k_ => XS.icmpYes A1343.here hx rfl (pc0 := 14) (pc' := 30) rfl (hb hby d1_14) rfl (flt hc1377).2.1 (by decide) (by decide) k_) ?_
                show own_Go _ _ _ _ (T1342.setTop (mkF m 30 #[.val (.int (Int32.ofNat nr)), .val (.int (Int32.ofNat nc)), .val (.ref b4), .val (.int (7 : Int32)), .unset] []))
                have enc : nc = 7 := by have a1 := (own_nlt (i := 6) (by decide) (by omega)).mp hc1341; have a2 := (own_nge (i := 7) (by decide) (by omega) hc1377); omega
                exact tail _ _ _ _ t1348 38 fz1376 (own_col 6) (7 : Int32) hZ hown (A1343.mono (by decide) (by decide)) C1356 hS1157 Y1367 K1359 O1357 Z1358 E1361 F1351 F1352 F1375 F1354 V1355 gt1349 nw_t1348 (Ne.symm ne_b4_t1348) sf1360 sf_t1348 P1373 Y1374 (by decide) (by decide) (by rw [enc])
            ·
              refine own_go (fun t_ k_ => XS.icmpYes A1311.here hx rfl (pc0 := 14) (pc' := 30) rfl (hb hby d1_14) rfl (flt hc1341).2.1 (by decide) (by decide) k_) ?_
              show own_Go _ _ _ _ (T1310.setTop (mkF m 30 #[.val (.int (Int32.ofNat nr)), .val (.int (Int32.ofNat nc)), .val (.ref b4), .val (.int (6 : Int32)), .unset] []))
              have enc : nc = 6 := by have a1 := (own_nlt (i := 5) (by decide) (by omega)).mp hc1309; have a2 := (own_nge (i := 6) (by decide) (by omega) hc1341); omega
              exact tail _ _ _ _ t52 18 fz1340 (own_col 5) (6 : Int32) hZ hown (A1311.mono (by decide) (by decide)) C1321 hS1157 Y1332 K1324 O1322 Z1323 E1326 F1316 F1317 F1339 F1319 V1320 gt53 nw_t52 (Ne.symm ne_b4_t52) sf1325 sf1331 P1337 Y1338 (by decide) (by decide) (by rw [enc])
          ·
            refine own_go (fun t_ k_ => XS.icmpYes A1279.here hx rfl (pc0 := 14) (pc' := 30) rfl (hb hby d1_14) rfl (flt hc1309).2.1 (by decide) (by decide) k_) ?_
            show own_Go _ _ _ _ (T1278.setTop (mkF m 30 #[.val (.int (Int32.ofNat nr)), .val (.int (Int32.ofNat nc)), .val (.ref b4), .val (.int (5 : Int32)), .unset] []))
            have enc : nc = 5 := by have a1 := (own_nlt (i := 4) (by decide) (by omega)).mp hc1277; have a2 := (own_nge (i := 5) (by decide) (by omega) hc1309); omega
            exact tail _ _ _ _ t52 18 fz1308 (own_col 4) (5 : Int32) hZ hown (A1279.mono (by decide) (by decide)) C1289 hS1157 Y1300 K1292 O1290 Z1291 E1294 F1284 F1285 F1307 F1287 V1288 gt53 nw_t52 (Ne.symm ne_b4_t52) sf1293 sf1299 P1305 Y1306 (by decide) (by decide) (by rw [enc])
        ·
          refine own_go (fun t_ k_ => XS.icmpYes A1247.here hx rfl (pc0 := 14) (pc' := 30) rfl (hb hby d1_14) rfl (flt hc1277).2.1 (by decide) (by decide) k_) ?_
          show own_Go _ _ _ _ (T1246.setTop (mkF m 30 #[.val (.int (Int32.ofNat nr)), .val (.int (Int32.ofNat nc)), .val (.ref b4), .val (.int (4 : Int32)), .unset] []))
          have enc : nc = 4 := by have a1 := (own_nlt (i := 3) (by decide) (by omega)).mp hc1245; have a2 := (own_nge (i := 4) (by decide) (by omega) hc1277); omega
          exact tail _ _ _ _ t52 18 fz1276 (own_col 3) (4 : Int32) hZ hown (A1247.mono (by decide) (by decide)) C1257 hS1157 Y1268 K1260 O1258 Z1259 E1262 F1252 F1253 F1275 F1255 V1256 gt53 nw_t52 (Ne.symm ne_b4_t52) sf1261 sf1267 P1273 Y1274 (by decide) (by decide) (by rw [enc])
      ·
        refine own_go (fun t_ k_ => XS.icmpYes A1215.here hx rfl (pc0 := 14) (pc' := 30) rfl (hb hby d1_14) rfl (flt hc1245).2.1 (by decide) (by decide) k_) ?_
        show own_Go _ _ _ _ (T1214.setTop (mkF m 30 #[.val (.int (Int32.ofNat nr)), .val (.int (Int32.ofNat nc)), .val (.ref b4), .val (.int (3 : Int32)), .unset] []))
        have enc : nc = 3 := by have a1 := (own_nlt (i := 2) (by decide) (by omega)).mp hc1213; have a2 := (own_nge (i := 3) (by decide) (by omega) hc1245); omega
        exact tail _ _ _ _ t52 18 fz1244 (own_col 2) (3 : Int32) hZ hown (A1215.mono (by decide) (by decide)) C1225 hS1157 Y1236 K1228 O1226 Z1227 E1230 F1220 F1221 F1243 F1223 V1224 gt53 nw_t52 (Ne.symm ne_b4_t52) sf1229 sf1235 P1241 Y1242 (by decide) (by decide) (by rw [enc])
    ·
      refine own_go (fun t_ k_ => XS.icmpYes A1183.here hx rfl (pc0 := 14) (pc' := 30) rfl (hb hby d1_14) rfl (flt hc1213).2.1 (by decide) (by decide) k_) ?_
      show own_Go _ _ _ _ (T1182.setTop (mkF m 30 #[.val (.int (Int32.ofNat nr)), .val (.int (Int32.ofNat nc)), .val (.ref b4), .val (.int (2 : Int32)), .unset] []))
      have enc : nc = 2 := by have a1 := (own_nlt (i := 1) (by decide) (by omega)).mp hc1147; have a2 := (own_nge (i := 2) (by decide) (by omega) hc1213); omega
      exact tail _ _ _ _ t52 18 fz1212 (own_col 1) (2 : Int32) hZ hown (A1183.mono (by decide) (by decide)) C1193 hS1157 Y1204 K1196 O1194 Z1195 E1198 F1188 F1189 F1211 F1191 V1192 gt53 nw_t52 (Ne.symm ne_b4_t52) sf1197 sf1203 P1209 Y1210 (by decide) (by decide) (by rw [enc])
  ·
    refine own_go (fun t_ k_ => XS.icmpYes A47.here hx rfl (pc0 := 14) (pc' := 30) rfl (hb hby d1_14) rfl (flt hc1147).2.1 (by decide) (by decide) k_) ?_
    show own_Go _ _ _ _ (T46.setTop (mkF m 30 #[.val (.int (Int32.ofNat nr)), .val (.int (Int32.ofNat nc)), .val (.ref b4), .val (.int (1 : Int32)), .unset] []))
    have enc : nc = 1 := by have a1 := hcl.1; have a2 := (own_nge (i := 1) (by decide) (by omega) hc1147); omega
    exact tail _ _ _ _ t52 18 fz74 (own_col 0) (1 : Int32) hZ hown (A47.mono (by decide) (by decide)) C60 hS27 Y66 K63 O61 Z62 E65 F55 F56 F73 F58 V59 gt53 nw_t52 (Ne.symm ne_b4_t52) sf64 sf_t52 P71 Y72 (by decide) (by decide) (by rw [enc])
theorem ef_27 (m : MethodId) (r0 : Addr) : entryFrame m #[(.ref r0)] 1 = mkF m 0 #[.val (.ref r0)] [] := by first | (simp [entryFrame, mkF, argsToLocals, Value.category]; done) | rfl
theorem d27_0 : decode jdk_42_method_55_code 0 = .ok (.aload_n 0, 1) := by decide +kernel
theorem d27_1 : decode jdk_42_method_55_code 1 = .ok (.getfield 9, 3) := by decide +kernel
theorem d27_4 : decode jdk_42_method_55_code 4 = .ok (.arraylength, 1) := by decide +kernel
theorem d27_5 : decode jdk_42_method_55_code 5 = .ok (.ifCond .ne 7, 3) := by decide +kernel
theorem d27_8 : decode jdk_42_method_55_code 8 = .ok (.iconst 1, 1) := by decide +kernel
theorem d27_9 : decode jdk_42_method_55_code 9 = .ok (.goto 4, 3) := by decide +kernel
theorem d27_13 : decode jdk_42_method_55_code 13 = .ok (.ireturn, 1) := by decide +kernel
set_option maxRecDepth 65536 in
set_option maxHeartbeats 40000000 in
theorem rm27 (l : Launch) (Z : State) (a0 : Array Value) (hw : ∀ d ∈ tables_1, d.before a0 Z = true) (r0 : Addr) (t0 : Addr) (g : Int32 → Int32) (h0 : Heap) (n0 : Nat) (Fv : Fld Z h0 r0 "java/lang/String" "value" "[B" (.ref t0)) (V0 : own_Arr Z h0 t0 .byte (0 : Int32) g) :
    own_Met l Z n0 (⟨"java/lang/String", "isEmpty", "()Z"⟩ : MethodName) jdk_42_method_55_code 1 (some .boolean) ({ frames := 0, cells := 0, slots := 0, locals := 0 } : Room) #[(.ref r0)] h0 (fun v h => v = some (.int 1) ∧ h0 = h) := by
  refine own_met (plainFor_of_name pn_6) ?_
  intro p e s m below meth c T0 hx hby hml hown hnm hret hlk hZ A0
  rw [ef_27]
  show own_Go _ _ _ _ (T0.setTop (mkF m 0 #[.val (.ref r0)] []))
  refine own_go (fun t_ k_ => XS.aloadN A0.here hx rfl (hb hby d27_0) rfl rfl k_) ?_
  show own_Go _ _ _ _ (T0.setTop (mkF m 1 #[.val (.ref r0)] [(.ref r0)]))
  refine own_getF A0 hx hZ hown (host := "") (Or.inl (hw _ (List.mem_of_getElem? (i := 32) rfl))) Via.refl Fv rfl rfl (hb hby d27_1) (fun T1 A2 => ?_)
  show own_Go _ _ _ _ (T1.setTop (mkF m 4 #[.val (.ref r0)] [(.ref t0)]))
  refine own_len A2 hx hZ V0 rfl rfl (hb hby d27_4) ?_
  show own_Go _ _ _ _ (T1.setTop (mkF m 5 #[.val (.ref r0)] [(.int (0 : Int32))]))
  have hc3 : (0 : Int32) = (0 : Int32) := (by decide)
  refine own_go (fun t_ k_ => XS.ifNo A2.here hx rfl (hb hby d27_5) rfl ((if0 _ _).trans (teq hc3).2) k_) ?_
  show own_Go _ _ _ _ (T1.setTop (mkF m 8 #[.val (.ref r0)] []))
  refine own_go (fun t_ k_ => XS.iconst A2.here hx rfl (hb hby d27_8) k_) ?_
  show own_Go _ _ _ _ (T1.setTop (mkF m 9 #[.val (.ref r0)] [(.int (1 : Int32))]))
  refine own_go (fun t_ k_ => XS.goto A2.here hx rfl (pc0 := 9) (pc' := 13) rfl (hb hby d27_9) (by decide) (by decide) k_) ?_
  show own_Go _ _ _ _ (T1.setTop (mkF m 13 #[.val (.ref r0)] [(.int (1 : Int32))]))
  refine own_retN A2 hx (t := .boolean) hret (by simp) hlk (by decide) (by decide) (hb hby d27_13) ?_
  exact ⟨rfl, rfl⟩
theorem ef_41 (m : MethodId) (p0 : Int32) (p1 : Int32) (u2 : Value) (hr_u2 : u2.isRef = true) : entryFrame m #[(.int p0), (.int p1), u2] 3 = mkF m 0 #[.val (.int p0), .val (.int p1), .val u2] [] := by
  cases u2 <;> first | rfl | contradiction
theorem pn_41 : plainName "jdk/internal/util/Preconditions" = true := by first | (simp [plainName, overriddenIn]; done) | decide +kernel
theorem d41_0 : decode jdk_41_method_11_code 0 = .ok (.iload_n 0, 1) := by decide +kernel
theorem d41_1 : decode jdk_41_method_11_code 1 = .ok (.ifCond .lt 8, 3) := by decide +kernel
theorem d41_4 : decode jdk_41_method_11_code 4 = .ok (.iload_n 0, 1) := by decide +kernel
theorem d41_5 : decode jdk_41_method_11_code 5 = .ok (.iload_n 1, 1) := by decide +kernel
theorem d41_6 : decode jdk_41_method_11_code 6 = .ok (.if_icmp .lt 10, 3) := by decide +kernel
theorem d41_16 : decode jdk_41_method_11_code 16 = .ok (.iload_n 0, 1) := by decide +kernel
theorem d41_17 : decode jdk_41_method_11_code 17 = .ok (.ireturn, 1) := by decide +kernel
def f41 (p0 : Int32) (p1 : Int32) (u2 : Value) : Int32 := p0
set_option maxRecDepth 65536 in
set_option maxHeartbeats 40000000 in
theorem rm41 (l : Launch) (Z : State) (a0 : Array Value) (hw : ∀ d ∈ tables_1, d.before a0 Z = true) (p0 : Int32) (p1 : Int32) (u2 : Value) (h0 : Heap) (n0 : Nat) (hr_u2 : u2.isRef = true) (hi0 : ¬ p0 < 0) (hi1 : p0 < p1) :
    own_Met l Z n0 (⟨"jdk/internal/util/Preconditions", "checkIndex", "(IILjava/util/function/BiFunction;)I"⟩ : MethodName) jdk_41_method_11_code 3 (some .int) ({ frames := 0, cells := 0, slots := 0, locals := 0 } : Room) #[(.int p0), (.int p1), u2] h0 (fun v h => v = some (.int (f41 p0 p1 u2)) ∧ h0 = h) := by
  refine own_met (plainFor_of_name pn_41) ?_
  intro p e s m below meth c T0 hx hby hml hown hnm hret hlk hZ A0
  rw [ef_41 m p0 p1 u2 hr_u2]
  show own_Go _ _ _ _ (T0.setTop (mkF m 0 #[.val (.int p0), .val (.int p1), .val u2] []))
  refine own_go (fun t_ k_ => XS.iloadN A0.here hx rfl (hb hby d41_0) rfl k_) ?_
  show own_Go _ _ _ _ (T0.setTop (mkF m 1 #[.val (.int p0), .val (.int p1), .val u2] [(.int p0)]))
  have hc1 : ¬ (p0 < (0 : Int32)) := hi0
  refine own_go (fun t_ k_ => XS.ifNo A0.here hx rfl (hb hby d41_1) rfl ((if0 _ _).trans (flt hc1).1) k_) ?_
  show own_Go _ _ _ _ (T0.setTop (mkF m 4 #[.val (.int p0), .val (.int p1), .val u2] []))
  refine own_go (fun t_ k_ => XS.iloadN A0.here hx rfl (hb hby d41_4) rfl k_) ?_
  show own_Go _ _ _ _ (T0.setTop (mkF m 5 #[.val (.int p0), .val (.int p1), .val u2] [(.int p0)]))
  refine own_go (fun t_ k_ => XS.iloadN A0.here hx rfl (hb hby d41_5) rfl k_) ?_
  show own_Go _ _ _ _ (T0.setTop (mkF m 6 #[.val (.int p0), .val (.int p1), .val u2] [(.int p1), (.int p0)]))
  have hc2 : p0 < p1 := hi1
  refine own_go (fun t_ k_ => XS.icmpYes A0.here hx rfl (pc0 := 6) (pc' := 16) rfl (hb hby d41_6) rfl (tlt hc2).1 (by decide) (by decide) k_) ?_
  show own_Go _ _ _ _ (T0.setTop (mkF m 16 #[.val (.int p0), .val (.int p1), .val u2] []))
  refine own_go (fun t_ k_ => XS.iloadN A0.here hx rfl (hb hby d41_16) rfl k_) ?_
  show own_Go _ _ _ _ (T0.setTop (mkF m 17 #[.val (.int p0), .val (.int p1), .val u2] [(.int p0)]))
  refine own_retI A0 hx hret hlk (by decide) (by decide) (hb hby d41_17) ?_
  exact ⟨rfl, rfl⟩
theorem ef_40 (m : MethodId) (p0 : Int32) (p1 : Int32) : entryFrame m #[(.int p0), (.int p1)] 2 = mkF m 0 #[.val (.int p0), .val (.int p1)] [] := by first | (simp [entryFrame, mkF, argsToLocals, Value.category]; done) | rfl
theorem d40_0 : decode jdk_42_method_155_code 0 = .ok (.iload_n 0, 1) := by decide +kernel
theorem d40_1 : decode jdk_42_method_155_code 1 = .ok (.iload_n 1, 1) := by decide +kernel
theorem d40_2 : decode jdk_42_method_155_code 2 = .ok (.getstatic 1053, 3) := by decide +kernel
theorem d40_5 : decode jdk_42_method_155_code 5 = .ok (.invokestatic 1059, 3) := by decide +kernel
theorem pd__IILjava_util_function_BiFunction__I : parseMethodDescriptor "(IILjava/util/function/BiFunction;)I" = some ⟨[.int, .int, (.object "java/util/function/BiFunction")], some .int⟩ := by decide +kernel
theorem d40_8 : decode jdk_42_method_155_code 8 = .ok (.pop, 1) := by decide +kernel
theorem d40_9 : decode jdk_42_method_155_code 9 = .ok (.return_, 1) := by decide +kernel
set_option maxRecDepth 65536 in
set_option maxHeartbeats 40000000 in
theorem rm40 (l : Launch) (Z : State) (a0 : Array Value) (hw : ∀ d ∈ tables_1, d.before a0 Z = true) (p0 : Int32) (p1 : Int32) (s_F : Value) (h0 : Heap) (n0 : Nat) (hi0 : ¬ p0 < 0) (hi1 : p0 < p1) (S_F : Sta Z h0 "jdk/internal/util/Preconditions" "SIOOBE_FORMATTER" "Ljava/util/function/BiFunction;" s_F) (hr_F : s_F.isRef = true) :
    own_Met l Z n0 (⟨"java/lang/String", "checkIndex", "(II)V"⟩ : MethodName) jdk_42_method_155_code 2 none ({ frames := 1, cells := 0, slots := 0, locals := 14 } : Room) #[(.int p0), (.int p1)] h0 (fun v h => v = none ∧ h0 = h) := by
  refine own_met (plainFor_of_name pn_6) ?_
  intro p e s m below meth c T0 hx hby hml hown hnm hret hlk hZ A0
  rw [ef_40]
  show own_Go _ _ _ _ (T0.setTop (mkF m 0 #[.val (.int p0), .val (.int p1)] []))
  refine own_go (fun t_ k_ => XS.iloadN A0.here hx rfl (hb hby d40_0) rfl k_) ?_
  show own_Go _ _ _ _ (T0.setTop (mkF m 1 #[.val (.int p0), .val (.int p1)] [(.int p0)]))
  refine own_go (fun t_ k_ => XS.iloadN A0.here hx rfl (hb hby d40_1) rfl k_) ?_
  show own_Go _ _ _ _ (T0.setTop (mkF m 2 #[.val (.int p0), .val (.int p1)] [(.int p1), (.int p0)]))
  refine own_getS A0 hx hZ hown (host := "") (Or.inl (hw _ (List.mem_of_getElem? (i := 230) rfl))) Via.refl S_F rfl (hb hby d40_2) (fun T1 A2 => ?_)
  show own_Go _ _ _ _ (T1.setTop (mkF m 5 #[.val (.int p0), .val (.int p1)] [s_F, (.int p1), (.int p0)]))
  refine own_callS A2 hx hZ hown (y := (⟨"jdk/internal/util/Preconditions", "checkIndex", "(IILjava/util/function/BiFunction;)I"⟩ : MethodName)) (hw _ (List.mem_of_getElem? (i := 232) rfl)) (hw _ (List.mem_of_getElem? (i := 233) rfl)) (hw _ (List.mem_of_getElem? (i := 231) rfl)) (hw _ (List.mem_of_getElem? (i := 234) rfl)) (by decide) (argsL := [(.int p0), (.int p1), s_F]) (rest := []) (rm41 l Z a0 hw p0 p1 s_F h0 n0 hr_F hi0 hi1) 0 (by decide) (by decide) rfl (by rw [hml]; rfl) (lenOf pd__IILjava_util_function_BiFunction__I rfl) rfl (by show 2 * 0 + _ ≤ _; exact Nat.le_of_eq rfl) (hb hby d40_5) (by decide) (by decide) (fun v6 T3 h5 A4 hQ7 => ?_)
  obtain ⟨rfl, rfl⟩ := hQ7
  show own_Go _ _ _ _ (T3.setTop (mkF m 8 #[.val (.int p0), .val (.int p1)] [(.int (f41 p0 p1 s_F))]))
  refine own_go (fun t_ k_ => XS.pop A4.here hx rfl (hb hby d40_8) rfl rfl k_) ?_
  show own_Go _ _ _ _ (T3.setTop (mkF m 9 #[.val (.int p0), .val (.int p1)] []))
  refine own_retV A4 hx hret hlk (by decide) (by decide) (hb hby d40_9) ?_
  exact ⟨rfl, rfl⟩
theorem ef_38 (m : MethodId) (r0 : Addr) : entryFrame m #[(.ref r0)] 1 = mkF m 0 #[.val (.ref r0)] [] := by first | (simp [entryFrame, mkF, argsToLocals, Value.category]; done) | rfl
theorem d38_0 : decode jdk_42_method_154_code 0 = .ok (.getstatic 38, 3) := by decide +kernel
theorem d38_3 : decode jdk_42_method_154_code 3 = .ok (.ifCond .eq 14, 3) := by decide +kernel
theorem d38_6 : decode jdk_42_method_154_code 6 = .ok (.aload_n 0, 1) := by decide +kernel
theorem d38_7 : decode jdk_42_method_154_code 7 = .ok (.getfield 15, 3) := by decide +kernel
theorem d38_10 : decode jdk_42_method_154_code 10 = .ok (.ifCond .ne 7, 3) := by decide +kernel
theorem d38_13 : decode jdk_42_method_154_code 13 = .ok (.iconst 1, 1) := by decide +kernel
theorem d38_14 : decode jdk_42_method_154_code 14 = .ok (.goto 4, 3) := by decide +kernel
theorem d38_18 : decode jdk_42_method_154_code 18 = .ok (.ireturn, 1) := by decide +kernel
def f38 (z_C : Int32) : Int32 := (1 : Int32)
set_option maxRecDepth 65536 in
set_option maxHeartbeats 40000000 in
theorem rm38 (l : Launch) (Z : State) (a0 : Array Value) (hw : ∀ d ∈ tables_1, d.before a0 Z = true) (r0 : Addr) (z_C : Int32) (h0 : Heap) (n0 : Nat) (Fc : Fld Z h0 r0 "java/lang/String" "coder" "B" (.int (0 : Int32))) (S_C : Sta Z h0 "java/lang/String" "COMPACT_STRINGS" "Z" (.int z_C)) (hz : ¬ z_C = 0) :
    own_Met l Z n0 (⟨"java/lang/String", "isLatin1", "()Z"⟩ : MethodName) jdk_42_method_154_code 1 (some .boolean) ({ frames := 0, cells := 0, slots := 0, locals := 0 } : Room) #[(.ref r0)] h0 (fun v h => v = some (.int (f38 z_C)) ∧ h0 = h) := by
  refine own_met (plainFor_of_name pn_6) ?_
  intro p e s m below meth c T0 hx hby hml hown hnm hret hlk hZ A0
  rw [ef_38]
  show own_Go _ _ _ _ (T0.setTop (mkF m 0 #[.val (.ref r0)] []))
  refine own_getS A0 hx hZ hown (host := "") (Or.inl (hw _ (List.mem_of_getElem? (i := 38) rfl))) Via.refl S_C rfl (hb hby d38_0) (fun T1 A2 => ?_)
  show own_Go _ _ _ _ (T1.setTop (mkF m 3 #[.val (.ref r0)] [(.int z_C)]))
  have hc3 : ¬ (z_C = (0 : Int32)) := hz
  refine own_go (fun t_ k_ => XS.ifNo A2.here hx rfl (hb hby d38_3) rfl ((if0 _ _).trans (feq hc3).1) k_) ?_
  show own_Go _ _ _ _ (T1.setTop (mkF m 6 #[.val (.ref r0)] []))
  refine own_go (fun t_ k_ => XS.aloadN A2.here hx rfl (hb hby d38_6) rfl rfl k_) ?_
  show own_Go _ _ _ _ (T1.setTop (mkF m 7 #[.val (.ref r0)] [(.ref r0)]))
  refine own_getF A2 hx hZ hown (host := "") (Or.inl (hw _ (List.mem_of_getElem? (i := 39) rfl))) Via.refl Fc rfl rfl (hb hby d38_7) (fun T4 A5 => ?_)
  show own_Go _ _ _ _ (T4.setTop (mkF m 10 #[.val (.ref r0)] [(.int (0 : Int32))]))
  have hc6 : (0 : Int32) = (0 : Int32) := (by decide)
  refine own_go (fun t_ k_ => XS.ifNo A5.here hx rfl (hb hby d38_10) rfl ((if0 _ _).trans (teq hc6).2) k_) ?_
  show own_Go _ _ _ _ (T4.setTop (mkF m 13 #[.val (.ref r0)] []))
  refine own_go (fun t_ k_ => XS.iconst A5.here hx rfl (hb hby d38_13) k_) ?_
  show own_Go _ _ _ _ (T4.setTop (mkF m 14 #[.val (.ref r0)] [(.int (1 : Int32))]))
  refine own_go (fun t_ k_ => XS.goto A5.here hx rfl (pc0 := 14) (pc' := 18) rfl (hb hby d38_14) (by decide) (by decide) k_) ?_
  show own_Go _ _ _ _ (T4.setTop (mkF m 18 #[.val (.ref r0)] [(.int (1 : Int32))]))
  refine own_retN A5 hx (t := .boolean) hret (by simp) hlk (by decide) (by decide) (hb hby d38_18) ?_
  exact ⟨rfl, rfl⟩
theorem ef_39 (m : MethodId) (r0 : Addr) (p1 : Int32) : entryFrame m #[(.ref r0), (.int p1)] 2 = mkF m 0 #[.val (.ref r0), .val (.int p1)] [] := by first | (simp [entryFrame, mkF, argsToLocals, Value.category]; done) | rfl
theorem d39_0 : decode jdk_43_method_2_code 0 = .ok (.iload_n 1, 1) := by decide +kernel
theorem d39_1 : decode jdk_43_method_2_code 1 = .ok (.aload_n 0, 1) := by decide +kernel
theorem d39_2 : decode jdk_43_method_2_code 2 = .ok (.arraylength, 1) := by decide +kernel
theorem d39_3 : decode jdk_43_method_2_code 3 = .ok (.invokestatic 9, 3) := by decide +kernel
theorem d39_6 : decode jdk_43_method_2_code 6 = .ok (.aload_n 0, 1) := by decide +kernel
theorem d39_7 : decode jdk_43_method_2_code 7 = .ok (.iload_n 1, 1) := by decide +kernel
theorem d39_8 : decode jdk_43_method_2_code 8 = .ok (.baload, 1) := by decide +kernel
theorem d39_9 : decode jdk_43_method_2_code 9 = .ok (.sipush 255, 3) := by decide +kernel
theorem d39_12 : decode jdk_43_method_2_code 12 = .ok (.iand, 1) := by decide +kernel
theorem d39_13 : decode jdk_43_method_2_code 13 = .ok (.i2c, 1) := by decide +kernel
theorem d39_14 : decode jdk_43_method_2_code 14 = .ok (.ireturn, 1) := by decide +kernel
def f39 (p1 : Int32) (g : Int32 → Int32) (s_F : Value) (nn : Nat) : Int32 := (nar .char (((g p1) &&& (255 : Int32)).toUInt32.toUInt16.toUInt32.toInt32))
set_option maxRecDepth 65536 in
set_option maxHeartbeats 40000000 in
theorem rm39 (l : Launch) (Z : State) (a0 : Array Value) (hw : ∀ d ∈ tables_1, d.before a0 Z = true) (r0 : Addr) (p1 : Int32) (g : Int32 → Int32) (s_F : Value) (nn : Nat) (h0 : Heap) (n0 : Nat) (V0 : own_Arr Z h0 r0 .byte (Int32.ofNat nn) g) (hi0 : ¬ p1 < 0) (hi1 : p1 < (Int32.ofNat nn)) (S_F : Sta Z h0 "jdk/internal/util/Preconditions" "SIOOBE_FORMATTER" "Ljava/util/function/BiFunction;" s_F) (hr_F : s_F.isRef = true) :
    own_Met l Z n0 (⟨"java/lang/StringLatin1", "charAt", "([BI)C"⟩ : MethodName) jdk_43_method_2_code 2 (some .char) ({ frames := 2, cells := 0, slots := 0, locals := 27 } : Room) #[(.ref r0), (.int p1)] h0 (fun v h => v = some (.int (f39 p1 g s_F nn)) ∧ h0 = h) := by
  refine own_met (plainFor_of_name pn_17) ?_
  intro p e s m below meth c T0 hx hby hml hown hnm hret hlk hZ A0
  rw [ef_39]
  show own_Go _ _ _ _ (T0.setTop (mkF m 0 #[.val (.ref r0), .val (.int p1)] []))
  refine own_go (fun t_ k_ => XS.iloadN A0.here hx rfl (hb hby d39_0) rfl k_) ?_
  show own_Go _ _ _ _ (T0.setTop (mkF m 1 #[.val (.ref r0), .val (.int p1)] [(.int p1)]))
  refine own_go (fun t_ k_ => XS.aloadN A0.here hx rfl (hb hby d39_1) rfl rfl k_) ?_
  show own_Go _ _ _ _ (T0.setTop (mkF m 2 #[.val (.ref r0), .val (.int p1)] [(.ref r0), (.int p1)]))
  refine own_len A0 hx hZ V0 rfl rfl (hb hby d39_2) ?_
  show own_Go _ _ _ _ (T0.setTop (mkF m 3 #[.val (.ref r0), .val (.int p1)] [(.int (Int32.ofNat nn)), (.int p1)]))
  refine own_callS A0 hx hZ hown (y := (⟨"java/lang/String", "checkIndex", "(II)V"⟩ : MethodName)) (hw _ (List.mem_of_getElem? (i := 227) rfl)) (hw _ (List.mem_of_getElem? (i := 228) rfl)) (hw _ (List.mem_of_getElem? (i := 8) rfl)) (hw _ (List.mem_of_getElem? (i := 229) rfl)) (by decide) (argsL := [(.int p1), (.int (Int32.ofNat nn))]) (rest := []) (rm40 l Z a0 hw p1 (Int32.ofNat nn) s_F h0 n0 hi0 hi1 S_F hr_F) 0 (by decide) (by decide) rfl (by rw [hml]; rfl) (lenOf pd__II_V rfl) rfl (by show 2 * 0 + _ ≤ _; exact Nat.le_of_eq rfl) (hb hby d39_3) (by decide) (by decide) (fun v4 T1 h3 A2 hQ5 => ?_)
  obtain ⟨rfl, rfl⟩ := hQ5
  show own_Go _ _ _ _ (T1.setTop (mkF m 6 #[.val (.ref r0), .val (.int p1)] []))
  refine own_go (fun t_ k_ => XS.aloadN A2.here hx rfl (hb hby d39_6) rfl rfl k_) ?_
  show own_Go _ _ _ _ (T1.setTop (mkF m 7 #[.val (.ref r0), .val (.int p1)] [(.ref r0)]))
  refine own_go (fun t_ k_ => XS.iloadN A2.here hx rfl (hb hby d39_7) rfl k_) ?_
  show own_Go _ _ _ _ (T1.setTop (mkF m 8 #[.val (.ref r0), .val (.int p1)] [(.int p1), (.ref r0)]))
  refine own_ldB A2 hx hZ V0 ⟨hi0, hi1⟩ rfl rfl (hb hby d39_8) ?_
  show own_Go _ _ _ _ (T1.setTop (mkF m 9 #[.val (.ref r0), .val (.int p1)] [(.int (g p1))]))
  refine own_go (fun t_ k_ => XS.sipush A2.here hx rfl (hb hby d39_9) k_) ?_
  show own_Go _ _ _ _ (T1.setTop (mkF m 12 #[.val (.ref r0), .val (.int p1)] [(.int (255 : Int32)), (.int (g p1))]))
  refine own_go (fun t_ k_ => XS.iand A2.here hx rfl (hb hby d39_12) rfl k_) ?_
  show own_Go _ _ _ _ (T1.setTop (mkF m 13 #[.val (.ref r0), .val (.int p1)] [(.int ((g p1) &&& (255 : Int32)))]))
  refine own_go (fun t_ k_ => XS.i2c A2.here hx rfl (hb hby d39_13) rfl k_) ?_
  show own_Go _ _ _ _ (T1.setTop (mkF m 14 #[.val (.ref r0), .val (.int p1)] [(.int (((g p1) &&& (255 : Int32)).toUInt32.toUInt16.toUInt32.toInt32))]))
  refine own_retN A2 hx (t := .char) hret (by simp) hlk (by decide) (by decide) (hb hby d39_14) ?_
  exact ⟨rfl, rfl⟩
theorem ef_37 (m : MethodId) (r0 : Addr) (p1 : Int32) : entryFrame m #[(.ref r0), (.int p1)] 2 = mkF m 0 #[.val (.ref r0), .val (.int p1)] [] := by first | (simp [entryFrame, mkF, argsToLocals, Value.category]; done) | rfl
theorem d37_0 : decode jdk_42_method_56_code 0 = .ok (.aload_n 0, 1) := by decide +kernel
theorem d37_1 : decode jdk_42_method_56_code 1 = .ok (.invokevirtual 492, 3) := by decide +kernel
theorem d37_4 : decode jdk_42_method_56_code 4 = .ok (.ifCond .eq 12, 3) := by decide +kernel
theorem d37_7 : decode jdk_42_method_56_code 7 = .ok (.aload_n 0, 1) := by decide +kernel
theorem d37_8 : decode jdk_42_method_56_code 8 = .ok (.getfield 9, 3) := by decide +kernel
theorem d37_11 : decode jdk_42_method_56_code 11 = .ok (.iload_n 1, 1) := by decide +kernel
theorem d37_12 : decode jdk_42_method_56_code 12 = .ok (.invokestatic 495, 3) := by decide +kernel
theorem pd___BI_C : parseMethodDescriptor "([BI)C" = some ⟨[(.array .byte), .int], some .char⟩ := by decide +kernel
theorem d37_15 : decode jdk_42_method_56_code 15 = .ok (.ireturn, 1) := by decide +kernel
def f37 (p1 : Int32) (g : Int32 → Int32) (z_C : Int32) (s_F : Value) (nn : Nat) : Int32 := (nar .char (f39 p1 g s_F nn))
set_option maxRecDepth 65536 in
set_option maxHeartbeats 40000000 in
theorem rm37 (l : Launch) (Z : State) (a0 : Array Value) (hw : ∀ d ∈ tables_1, d.before a0 Z = true) (r0 : Addr) (p1 : Int32) (t0 : Addr) (g : Int32 → Int32) (z_C : Int32) (s_F : Value) (nn : Nat) (h0 : Heap) (n0 : Nat) (E0 : Exa Z h0 r0 "java/lang/String") (Fc : Fld Z h0 r0 "java/lang/String" "coder" "B" (.int (0 : Int32))) (Fv : Fld Z h0 r0 "java/lang/String" "value" "[B" (.ref t0)) (V0 : own_Arr Z h0 t0 .byte (Int32.ofNat nn) g) (hi0 : ¬ p1 < 0) (hi1 : p1 < (Int32.ofNat nn)) (S_C : Sta Z h0 "java/lang/String" "COMPACT_STRINGS" "Z" (.int z_C)) (hz : ¬ z_C = 0) (S_F : Sta Z h0 "jdk/internal/util/Preconditions" "SIOOBE_FORMATTER" "Ljava/util/function/BiFunction;" s_F) (hr_F : s_F.isRef = true) :
    own_Met l Z n0 (⟨"java/lang/String", "charAt", "(I)C"⟩ : MethodName) jdk_42_method_56_code 2 (some .char) ({ frames := 3, cells := 0, slots := 0, locals := 40 } : Room) #[(.ref r0), (.int p1)] h0 (fun v h => v = some (.int (f37 p1 g z_C s_F nn)) ∧ h0 = h) := by
  refine own_met (plainFor_of_name pn_6) ?_
  intro p e s m below meth c T0 hx hby hml hown hnm hret hlk hZ A0
  rw [ef_37]
  show own_Go _ _ _ _ (T0.setTop (mkF m 0 #[.val (.ref r0), .val (.int p1)] []))
  refine own_go (fun t_ k_ => XS.aloadN A0.here hx rfl (hb hby d37_0) rfl rfl k_) ?_
  show own_Go _ _ _ _ (T0.setTop (mkF m 1 #[.val (.ref r0), .val (.int p1)] [(.ref r0)]))
  refine own_callV A0 hx hZ (y := (⟨"java/lang/String", "isLatin1", "()Z"⟩ : MethodName)) (z := (⟨"java/lang/String", "isLatin1", "()Z"⟩ : MethodName)) hown (hw _ (List.mem_of_getElem? (i := 219) rfl)) (hw _ (List.mem_of_getElem? (i := 220) rfl)) (hw _ (List.mem_of_getElem? (i := 222) rfl)) (hw _ (List.mem_of_getElem? (i := 221) rfl)) (hw _ (List.mem_of_getElem? (i := 8) rfl)) (hw _ (List.mem_of_getElem? (i := 223) rfl)) (notFace_of_selects (args := #[]) (mvT hZ (hw _ (List.mem_of_getElem? (i := 222) rfl)))) (by decide) (b := r0) (argsL := []) (rest := []) E0 (rm38 l Z a0 hw r0 z_C h0 n0 Fc S_C hz) 0 (by decide) (by decide) rfl (by rw [hml]; rfl) (lenOf pd___Z rfl) rfl (by show 2 * 0 + _ ≤ _; exact Nat.le_of_eq rfl) (hb hby d37_1) (by decide) (by decide) (fun v4 T1 h3 A2 hQ5 => ?_)
  obtain ⟨rfl, rfl⟩ := hQ5
  show own_Go _ _ _ _ (T1.setTop (mkF m 4 #[.val (.ref r0), .val (.int p1)] [(.int (f38 z_C))]))
  have hc6 : ¬ ((f38 z_C) = (0 : Int32)) := (show ¬ (1 : Int32) = 0 by decide)
  refine own_go (fun t_ k_ => XS.ifNo A2.here hx rfl (hb hby d37_4) rfl ((if0 _ _).trans (feq hc6).1) k_) ?_
  show own_Go _ _ _ _ (T1.setTop (mkF m 7 #[.val (.ref r0), .val (.int p1)] []))
  refine own_go (fun t_ k_ => XS.aloadN A2.here hx rfl (hb hby d37_7) rfl rfl k_) ?_
  show own_Go _ _ _ _ (T1.setTop (mkF m 8 #[.val (.ref r0), .val (.int p1)] [(.ref r0)]))
  refine own_getF A2 hx hZ hown (host := "") (Or.inl (hw _ (List.mem_of_getElem? (i := 32) rfl))) Via.refl Fv rfl rfl (hb hby d37_8) (fun T7 A8 => ?_)
  show own_Go _ _ _ _ (T7.setTop (mkF m 11 #[.val (.ref r0), .val (.int p1)] [(.ref t0)]))
  refine own_go (fun t_ k_ => XS.iloadN A8.here hx rfl (hb hby d37_11) rfl k_) ?_
  show own_Go _ _ _ _ (T7.setTop (mkF m 12 #[.val (.ref r0), .val (.int p1)] [(.int p1), (.ref t0)]))
  refine own_callS A8 hx hZ hown (y := (⟨"java/lang/StringLatin1", "charAt", "([BI)C"⟩ : MethodName)) (hw _ (List.mem_of_getElem? (i := 224) rfl)) (hw _ (List.mem_of_getElem? (i := 225) rfl)) (hw _ (List.mem_of_getElem? (i := 105) rfl)) (hw _ (List.mem_of_getElem? (i := 226) rfl)) (by decide) (argsL := [(.ref t0), (.int p1)]) (rest := []) (rm39 l Z a0 hw t0 p1 g s_F nn h0 n0 V0 hi0 hi1 S_F hr_F) 0 (by decide) (by decide) rfl (by rw [hml]; rfl) (lenOf pd___BI_C rfl) rfl (by show 2 * 0 + _ ≤ _; exact Nat.le_of_eq rfl) (hb hby d37_12) (by decide) (by decide) (fun v12 T9 h11 A10 hQ13 => ?_)
  obtain ⟨rfl, rfl⟩ := hQ13
  show own_Go _ _ _ _ (T9.setTop (mkF m 15 #[.val (.ref r0), .val (.int p1)] [(.int (f39 p1 g s_F nn))]))
  refine own_retN A10 hx (t := .char) hret (by simp) hlk (by decide) (by decide) (hb hby d37_15) ?_
  exact ⟨rfl, rfl⟩
theorem ef_42 (m : MethodId) (p0 : Int32) (p1 : Int32) : entryFrame m #[(.int p0), (.int p1)] 4 = mkF m 0 #[.val (.int p0), .val (.int p1), .unset, .unset] [] := by first | (simp [entryFrame, mkF, argsToLocals, Value.category]; done) | rfl
theorem pn_42 : plainName "com/example/crosstie/crosstie/ValuesBatchesValuesPinLaw" = true := by first | (simp [plainName, overriddenIn]; done) | decide +kernel
theorem d42_0 : decode method_3_code 0 = .ok (.iconst 3, 1) := by decide +kernel
theorem d42_1 : decode method_3_code 1 = .ok (.iload_n 1, 1) := by decide +kernel
theorem d42_2 : decode method_3_code 2 = .ok (.imul, 1) := by decide +kernel
theorem d42_3 : decode method_3_code 3 = .ok (.istore_n 2, 1) := by decide +kernel
theorem d42_4 : decode method_3_code 4 = .ok (.iload_n 0, 1) := by decide +kernel
theorem d42_5 : decode method_3_code 5 = .ok (.ifCond .ne 6, 3) := by decide +kernel
theorem d42_8 : decode method_3_code 8 = .ok (.bipush 40, 2) := by decide +kernel
theorem d42_10 : decode method_3_code 10 = .ok (.ireturn, 1) := by decide +kernel
theorem d42_11 : decode method_3_code 11 = .ok (.iload_n 0, 1) := by decide +kernel
theorem d42_12 : decode method_3_code 12 = .ok (.iload_n 2, 1) := by decide +kernel
theorem d42_13 : decode method_3_code 13 = .ok (.iconst 1, 1) := by decide +kernel
theorem d42_14 : decode method_3_code 14 = .ok (.isub, 1) := by decide +kernel
theorem d42_15 : decode method_3_code 15 = .ok (.if_icmp .ne 6, 3) := by decide +kernel
theorem d42_18 : decode method_3_code 18 = .ok (.bipush 41, 2) := by decide +kernel
theorem d42_20 : decode method_3_code 20 = .ok (.ireturn, 1) := by decide +kernel
theorem d42_21 : decode method_3_code 21 = .ok (.iload_n 0, 1) := by decide +kernel
theorem d42_22 : decode method_3_code 22 = .ok (.iload_n 2, 1) := by decide +kernel
theorem d42_23 : decode method_3_code 23 = .ok (.if_icmp .ne 6, 3) := by decide +kernel
theorem d42_26 : decode method_3_code 26 = .ok (.bipush 44, 2) := by decide +kernel
theorem d42_28 : decode method_3_code 28 = .ok (.ireturn, 1) := by decide +kernel
theorem d42_29 : decode method_3_code 29 = .ok (.iload_n 0, 1) := by decide +kernel
theorem d42_30 : decode method_3_code 30 = .ok (.iload_n 2, 1) := by decide +kernel
theorem d42_31 : decode method_3_code 31 = .ok (.iconst 1, 1) := by decide +kernel
theorem d42_32 : decode method_3_code 32 = .ok (.iadd, 1) := by decide +kernel
theorem d42_33 : decode method_3_code 33 = .ok (.if_icmp .ne 6, 3) := by decide +kernel
theorem d42_36 : decode method_3_code 36 = .ok (.bipush 32, 2) := by decide +kernel
theorem d42_38 : decode method_3_code 38 = .ok (.ireturn, 1) := by decide +kernel
theorem d42_39 : decode method_3_code 39 = .ok (.iload_n 0, 1) := by decide +kernel
theorem d42_40 : decode method_3_code 40 = .ok (.iconst 1, 1) := by decide +kernel
theorem d42_41 : decode method_3_code 41 = .ok (.isub, 1) := by decide +kernel
theorem d42_42 : decode method_3_code 42 = .ok (.iconst 3, 1) := by decide +kernel
theorem d42_43 : decode method_3_code 43 = .ok (.irem, 1) := by decide +kernel
theorem d42_44 : decode method_3_code 44 = .ok (.istore_n 3, 1) := by decide +kernel
theorem d42_45 : decode method_3_code 45 = .ok (.iload_n 3, 1) := by decide +kernel
theorem d42_46 : decode method_3_code 46 = .ok (.ifCond .ne 6, 3) := by decide +kernel
theorem d42_49 : decode method_3_code 49 = .ok (.bipush 63, 2) := by decide +kernel
theorem d42_51 : decode method_3_code 51 = .ok (.ireturn, 1) := by decide +kernel
theorem d42_52 : decode method_3_code 52 = .ok (.iload_n 3, 1) := by decide +kernel
theorem d42_53 : decode method_3_code 53 = .ok (.iconst 1, 1) := by decide +kernel
theorem d42_54 : decode method_3_code 54 = .ok (.if_icmp .ne 6, 3) := by decide +kernel
theorem d42_57 : decode method_3_code 57 = .ok (.bipush 44, 2) := by decide +kernel
theorem d42_59 : decode method_3_code 59 = .ok (.ireturn, 1) := by decide +kernel
theorem d42_60 : decode method_3_code 60 = .ok (.bipush 32, 2) := by decide +kernel
theorem d42_62 : decode method_3_code 62 = .ok (.ireturn, 1) := by decide +kernel
def f42 (p0 : Int32) (p1 : Int32) : Int32 := (if p0 = (0 : Int32) then (40 : Int32) else (if p0 = (((3 : Int32) * p1) - (1 : Int32)) then (41 : Int32) else (if p0 = ((3 : Int32) * p1) then (44 : Int32) else (if p0 = (((3 : Int32) * p1) + (1 : Int32)) then (32 : Int32) else (if ((p0 - (1 : Int32)) % (3 : Int32)) = (0 : Int32) then (63 : Int32) else (if ((p0 - (1 : Int32)) % (3 : Int32)) = (1 : Int32) then (44 : Int32) else (32 : Int32)))))))
set_option maxRecDepth 65536 in
set_option maxHeartbeats 40000000 in
theorem rm42 (l : Launch) (Z : State) (a0 : Array Value) (hw : ∀ d ∈ tables_1, d.before a0 Z = true) (p0 : Int32) (p1 : Int32) (h0 : Heap) (n0 : Nat) :
    own_Met l Z n0 (⟨"com/example/crosstie/crosstie/ValuesBatchesValuesPinLaw", "expectedChar", "(II)C"⟩ : MethodName) method_3_code 4 (some .char) ({ frames := 0, cells := 0, slots := 0, locals := 0 } : Room) #[(.int p0), (.int p1)] h0 (fun v h => v = some (.int (f42 p0 p1)) ∧ h0 = h) := by
  refine own_met (plainFor_of_name pn_42) ?_
  intro p e s m below meth c T0 hx hby hml hown hnm hret hlk hZ A0
  rw [ef_42]
  show own_Go _ _ _ _ (T0.setTop (mkF m 0 #[.val (.int p0), .val (.int p1), .unset, .unset] []))
  refine own_go (fun t_ k_ => XS.iconst A0.here hx rfl (hb hby d42_0) k_) ?_
  show own_Go _ _ _ _ (T0.setTop (mkF m 1 #[.val (.int p0), .val (.int p1), .unset, .unset] [(.int (3 : Int32))]))
  refine own_go (fun t_ k_ => XS.iloadN A0.here hx rfl (hb hby d42_1) rfl k_) ?_
  show own_Go _ _ _ _ (T0.setTop (mkF m 2 #[.val (.int p0), .val (.int p1), .unset, .unset] [(.int p1), (.int (3 : Int32))]))
  refine own_go (fun t_ k_ => XS.imul A0.here hx rfl (hb hby d42_2) rfl k_) ?_
  show own_Go _ _ _ _ (T0.setTop (mkF m 3 #[.val (.int p0), .val (.int p1), .unset, .unset] [(.int ((3 : Int32) * p1))]))
  refine own_go (fun t_ k_ => XS.istoreN A0.here hx rfl (hb hby d42_3) rfl (l' := #[.val (.int p0), .val (.int p1), .val (.int ((3 : Int32) * p1)), .unset]) rfl k_) ?_
  show own_Go _ _ _ _ (T0.setTop (mkF m 4 #[.val (.int p0), .val (.int p1), .val (.int ((3 : Int32) * p1)), .unset] []))
  refine own_go (fun t_ k_ => XS.iloadN A0.here hx rfl (hb hby d42_4) rfl k_) ?_
  show own_Go _ _ _ _ (T0.setTop (mkF m 5 #[.val (.int p0), .val (.int p1), .val (.int ((3 : Int32) * p1)), .unset] [(.int p0)]))
  by_cases hc1 : p0 = (0 : Int32)
  ·
    refine own_go (fun t_ k_ => XS.ifNo A0.here hx rfl (hb hby d42_5) rfl ((if0 _ _).trans (teq hc1).2) k_) ?_
    show own_Go _ _ _ _ (T0.setTop (mkF m 8 #[.val (.int p0), .val (.int p1), .val (.int ((3 : Int32) * p1)), .unset] []))
    refine own_go (fun t_ k_ => XS.bipush A0.here hx rfl (hb hby d42_8) k_) ?_
    show own_Go _ _ _ _ (T0.setTop (mkF m 10 #[.val (.int p0), .val (.int p1), .val (.int ((3 : Int32) * p1)), .unset] [(.int (40 : Int32))]))
    refine own_retN A0 hx (t := .char) hret (by simp) hlk (by decide) (by decide) (hb hby d42_10) ?_
    exact ⟨congrArg (fun z => some (Value.int z)) (by simp only [f42, if_pos hc1] <;> rfl), rfl⟩
  ·
    refine own_go (fun t_ k_ => XS.ifYes A0.here hx rfl (pc0 := 5) (pc' := 11) rfl (hb hby d42_5) rfl ((if0 _ _).trans (feq hc1).2) (by decide) (by decide) k_) ?_
    show own_Go _ _ _ _ (T0.setTop (mkF m 11 #[.val (.int p0), .val (.int p1), .val (.int ((3 : Int32) * p1)), .unset] []))
    refine own_go (fun t_ k_ => XS.iloadN A0.here hx rfl (hb hby d42_11) rfl k_) ?_
    show own_Go _ _ _ _ (T0.setTop (mkF m 12 #[.val (.int p0), .val (.int p1), .val (.int ((3 : Int32) * p1)), .unset] [(.int p0)]))
    refine own_go (fun t_ k_ => XS.iloadN A0.here hx rfl (hb hby d42_12) rfl k_) ?_
    show own_Go _ _ _ _ (T0.setTop (mkF m 13 #[.val (.int p0), .val (.int p1), .val (.int ((3 : Int32) * p1)), .unset] [(.int ((3 : Int32) * p1)), (.int p0)]))
    refine own_go (fun t_ k_ => XS.iconst A0.here hx rfl (hb hby d42_13) k_) ?_
    show own_Go _ _ _ _ (T0.setTop (mkF m 14 #[.val (.int p0), .val (.int p1), .val (.int ((3 : Int32) * p1)), .unset] [(.int (1 : Int32)), (.int ((3 : Int32) * p1)), (.int p0)]))
    refine own_go (fun t_ k_ => XS.isub A0.here hx rfl (hb hby d42_14) rfl k_) ?_
    show own_Go _ _ _ _ (T0.setTop (mkF m 15 #[.val (.int p0), .val (.int p1), .val (.int ((3 : Int32) * p1)), .unset] [(.int (((3 : Int32) * p1) - (1 : Int32))), (.int p0)]))
    by_cases hc2 : p0 = (((3 : Int32) * p1) - (1 : Int32))
    ·
      refine own_go (fun t_ k_ => XS.icmpNo A0.here hx rfl (hb hby d42_15) rfl (teq hc2).2 k_) ?_
      show own_Go _ _ _ _ (T0.setTop (mkF m 18 #[.val (.int p0), .val (.int p1), .val (.int ((3 : Int32) * p1)), .unset] []))
      refine own_go (fun t_ k_ => XS.bipush A0.here hx rfl (hb hby d42_18) k_) ?_
      show own_Go _ _ _ _ (T0.setTop (mkF m 20 #[.val (.int p0), .val (.int p1), .val (.int ((3 : Int32) * p1)), .unset] [(.int (41 : Int32))]))
      refine own_retN A0 hx (t := .char) hret (by simp) hlk (by decide) (by decide) (hb hby d42_20) ?_
      exact ⟨congrArg (fun z => some (Value.int z)) (by simp only [f42, if_neg hc1, if_pos hc2] <;> rfl), rfl⟩
    ·
      refine own_go (fun t_ k_ => XS.icmpYes A0.here hx rfl (pc0 := 15) (pc' := 21) rfl (hb hby d42_15) rfl (feq hc2).2 (by decide) (by decide) k_) ?_
      show own_Go _ _ _ _ (T0.setTop (mkF m 21 #[.val (.int p0), .val (.int p1), .val (.int ((3 : Int32) * p1)), .unset] []))
      refine own_go (fun t_ k_ => XS.iloadN A0.here hx rfl (hb hby d42_21) rfl k_) ?_
      show own_Go _ _ _ _ (T0.setTop (mkF m 22 #[.val (.int p0), .val (.int p1), .val (.int ((3 : Int32) * p1)), .unset] [(.int p0)]))
      refine own_go (fun t_ k_ => XS.iloadN A0.here hx rfl (hb hby d42_22) rfl k_) ?_
      show own_Go _ _ _ _ (T0.setTop (mkF m 23 #[.val (.int p0), .val (.int p1), .val (.int ((3 : Int32) * p1)), .unset] [(.int ((3 : Int32) * p1)), (.int p0)]))
      by_cases hc3 : p0 = ((3 : Int32) * p1)
      ·
        refine own_go (fun t_ k_ => XS.icmpNo A0.here hx rfl (hb hby d42_23) rfl (teq hc3).2 k_) ?_
        show own_Go _ _ _ _ (T0.setTop (mkF m 26 #[.val (.int p0), .val (.int p1), .val (.int ((3 : Int32) * p1)), .unset] []))
        refine own_go (fun t_ k_ => XS.bipush A0.here hx rfl (hb hby d42_26) k_) ?_
        show own_Go _ _ _ _ (T0.setTop (mkF m 28 #[.val (.int p0), .val (.int p1), .val (.int ((3 : Int32) * p1)), .unset] [(.int (44 : Int32))]))
        refine own_retN A0 hx (t := .char) hret (by simp) hlk (by decide) (by decide) (hb hby d42_28) ?_
        exact ⟨congrArg (fun z => some (Value.int z)) (by simp only [f42, if_neg hc1, if_neg hc2, if_pos hc3] <;> rfl), rfl⟩
      ·
        refine own_go (fun t_ k_ => XS.icmpYes A0.here hx rfl (pc0 := 23) (pc' := 29) rfl (hb hby d42_23) rfl (feq hc3).2 (by decide) (by decide) k_) ?_
        show own_Go _ _ _ _ (T0.setTop (mkF m 29 #[.val (.int p0), .val (.int p1), .val (.int ((3 : Int32) * p1)), .unset] []))
        refine own_go (fun t_ k_ => XS.iloadN A0.here hx rfl (hb hby d42_29) rfl k_) ?_
        show own_Go _ _ _ _ (T0.setTop (mkF m 30 #[.val (.int p0), .val (.int p1), .val (.int ((3 : Int32) * p1)), .unset] [(.int p0)]))
        refine own_go (fun t_ k_ => XS.iloadN A0.here hx rfl (hb hby d42_30) rfl k_) ?_
        show own_Go _ _ _ _ (T0.setTop (mkF m 31 #[.val (.int p0), .val (.int p1), .val (.int ((3 : Int32) * p1)), .unset] [(.int ((3 : Int32) * p1)), (.int p0)]))
        refine own_go (fun t_ k_ => XS.iconst A0.here hx rfl (hb hby d42_31) k_) ?_
        show own_Go _ _ _ _ (T0.setTop (mkF m 32 #[.val (.int p0), .val (.int p1), .val (.int ((3 : Int32) * p1)), .unset] [(.int (1 : Int32)), (.int ((3 : Int32) * p1)), (.int p0)]))
        refine own_go (fun t_ k_ => XS.iadd A0.here hx rfl (hb hby d42_32) rfl k_) ?_
        show own_Go _ _ _ _ (T0.setTop (mkF m 33 #[.val (.int p0), .val (.int p1), .val (.int ((3 : Int32) * p1)), .unset] [(.int (((3 : Int32) * p1) + (1 : Int32))), (.int p0)]))
        by_cases hc4 : p0 = (((3 : Int32) * p1) + (1 : Int32))
        ·
          refine own_go (fun t_ k_ => XS.icmpNo A0.here hx rfl (hb hby d42_33) rfl (teq hc4).2 k_) ?_
          show own_Go _ _ _ _ (T0.setTop (mkF m 36 #[.val (.int p0), .val (.int p1), .val (.int ((3 : Int32) * p1)), .unset] []))
          refine own_go (fun t_ k_ => XS.bipush A0.here hx rfl (hb hby d42_36) k_) ?_
          show own_Go _ _ _ _ (T0.setTop (mkF m 38 #[.val (.int p0), .val (.int p1), .val (.int ((3 : Int32) * p1)), .unset] [(.int (32 : Int32))]))
          refine own_retN A0 hx (t := .char) hret (by simp) hlk (by decide) (by decide) (hb hby d42_38) ?_
          exact ⟨congrArg (fun z => some (Value.int z)) (by simp only [f42, if_neg hc1, if_neg hc2, if_neg hc3, if_pos hc4] <;> rfl), rfl⟩
        ·
          refine own_go (fun t_ k_ => XS.icmpYes A0.here hx rfl (pc0 := 33) (pc' := 39) rfl (hb hby d42_33) rfl (feq hc4).2 (by decide) (by decide) k_) ?_
          show own_Go _ _ _ _ (T0.setTop (mkF m 39 #[.val (.int p0), .val (.int p1), .val (.int ((3 : Int32) * p1)), .unset] []))
          refine own_go (fun t_ k_ => XS.iloadN A0.here hx rfl (hb hby d42_39) rfl k_) ?_
          show own_Go _ _ _ _ (T0.setTop (mkF m 40 #[.val (.int p0), .val (.int p1), .val (.int ((3 : Int32) * p1)), .unset] [(.int p0)]))
          refine own_go (fun t_ k_ => XS.iconst A0.here hx rfl (hb hby d42_40) k_) ?_
          show own_Go _ _ _ _ (T0.setTop (mkF m 41 #[.val (.int p0), .val (.int p1), .val (.int ((3 : Int32) * p1)), .unset] [(.int (1 : Int32)), (.int p0)]))
          refine own_go (fun t_ k_ => XS.isub A0.here hx rfl (hb hby d42_41) rfl k_) ?_
          show own_Go _ _ _ _ (T0.setTop (mkF m 42 #[.val (.int p0), .val (.int p1), .val (.int ((3 : Int32) * p1)), .unset] [(.int (p0 - (1 : Int32)))]))
          refine own_go (fun t_ k_ => XS.iconst A0.here hx rfl (hb hby d42_42) k_) ?_
          show own_Go _ _ _ _ (T0.setTop (mkF m 43 #[.val (.int p0), .val (.int p1), .val (.int ((3 : Int32) * p1)), .unset] [(.int (3 : Int32)), (.int (p0 - (1 : Int32)))]))
          refine own_go (fun t_ k_ => own_irem A0.here hx rfl (hb hby d42_43) rfl (by decide) k_) ?_
          show own_Go _ _ _ _ (T0.setTop (mkF m 44 #[.val (.int p0), .val (.int p1), .val (.int ((3 : Int32) * p1)), .unset] [(.int ((p0 - (1 : Int32)) % (3 : Int32)))]))
          refine own_go (fun t_ k_ => XS.istoreN A0.here hx rfl (hb hby d42_44) rfl (l' := #[.val (.int p0), .val (.int p1), .val (.int ((3 : Int32) * p1)), .val (.int ((p0 - (1 : Int32)) % (3 : Int32)))]) rfl k_) ?_
          show own_Go _ _ _ _ (T0.setTop (mkF m 45 #[.val (.int p0), .val (.int p1), .val (.int ((3 : Int32) * p1)), .val (.int ((p0 - (1 : Int32)) % (3 : Int32)))] []))
          refine own_go (fun t_ k_ => XS.iloadN A0.here hx rfl (hb hby d42_45) rfl k_) ?_
          show own_Go _ _ _ _ (T0.setTop (mkF m 46 #[.val (.int p0), .val (.int p1), .val (.int ((3 : Int32) * p1)), .val (.int ((p0 - (1 : Int32)) % (3 : Int32)))] [(.int ((p0 - (1 : Int32)) % (3 : Int32)))]))
          by_cases hc5 : ((p0 - (1 : Int32)) % (3 : Int32)) = (0 : Int32)
          ·
            refine own_go (fun t_ k_ => XS.ifNo A0.here hx rfl (hb hby d42_46) rfl ((if0 _ _).trans (teq hc5).2) k_) ?_
            show own_Go _ _ _ _ (T0.setTop (mkF m 49 #[.val (.int p0), .val (.int p1), .val (.int ((3 : Int32) * p1)), .val (.int ((p0 - (1 : Int32)) % (3 : Int32)))] []))
            refine own_go (fun t_ k_ => XS.bipush A0.here hx rfl (hb hby d42_49) k_) ?_
            show own_Go _ _ _ _ (T0.setTop (mkF m 51 #[.val (.int p0), .val (.int p1), .val (.int ((3 : Int32) * p1)), .val (.int ((p0 - (1 : Int32)) % (3 : Int32)))] [(.int (63 : Int32))]))
            refine own_retN A0 hx (t := .char) hret (by simp) hlk (by decide) (by decide) (hb hby d42_51) ?_
            exact ⟨congrArg (fun z => some (Value.int z)) (by simp only [f42, if_neg hc1, if_neg hc2, if_neg hc3, if_neg hc4, if_pos hc5] <;> rfl), rfl⟩
          ·
            refine own_go (fun t_ k_ => XS.ifYes A0.here hx rfl (pc0 := 46) (pc' := 52) rfl (hb hby d42_46) rfl ((if0 _ _).trans (feq hc5).2) (by decide) (by decide) k_) ?_
            show own_Go _ _ _ _ (T0.setTop (mkF m 52 #[.val (.int p0), .val (.int p1), .val (.int ((3 : Int32) * p1)), .val (.int ((p0 - (1 : Int32)) % (3 : Int32)))] []))
            refine own_go (fun t_ k_ => XS.iloadN A0.here hx rfl (hb hby d42_52) rfl k_) ?_
            show own_Go _ _ _ _ (T0.setTop (mkF m 53 #[.val (.int p0), .val (.int p1), .val (.int ((3 : Int32) * p1)), .val (.int ((p0 - (1 : Int32)) % (3 : Int32)))] [(.int ((p0 - (1 : Int32)) % (3 : Int32)))]))
            refine own_go (fun t_ k_ => XS.iconst A0.here hx rfl (hb hby d42_53) k_) ?_
            show own_Go _ _ _ _ (T0.setTop (mkF m 54 #[.val (.int p0), .val (.int p1), .val (.int ((3 : Int32) * p1)), .val (.int ((p0 - (1 : Int32)) % (3 : Int32)))] [(.int (1 : Int32)), (.int ((p0 - (1 : Int32)) % (3 : Int32)))]))
            by_cases hc6 : ((p0 - (1 : Int32)) % (3 : Int32)) = (1 : Int32)
            ·
              refine own_go (fun t_ k_ => XS.icmpNo A0.here hx rfl (hb hby d42_54) rfl (teq hc6).2 k_) ?_
              show own_Go _ _ _ _ (T0.setTop (mkF m 57 #[.val (.int p0), .val (.int p1), .val (.int ((3 : Int32) * p1)), .val (.int ((p0 - (1 : Int32)) % (3 : Int32)))] []))
              refine own_go (fun t_ k_ => XS.bipush A0.here hx rfl (hb hby d42_57) k_) ?_
              show own_Go _ _ _ _ (T0.setTop (mkF m 59 #[.val (.int p0), .val (.int p1), .val (.int ((3 : Int32) * p1)), .val (.int ((p0 - (1 : Int32)) % (3 : Int32)))] [(.int (44 : Int32))]))
              refine own_retN A0 hx (t := .char) hret (by simp) hlk (by decide) (by decide) (hb hby d42_59) ?_
              exact ⟨congrArg (fun z => some (Value.int z)) (by simp only [f42, if_neg hc1, if_neg hc2, if_neg hc3, if_neg hc4, if_neg hc5, if_pos hc6] <;> rfl), rfl⟩
            ·
              refine own_go (fun t_ k_ => XS.icmpYes A0.here hx rfl (pc0 := 54) (pc' := 60) rfl (hb hby d42_54) rfl (feq hc6).2 (by decide) (by decide) k_) ?_
              show own_Go _ _ _ _ (T0.setTop (mkF m 60 #[.val (.int p0), .val (.int p1), .val (.int ((3 : Int32) * p1)), .val (.int ((p0 - (1 : Int32)) % (3 : Int32)))] []))
              refine own_go (fun t_ k_ => XS.bipush A0.here hx rfl (hb hby d42_60) k_) ?_
              show own_Go _ _ _ _ (T0.setTop (mkF m 62 #[.val (.int p0), .val (.int p1), .val (.int ((3 : Int32) * p1)), .val (.int ((p0 - (1 : Int32)) % (3 : Int32)))] [(.int (32 : Int32))]))
              refine own_retN A0 hx (t := .char) hret (by simp) hlk (by decide) (by decide) (hb hby d42_62) ?_
              exact ⟨congrArg (fun z => some (Value.int z)) (by simp only [f42, if_neg hc1, if_neg hc2, if_neg hc3, if_neg hc4, if_neg hc5, if_neg hc6] <;> rfl), rfl⟩
def own_chr (b : Int32) : Int32 := nar .char (nar .char ((b &&& (255 : Int32)).toUInt32.toUInt16.toUInt32.toInt32))
theorem own_chk : ∀ nr, nr < 8 → ∀ c, c < 8 → (own_vals nr (c + 1)).map own_chr = (List.range (own_vals nr (c + 1)).length).map (fun k => f42 ((Int32.ofNat k) % (Int32.ofNat (3 * (c + 1) + 2))) (Int32.ofNat (c + 1))) := by decide +kernel
theorem own_law {g : Int32 → Int32} {z_C : Int32} {s_F : Value} {nr c k : Nat} (h1 : nr < 8) (h2 : c < 8) (P : own_Pre g (own_vals nr (c + 1))) (hk : k < (own_vals nr (c + 1)).length) : f37 (Int32.ofNat k) g z_C s_F (own_vals nr (c + 1)).length = f42 ((Int32.ofNat k) % (Int32.ofNat (3 * (c + 1) + 2))) (Int32.ofNat (c + 1)) := by
  rw [← own_mapat (own_chk nr h1 c h2) hk, ← P k hk]
  rfl
theorem ef_0 (m : MethodId) (p0 : Int32) (p1 : Int32) (p2 : Int32) : entryFrame m #[(.int p0), (.int p1), (.int p2)] maxLocals = mkF m 0 #[.val (.int p0), .val (.int p1), .val (.int p2), .unset, .unset, .unset, .unset, .unset, .unset] [] := by first | (simp [entryFrame, mkF, argsToLocals, Value.category, maxLocals]; done) | rfl
theorem pd__II_Ljava_lang_String_ : parseMethodDescriptor "(II)Ljava/lang/String;" = some ⟨[.int, .int], some (.object "java/lang/String")⟩ := by decide +kernel
theorem pd__I_C : parseMethodDescriptor "(I)C" = some ⟨[.int], some .char⟩ := by decide +kernel
theorem pd__II_C : parseMethodDescriptor "(II)C" = some ⟨[.int, .int], some .char⟩ := by decide +kernel
set_option maxRecDepth 65536 in
set_option maxHeartbeats 40000000 in
theorem rm0 (l : Launch) (Z : State) (a0 : Array Value) (hw : ∀ d ∈ tables_1, d.before a0 Z = true) (p0 : Int32) (p1 : Int32) (p2 : Int32) (z_C : Int32) (s_F : Value) (h0 : Heap) (n0 : Nat) (O0 : Old Z n0 h0) (Z0 : n0 ≤ h0.size) (hz : ¬ z_C = 0) (hr_F : s_F.isRef = true) (S_COMPACT_STRINGS : Sta Z Z.heap "java/lang/String" "COMPACT_STRINGS" "Z" (.int z_C)) (S_SIOOBE_FORMATTER : Sta Z Z.heap "jdk/internal/util/Preconditions" "SIOOBE_FORMATTER" "Ljava/util/function/BiFunction;" s_F) :
    own_MetC l Z consts_1 n0 x code maxLocals ret room_1 #[(.int p0), (.int p1), (.int p2)] h0 (fun v h => v = some (.int 1) ∧ True) := by
  refine own_metC (plainFor_of_name pn_42) ?_
  intro p e s m below meth c T0 hx hby hml hown hnm hret hlk hZ A0 hs0 hS C0
  have hEL := own_EW hw
  have hret : meth.sig.returnType = some .boolean := hret
  rw [ef_0]
  show own_Go _ _ _ _ (T0.setTop (mkF m 0 #[.val (.int p0), .val (.int p1), .val (.int p2), .unset, .unset, .unset, .unset, .unset, .unset] []))
  refine own_go (fun t_ k_ => XS.iloadN A0.here hx rfl (hb hby at_0) rfl k_) ?_
  show own_Go _ _ _ _ (T0.setTop (mkF m 1 #[.val (.int p0), .val (.int p1), .val (.int p2), .unset, .unset, .unset, .unset, .unset, .unset] [(.int p0)]))
  refine own_go (fun t_ k_ => XS.bipush A0.here hx rfl (hb hby at_1) k_) ?_
  show own_Go _ _ _ _ (T0.setTop (mkF m 3 #[.val (.int p0), .val (.int p1), .val (.int p2), .unset, .unset, .unset, .unset, .unset, .unset] [(.int (7 : Int32)), (.int p0)]))
  refine own_go (fun t_ k_ => XS.iand A0.here hx rfl (hb hby at_3) rfl k_) ?_
  show own_Go _ _ _ _ (T0.setTop (mkF m 4 #[.val (.int p0), .val (.int p1), .val (.int p2), .unset, .unset, .unset, .unset, .unset, .unset] [(.int (p0 &&& (7 : Int32)))]))
  obtain ⟨nr, hnr, enr⟩ := own_and7 p0
  rw [enr]
  show own_Go _ _ _ _ (T0.setTop (mkF m 4 #[.val (.int p0), .val (.int p1), .val (.int p2), .unset, .unset, .unset, .unset, .unset, .unset] [(.int (Int32.ofNat nr))]))
  refine own_go (fun t_ k_ => XS.istoreN A0.here hx rfl (hb hby at_4) rfl (l' := #[.val (.int p0), .val (.int p1), .val (.int p2), .val (.int (Int32.ofNat nr)), .unset, .unset, .unset, .unset, .unset]) rfl k_) ?_
  show own_Go _ _ _ _ (T0.setTop (mkF m 5 #[.val (.int p0), .val (.int p1), .val (.int p2), .val (.int (Int32.ofNat nr)), .unset, .unset, .unset, .unset, .unset] []))
  refine own_go (fun t_ k_ => XS.iloadN A0.here hx rfl (hb hby at_5) rfl k_) ?_
  show own_Go _ _ _ _ (T0.setTop (mkF m 6 #[.val (.int p0), .val (.int p1), .val (.int p2), .val (.int (Int32.ofNat nr)), .unset, .unset, .unset, .unset, .unset] [(.int p1)]))
  refine own_go (fun t_ k_ => XS.bipush A0.here hx rfl (hb hby at_6) k_) ?_
  show own_Go _ _ _ _ (T0.setTop (mkF m 8 #[.val (.int p0), .val (.int p1), .val (.int p2), .val (.int (Int32.ofNat nr)), .unset, .unset, .unset, .unset, .unset] [(.int (7 : Int32)), (.int p1)]))
  refine own_go (fun t_ k_ => XS.iand A0.here hx rfl (hb hby at_8) rfl k_) ?_
  show own_Go _ _ _ _ (T0.setTop (mkF m 9 #[.val (.int p0), .val (.int p1), .val (.int p2), .val (.int (Int32.ofNat nr)), .unset, .unset, .unset, .unset, .unset] [(.int (p1 &&& (7 : Int32)))]))
  obtain ⟨c0, hc0, ec0⟩ := own_and7 p1
  rw [ec0]
  show own_Go _ _ _ _ (T0.setTop (mkF m 9 #[.val (.int p0), .val (.int p1), .val (.int p2), .val (.int (Int32.ofNat nr)), .unset, .unset, .unset, .unset, .unset] [(.int (Int32.ofNat c0))]))
  refine own_go (fun t_ k_ => XS.iconst A0.here hx rfl (hb hby at_9) k_) ?_
  show own_Go _ _ _ _ (T0.setTop (mkF m 10 #[.val (.int p0), .val (.int p1), .val (.int p2), .val (.int (Int32.ofNat nr)), .unset, .unset, .unset, .unset, .unset] [(.int (1 : Int32)), (.int (Int32.ofNat c0))]))
  refine own_go (fun t_ k_ => XS.iadd A0.here hx rfl (hb hby at_10) rfl k_) ?_
  show own_Go _ _ _ _ (T0.setTop (mkF m 11 #[.val (.int p0), .val (.int p1), .val (.int p2), .val (.int (Int32.ofNat nr)), .unset, .unset, .unset, .unset, .unset] [(.int ((Int32.ofNat c0) + (1 : Int32)))]))
  rw [own_succ]
  show own_Go _ _ _ _ (T0.setTop (mkF m 11 #[.val (.int p0), .val (.int p1), .val (.int p2), .val (.int (Int32.ofNat nr)), .unset, .unset, .unset, .unset, .unset] [(.int (Int32.ofNat (c0 + 1)))]))
  refine own_go (fun t_ k_ => XS.istore A0.here hx rfl (hb hby at_11) rfl (l' := #[.val (.int p0), .val (.int p1), .val (.int p2), .val (.int (Int32.ofNat nr)), .val (.int (Int32.ofNat (c0 + 1))), .unset, .unset, .unset, .unset]) rfl k_) ?_
  show own_Go _ _ _ _ (T0.setTop (mkF m 13 #[.val (.int p0), .val (.int p1), .val (.int p2), .val (.int (Int32.ofNat nr)), .val (.int (Int32.ofNat (c0 + 1))), .unset, .unset, .unset, .unset] []))
  refine own_go (fun t_ k_ => XS.iloadN A0.here hx rfl (hb hby at_13) rfl k_) ?_
  show own_Go _ _ _ _ (T0.setTop (mkF m 14 #[.val (.int p0), .val (.int p1), .val (.int p2), .val (.int (Int32.ofNat nr)), .val (.int (Int32.ofNat (c0 + 1))), .unset, .unset, .unset, .unset] [(.int (Int32.ofNat nr))]))
  refine own_go (fun t_ k_ => XS.iload A0.here hx rfl (hb hby at_14) rfl k_) ?_
  show own_Go _ _ _ _ (T0.setTop (mkF m 16 #[.val (.int p0), .val (.int p1), .val (.int p2), .val (.int (Int32.ofNat nr)), .val (.int (Int32.ofNat (c0 + 1))), .unset, .unset, .unset, .unset] [(.int (Int32.ofNat (c0 + 1))), (.int (Int32.ofNat nr))]))
  refine own_callSC A0 hx hZ hown (y := (⟨"com/example/crosstie/crosstie/ValuesBatches", "values", "(II)Ljava/lang/String;"⟩ : MethodName)) (hw _ (List.mem_of_getElem? (i := 0) rfl)) (hw _ (List.mem_of_getElem? (i := 1) rfl)) (hw _ (List.mem_of_getElem? (i := 2) rfl)) (hw _ (List.mem_of_getElem? (i := 3) rfl)) (by decide) hEL C0 hS (Nat.zero_le _) (argsL := [(.int (Int32.ofNat nr)), (.int (Int32.ofNat (c0 + 1)))]) (rest := []) (rm1 l Z a0 hw nr (c0 + 1) z_C h0 n0 O0 Z0 hz S_COMPACT_STRINGS hnr ⟨by omega, by omega⟩) 0 (by decide) (by decide) rfl (by rw [hml]; rfl) (lenOf pd__II_Ljava_lang_String_ rfl) rfl (by show 2 * 0 + _ ≤ _; exact Nat.le_of_eq rfl) (hb hby at_16) (by decide) (by decide) (fun v4 T1 h3 vm6 k7 A2 hQ5 R8 hS9 hk10 hZ hown => ?_)
  obtain ⟨K11, s12, t13, fq14, rfl, E15, F16, F17, V18, P19⟩ := hQ5
  have C20 : CHr Z consts_1 s.vm h0 vm6 h3 := C0.trans R8
  have O21 : Old Z n0 h3 := O0.keep K11 all0
  have Z22 : n0 ≤ h3.size := Nat.le_trans Z0 K11.1
  show own_Go _ _ _ _ (T1.setTop (mkF m 19 #[.val (.int p0), .val (.int p1), .val (.int p2), .val (.int (Int32.ofNat nr)), .val (.int (Int32.ofNat (c0 + 1))), .unset, .unset, .unset, .unset] [(.ref s12)]))
  refine own_go (fun t_ k_ => XS.astore A2.here hx rfl (hb hby at_19) rfl rfl (l' := #[.val (.int p0), .val (.int p1), .val (.int p2), .val (.int (Int32.ofNat nr)), .val (.int (Int32.ofNat (c0 + 1))), .val (.ref s12), .unset, .unset, .unset]) rfl k_) ?_
  show own_Go _ _ _ _ (T1.setTop (mkF m 21 #[.val (.int p0), .val (.int p1), .val (.int p2), .val (.int (Int32.ofNat nr)), .val (.int (Int32.ofNat (c0 + 1))), .val (.ref s12), .unset, .unset, .unset] []))
  refine own_go (fun t_ k_ => XS.aload A2.here hx rfl (hb hby at_21) rfl rfl k_) ?_
  show own_Go _ _ _ _ (T1.setTop (mkF m 23 #[.val (.int p0), .val (.int p1), .val (.int p2), .val (.int (Int32.ofNat nr)), .val (.int (Int32.ofNat (c0 + 1))), .val (.ref s12), .unset, .unset, .unset] [(.ref s12)]))
  refine own_go (fun t_ k_ => XS.ifnonnullYes A2.here hx rfl (pc0 := 23) (pc' := 28) rfl (hb hby at_23) rfl (by decide) (by decide) k_) ?_
  show own_Go _ _ _ _ (T1.setTop (mkF m 28 #[.val (.int p0), .val (.int p1), .val (.int p2), .val (.int (Int32.ofNat nr)), .val (.int (Int32.ofNat (c0 + 1))), .val (.ref s12), .unset, .unset, .unset] []))
  refine own_go (fun t_ k_ => XS.iconst A2.here hx rfl (hb hby at_28) k_) ?_
  show own_Go _ _ _ _ (T1.setTop (mkF m 29 #[.val (.int p0), .val (.int p1), .val (.int p2), .val (.int (Int32.ofNat nr)), .val (.int (Int32.ofNat (c0 + 1))), .val (.ref s12), .unset, .unset, .unset] [(.int (3 : Int32))]))
  refine own_go (fun t_ k_ => XS.iload A2.here hx rfl (hb hby at_29) rfl k_) ?_
  show own_Go _ _ _ _ (T1.setTop (mkF m 31 #[.val (.int p0), .val (.int p1), .val (.int p2), .val (.int (Int32.ofNat nr)), .val (.int (Int32.ofNat (c0 + 1))), .val (.ref s12), .unset, .unset, .unset] [(.int (Int32.ofNat (c0 + 1))), (.int (3 : Int32))]))
  refine own_go (fun t_ k_ => XS.imul A2.here hx rfl (hb hby at_31) rfl k_) ?_
  show own_Go _ _ _ _ (T1.setTop (mkF m 32 #[.val (.int p0), .val (.int p1), .val (.int p2), .val (.int (Int32.ofNat nr)), .val (.int (Int32.ofNat (c0 + 1))), .val (.ref s12), .unset, .unset, .unset] [(.int ((3 : Int32) * (Int32.ofNat (c0 + 1))))]))
  rw [show ((3 : Int32) * (Int32.ofNat (c0 + 1))) = (Int32.ofNat (3 * (c0 + 1))) from own_nmul 3 _]
  show own_Go _ _ _ _ (T1.setTop (mkF m 32 #[.val (.int p0), .val (.int p1), .val (.int p2), .val (.int (Int32.ofNat nr)), .val (.int (Int32.ofNat (c0 + 1))), .val (.ref s12), .unset, .unset, .unset] [(.int (Int32.ofNat (3 * (c0 + 1))))]))
  refine own_go (fun t_ k_ => XS.iconst A2.here hx rfl (hb hby at_32) k_) ?_
  show own_Go _ _ _ _ (T1.setTop (mkF m 33 #[.val (.int p0), .val (.int p1), .val (.int p2), .val (.int (Int32.ofNat nr)), .val (.int (Int32.ofNat (c0 + 1))), .val (.ref s12), .unset, .unset, .unset] [(.int (2 : Int32)), (.int (Int32.ofNat (3 * (c0 + 1))))]))
  refine own_go (fun t_ k_ => XS.iadd A2.here hx rfl (hb hby at_33) rfl k_) ?_
  show own_Go _ _ _ _ (T1.setTop (mkF m 34 #[.val (.int p0), .val (.int p1), .val (.int p2), .val (.int (Int32.ofNat nr)), .val (.int (Int32.ofNat (c0 + 1))), .val (.ref s12), .unset, .unset, .unset] [(.int ((Int32.ofNat (3 * (c0 + 1))) + (2 : Int32)))]))
  rw [show ((Int32.ofNat (3 * (c0 + 1))) + (2 : Int32)) = (Int32.ofNat (3 * (c0 + 1) + 2)) from own_nadd _ 2]
  show own_Go _ _ _ _ (T1.setTop (mkF m 34 #[.val (.int p0), .val (.int p1), .val (.int p2), .val (.int (Int32.ofNat nr)), .val (.int (Int32.ofNat (c0 + 1))), .val (.ref s12), .unset, .unset, .unset] [(.int (Int32.ofNat (3 * (c0 + 1) + 2)))]))
  refine own_go (fun t_ k_ => XS.istore A2.here hx rfl (hb hby at_34) rfl (l' := #[.val (.int p0), .val (.int p1), .val (.int p2), .val (.int (Int32.ofNat nr)), .val (.int (Int32.ofNat (c0 + 1))), .val (.ref s12), .val (.int (Int32.ofNat (3 * (c0 + 1) + 2))), .unset, .unset]) rfl k_) ?_
  show own_Go _ _ _ _ (T1.setTop (mkF m 36 #[.val (.int p0), .val (.int p1), .val (.int p2), .val (.int (Int32.ofNat nr)), .val (.int (Int32.ofNat (c0 + 1))), .val (.ref s12), .val (.int (Int32.ofNat (3 * (c0 + 1) + 2))), .unset, .unset] []))
  refine own_go (fun t_ k_ => XS.iloadN A2.here hx rfl (hb hby at_36) rfl k_) ?_
  show own_Go _ _ _ _ (T1.setTop (mkF m 37 #[.val (.int p0), .val (.int p1), .val (.int p2), .val (.int (Int32.ofNat nr)), .val (.int (Int32.ofNat (c0 + 1))), .val (.ref s12), .val (.int (Int32.ofNat (3 * (c0 + 1) + 2))), .unset, .unset] [(.int (Int32.ofNat nr))]))
  by_cases hc23 : (Int32.ofNat nr) = (0 : Int32)
  ·
    refine own_go (fun t_ k_ => XS.ifNo A2.here hx rfl (hb hby at_37) rfl ((if0 _ _).trans (teq hc23).2) k_) ?_
    show own_Go _ _ _ _ (T1.setTop (mkF m 40 #[.val (.int p0), .val (.int p1), .val (.int p2), .val (.int (Int32.ofNat nr)), .val (.int (Int32.ofNat (c0 + 1))), .val (.ref s12), .val (.int (Int32.ofNat (3 * (c0 + 1) + 2))), .unset, .unset] []))
    refine own_go (fun t_ k_ => XS.iconst A2.here hx rfl (hb hby at_40) k_) ?_
    show own_Go _ _ _ _ (T1.setTop (mkF m 41 #[.val (.int p0), .val (.int p1), .val (.int p2), .val (.int (Int32.ofNat nr)), .val (.int (Int32.ofNat (c0 + 1))), .val (.ref s12), .val (.int (Int32.ofNat (3 * (c0 + 1) + 2))), .unset, .unset] [(.int (0 : Int32))]))
    refine own_go (fun t_ k_ => XS.goto A2.here hx rfl (pc0 := 41) (pc' := 50) rfl (hb hby at_41) (by decide) (by decide) k_) ?_
    show own_Go _ _ _ _ (T1.setTop (mkF m 50 #[.val (.int p0), .val (.int p1), .val (.int p2), .val (.int (Int32.ofNat nr)), .val (.int (Int32.ofNat (c0 + 1))), .val (.ref s12), .val (.int (Int32.ofNat (3 * (c0 + 1) + 2))), .unset, .unset] [(.int (0 : Int32))]))
    have enr0 : nr = 0 := (own_neq (j := 0) (by omega) (by decide)).mp hc23
    have eZ : (own_vals nr (c0 + 1)) = [] := by rw [enr0]; rfl
    refine own_go (fun t_ k_ => XS.istore A2.here hx rfl (hb hby at_50) rfl (l' := #[.val (.int p0), .val (.int p1), .val (.int p2), .val (.int (Int32.ofNat nr)), .val (.int (Int32.ofNat (c0 + 1))), .val (.ref s12), .val (.int (Int32.ofNat (3 * (c0 + 1) + 2))), .val (.int (0 : Int32)), .unset]) rfl k_) ?_
    show own_Go _ _ _ _ (T1.setTop (mkF m 52 #[.val (.int p0), .val (.int p1), .val (.int p2), .val (.int (Int32.ofNat nr)), .val (.int (Int32.ofNat (c0 + 1))), .val (.ref s12), .val (.int (Int32.ofNat (3 * (c0 + 1) + 2))), .val (.int (0 : Int32)), .unset] []))
    refine own_go (fun t_ k_ => XS.aload A2.here hx rfl (hb hby at_52) rfl rfl k_) ?_
    show own_Go _ _ _ _ (T1.setTop (mkF m 54 #[.val (.int p0), .val (.int p1), .val (.int p2), .val (.int (Int32.ofNat nr)), .val (.int (Int32.ofNat (c0 + 1))), .val (.ref s12), .val (.int (Int32.ofNat (3 * (c0 + 1) + 2))), .val (.int (0 : Int32)), .unset] [(.ref s12)]))
    refine own_callV A2 hx hZ (y := (⟨"java/lang/String", "length", "()I"⟩ : MethodName)) (z := (⟨"java/lang/String", "length", "()I"⟩ : MethodName)) hown (hw _ (List.mem_of_getElem? (i := 158) rfl)) (hw _ (List.mem_of_getElem? (i := 28) rfl)) (hw _ (List.mem_of_getElem? (i := 30) rfl)) (hw _ (List.mem_of_getElem? (i := 29) rfl)) (hw _ (List.mem_of_getElem? (i := 8) rfl)) (hw _ (List.mem_of_getElem? (i := 31) rfl)) (notFace_of_selects (args := #[]) (mvT hZ (hw _ (List.mem_of_getElem? (i := 30) rfl)))) (by decide) (b := s12) (argsL := []) (rest := []) E15 (rm5 l Z a0 hw s12 z_C t13 fq14 (own_vals nr (c0 + 1)) h3 n0 (S_COMPACT_STRINGS.ext O21.2) hz E15 F16 F17 V18) 0 (by decide) (by decide) rfl (by rw [hml]; rfl) (lenOf pd___I rfl) rfl (by show 2 * 0 + _ ≤ _; exact Nat.le_of_eq rfl) (hb hby at_54) (by decide) (by decide) (fun v27 T24 h26 A25 hQ28 => ?_)
    obtain ⟨rfl, rfl⟩ := hQ28
    show own_Go _ _ _ _ (T24.setTop (mkF m 57 #[.val (.int p0), .val (.int p1), .val (.int p2), .val (.int (Int32.ofNat nr)), .val (.int (Int32.ofNat (c0 + 1))), .val (.ref s12), .val (.int (Int32.ofNat (3 * (c0 + 1) + 2))), .val (.int (0 : Int32)), .unset] [(.int (Int32.ofNat (own_vals nr (c0 + 1)).length))]))
    refine own_go (fun t_ k_ => XS.iload A25.here hx rfl (hb hby at_57) rfl k_) ?_
    show own_Go _ _ _ _ (T24.setTop (mkF m 59 #[.val (.int p0), .val (.int p1), .val (.int p2), .val (.int (Int32.ofNat nr)), .val (.int (Int32.ofNat (c0 + 1))), .val (.ref s12), .val (.int (Int32.ofNat (3 * (c0 + 1) + 2))), .val (.int (0 : Int32)), .unset] [(.int (0 : Int32)), (.int (Int32.ofNat (own_vals nr (c0 + 1)).length))]))
    have hc29 : (Int32.ofNat (own_vals nr (c0 + 1)).length) = (0 : Int32) := (by rw [eZ]; rfl)
    refine own_go (fun t_ k_ => XS.icmpYes A25.here hx rfl (pc0 := 59) (pc' := 64) rfl (hb hby at_59) rfl (teq hc29).1 (by decide) (by decide) k_) ?_
    show own_Go _ _ _ _ (T24.setTop (mkF m 64 #[.val (.int p0), .val (.int p1), .val (.int p2), .val (.int (Int32.ofNat nr)), .val (.int (Int32.ofNat (c0 + 1))), .val (.ref s12), .val (.int (Int32.ofNat (3 * (c0 + 1) + 2))), .val (.int (0 : Int32)), .unset] []))
    refine own_go (fun t_ k_ => XS.iloadN A25.here hx rfl (hb hby at_64) rfl k_) ?_
    show own_Go _ _ _ _ (T24.setTop (mkF m 65 #[.val (.int p0), .val (.int p1), .val (.int p2), .val (.int (Int32.ofNat nr)), .val (.int (Int32.ofNat (c0 + 1))), .val (.ref s12), .val (.int (Int32.ofNat (3 * (c0 + 1) + 2))), .val (.int (0 : Int32)), .unset] [(.int (Int32.ofNat nr))]))
    have hc30 : (Int32.ofNat nr) = (0 : Int32) := hc23
    refine own_go (fun t_ k_ => XS.ifNo A25.here hx rfl (hb hby at_65) rfl ((if0 _ _).trans (teq hc30).2) k_) ?_
    show own_Go _ _ _ _ (T24.setTop (mkF m 68 #[.val (.int p0), .val (.int p1), .val (.int p2), .val (.int (Int32.ofNat nr)), .val (.int (Int32.ofNat (c0 + 1))), .val (.ref s12), .val (.int (Int32.ofNat (3 * (c0 + 1) + 2))), .val (.int (0 : Int32)), .unset] []))
    have VE : own_Arr Z h3 t13 .byte (0 : Int32) fq14 := by have q := V18; rw [eZ] at q; exact q
    refine own_go (fun t_ k_ => XS.aload A25.here hx rfl (hb hby at_68) rfl rfl k_) ?_
    show own_Go _ _ _ _ (T24.setTop (mkF m 70 #[.val (.int p0), .val (.int p1), .val (.int p2), .val (.int (Int32.ofNat nr)), .val (.int (Int32.ofNat (c0 + 1))), .val (.ref s12), .val (.int (Int32.ofNat (3 * (c0 + 1) + 2))), .val (.int (0 : Int32)), .unset] [(.ref s12)]))
    refine own_callV A25 hx hZ (y := (⟨"java/lang/String", "isEmpty", "()Z"⟩ : MethodName)) (z := (⟨"java/lang/String", "isEmpty", "()Z"⟩ : MethodName)) hown (hw _ (List.mem_of_getElem? (i := 159) rfl)) (hw _ (List.mem_of_getElem? (i := 160) rfl)) (hw _ (List.mem_of_getElem? (i := 162) rfl)) (hw _ (List.mem_of_getElem? (i := 161) rfl)) (hw _ (List.mem_of_getElem? (i := 8) rfl)) (hw _ (List.mem_of_getElem? (i := 163) rfl)) (notFace_of_selects (args := #[]) (mvT hZ (hw _ (List.mem_of_getElem? (i := 162) rfl)))) (by decide) (b := s12) (argsL := []) (rest := []) E15 (rm27 l Z a0 hw s12 t13 fq14 h3 n0 F17 VE) 0 (by decide) (by decide) rfl (by rw [hml]; rfl) (lenOf pd___Z rfl) rfl (by show 2 * 0 + _ ≤ _; exact Nat.le_of_eq rfl) (hb hby at_70) (by decide) (by decide) (fun v34 T31 h33 A32 hQ35 => ?_)
    obtain ⟨rfl, rfl⟩ := hQ35
    show own_Go _ _ _ _ (T31.setTop (mkF m 73 #[.val (.int p0), .val (.int p1), .val (.int p2), .val (.int (Int32.ofNat nr)), .val (.int (Int32.ofNat (c0 + 1))), .val (.ref s12), .val (.int (Int32.ofNat (3 * (c0 + 1) + 2))), .val (.int (0 : Int32)), .unset] [(.int (1 : Int32))]))
    refine own_retNC A32 hx (t := .boolean) hret (by simp) hlk (by decide) (by decide) hZ hEL hs0 C20 hS9 hk10 (hb hby at_73) ?_
    exact ⟨rfl, trivial⟩
  ·
    refine own_go (fun t_ k_ => XS.ifYes A2.here hx rfl (pc0 := 37) (pc' := 44) rfl (hb hby at_37) rfl ((if0 _ _).trans (feq hc23).2) (by decide) (by decide) k_) ?_
    show own_Go _ _ _ _ (T1.setTop (mkF m 44 #[.val (.int p0), .val (.int p1), .val (.int p2), .val (.int (Int32.ofNat nr)), .val (.int (Int32.ofNat (c0 + 1))), .val (.ref s12), .val (.int (Int32.ofNat (3 * (c0 + 1) + 2))), .unset, .unset] []))
    refine own_go (fun t_ k_ => XS.iloadN A2.here hx rfl (hb hby at_44) rfl k_) ?_
    show own_Go _ _ _ _ (T1.setTop (mkF m 45 #[.val (.int p0), .val (.int p1), .val (.int p2), .val (.int (Int32.ofNat nr)), .val (.int (Int32.ofNat (c0 + 1))), .val (.ref s12), .val (.int (Int32.ofNat (3 * (c0 + 1) + 2))), .unset, .unset] [(.int (Int32.ofNat nr))]))
    refine own_go (fun t_ k_ => XS.iload A2.here hx rfl (hb hby at_45) rfl k_) ?_
    show own_Go _ _ _ _ (T1.setTop (mkF m 47 #[.val (.int p0), .val (.int p1), .val (.int p2), .val (.int (Int32.ofNat nr)), .val (.int (Int32.ofNat (c0 + 1))), .val (.ref s12), .val (.int (Int32.ofNat (3 * (c0 + 1) + 2))), .unset, .unset] [(.int (Int32.ofNat (3 * (c0 + 1) + 2))), (.int (Int32.ofNat nr))]))
    refine own_go (fun t_ k_ => XS.imul A2.here hx rfl (hb hby at_47) rfl k_) ?_
    show own_Go _ _ _ _ (T1.setTop (mkF m 48 #[.val (.int p0), .val (.int p1), .val (.int p2), .val (.int (Int32.ofNat nr)), .val (.int (Int32.ofNat (c0 + 1))), .val (.ref s12), .val (.int (Int32.ofNat (3 * (c0 + 1) + 2))), .unset, .unset] [(.int ((Int32.ofNat nr) * (Int32.ofNat (3 * (c0 + 1) + 2))))]))
    rw [show ((Int32.ofNat nr) * (Int32.ofNat (3 * (c0 + 1) + 2))) = (Int32.ofNat (nr * (3 * (c0 + 1) + 2))) from own_nmul _ _]
    show own_Go _ _ _ _ (T1.setTop (mkF m 48 #[.val (.int p0), .val (.int p1), .val (.int p2), .val (.int (Int32.ofNat nr)), .val (.int (Int32.ofNat (c0 + 1))), .val (.ref s12), .val (.int (Int32.ofNat (3 * (c0 + 1) + 2))), .unset, .unset] [(.int (Int32.ofNat (nr * (3 * (c0 + 1) + 2))))]))
    refine own_go (fun t_ k_ => XS.iconst A2.here hx rfl (hb hby at_48) k_) ?_
    show own_Go _ _ _ _ (T1.setTop (mkF m 49 #[.val (.int p0), .val (.int p1), .val (.int p2), .val (.int (Int32.ofNat nr)), .val (.int (Int32.ofNat (c0 + 1))), .val (.ref s12), .val (.int (Int32.ofNat (3 * (c0 + 1) + 2))), .unset, .unset] [(.int (2 : Int32)), (.int (Int32.ofNat (nr * (3 * (c0 + 1) + 2))))]))
    refine own_go (fun t_ k_ => XS.isub A2.here hx rfl (hb hby at_49) rfl k_) ?_
    show own_Go _ _ _ _ (T1.setTop (mkF m 50 #[.val (.int p0), .val (.int p1), .val (.int p2), .val (.int (Int32.ofNat nr)), .val (.int (Int32.ofNat (c0 + 1))), .val (.ref s12), .val (.int (Int32.ofNat (3 * (c0 + 1) + 2))), .unset, .unset] [(.int ((Int32.ofNat (nr * (3 * (c0 + 1) + 2))) - (2 : Int32)))]))
    have hnr1 : 1 ≤ nr := Nat.pos_of_ne_zero fun z => hc23 (by rw [z]; rfl)
    rw [own_vlen nr c0 hnr1]
    show own_Go _ _ _ _ (T1.setTop (mkF m 50 #[.val (.int p0), .val (.int p1), .val (.int p2), .val (.int (Int32.ofNat nr)), .val (.int (Int32.ofNat (c0 + 1))), .val (.ref s12), .val (.int (Int32.ofNat (3 * (c0 + 1) + 2))), .unset, .unset] [(.int (Int32.ofNat (own_vals nr (c0 + 1)).length))]))
    refine own_go (fun t_ k_ => XS.istore A2.here hx rfl (hb hby at_50) rfl (l' := #[.val (.int p0), .val (.int p1), .val (.int p2), .val (.int (Int32.ofNat nr)), .val (.int (Int32.ofNat (c0 + 1))), .val (.ref s12), .val (.int (Int32.ofNat (3 * (c0 + 1) + 2))), .val (.int (Int32.ofNat (own_vals nr (c0 + 1)).length)), .unset]) rfl k_) ?_
    show own_Go _ _ _ _ (T1.setTop (mkF m 52 #[.val (.int p0), .val (.int p1), .val (.int p2), .val (.int (Int32.ofNat nr)), .val (.int (Int32.ofNat (c0 + 1))), .val (.ref s12), .val (.int (Int32.ofNat (3 * (c0 + 1) + 2))), .val (.int (Int32.ofNat (own_vals nr (c0 + 1)).length)), .unset] []))
    refine own_go (fun t_ k_ => XS.aload A2.here hx rfl (hb hby at_52) rfl rfl k_) ?_
    show own_Go _ _ _ _ (T1.setTop (mkF m 54 #[.val (.int p0), .val (.int p1), .val (.int p2), .val (.int (Int32.ofNat nr)), .val (.int (Int32.ofNat (c0 + 1))), .val (.ref s12), .val (.int (Int32.ofNat (3 * (c0 + 1) + 2))), .val (.int (Int32.ofNat (own_vals nr (c0 + 1)).length)), .unset] [(.ref s12)]))
    refine own_callV A2 hx hZ (y := (⟨"java/lang/String", "length", "()I"⟩ : MethodName)) (z := (⟨"java/lang/String", "length", "()I"⟩ : MethodName)) hown (hw _ (List.mem_of_getElem? (i := 158) rfl)) (hw _ (List.mem_of_getElem? (i := 28) rfl)) (hw _ (List.mem_of_getElem? (i := 30) rfl)) (hw _ (List.mem_of_getElem? (i := 29) rfl)) (hw _ (List.mem_of_getElem? (i := 8) rfl)) (hw _ (List.mem_of_getElem? (i := 31) rfl)) (notFace_of_selects (args := #[]) (mvT hZ (hw _ (List.mem_of_getElem? (i := 30) rfl)))) (by decide) (b := s12) (argsL := []) (rest := []) E15 (rm5 l Z a0 hw s12 z_C t13 fq14 (own_vals nr (c0 + 1)) h3 n0 (S_COMPACT_STRINGS.ext O21.2) hz E15 F16 F17 V18) 0 (by decide) (by decide) rfl (by rw [hml]; rfl) (lenOf pd___I rfl) rfl (by show 2 * 0 + _ ≤ _; exact Nat.le_of_eq rfl) (hb hby at_54) (by decide) (by decide) (fun v39 T36 h38 A37 hQ40 => ?_)
    obtain ⟨rfl, rfl⟩ := hQ40
    show own_Go _ _ _ _ (T36.setTop (mkF m 57 #[.val (.int p0), .val (.int p1), .val (.int p2), .val (.int (Int32.ofNat nr)), .val (.int (Int32.ofNat (c0 + 1))), .val (.ref s12), .val (.int (Int32.ofNat (3 * (c0 + 1) + 2))), .val (.int (Int32.ofNat (own_vals nr (c0 + 1)).length)), .unset] [(.int (Int32.ofNat (own_vals nr (c0 + 1)).length))]))
    refine own_go (fun t_ k_ => XS.iload A37.here hx rfl (hb hby at_57) rfl k_) ?_
    show own_Go _ _ _ _ (T36.setTop (mkF m 59 #[.val (.int p0), .val (.int p1), .val (.int p2), .val (.int (Int32.ofNat nr)), .val (.int (Int32.ofNat (c0 + 1))), .val (.ref s12), .val (.int (Int32.ofNat (3 * (c0 + 1) + 2))), .val (.int (Int32.ofNat (own_vals nr (c0 + 1)).length)), .unset] [(.int (Int32.ofNat (own_vals nr (c0 + 1)).length)), (.int (Int32.ofNat (own_vals nr (c0 + 1)).length))]))
    have hc41 : (Int32.ofNat (own_vals nr (c0 + 1)).length) = (Int32.ofNat (own_vals nr (c0 + 1)).length) := rfl
    refine own_go (fun t_ k_ => XS.icmpYes A37.here hx rfl (pc0 := 59) (pc' := 64) rfl (hb hby at_59) rfl (teq hc41).1 (by decide) (by decide) k_) ?_
    show own_Go _ _ _ _ (T36.setTop (mkF m 64 #[.val (.int p0), .val (.int p1), .val (.int p2), .val (.int (Int32.ofNat nr)), .val (.int (Int32.ofNat (c0 + 1))), .val (.ref s12), .val (.int (Int32.ofNat (3 * (c0 + 1) + 2))), .val (.int (Int32.ofNat (own_vals nr (c0 + 1)).length)), .unset] []))
    refine own_go (fun t_ k_ => XS.iloadN A37.here hx rfl (hb hby at_64) rfl k_) ?_
    show own_Go _ _ _ _ (T36.setTop (mkF m 65 #[.val (.int p0), .val (.int p1), .val (.int p2), .val (.int (Int32.ofNat nr)), .val (.int (Int32.ofNat (c0 + 1))), .val (.ref s12), .val (.int (Int32.ofNat (3 * (c0 + 1) + 2))), .val (.int (Int32.ofNat (own_vals nr (c0 + 1)).length)), .unset] [(.int (Int32.ofNat nr))]))
    have hc42 : ¬ ((Int32.ofNat nr) = (0 : Int32)) := hc23
    refine own_go (fun t_ k_ => XS.ifYes A37.here hx rfl (pc0 := 65) (pc' := 74) rfl (hb hby at_65) rfl ((if0 _ _).trans (feq hc42).2) (by decide) (by decide) k_) ?_
    show own_Go _ _ _ _ (T36.setTop (mkF m 74 #[.val (.int p0), .val (.int p1), .val (.int p2), .val (.int (Int32.ofNat nr)), .val (.int (Int32.ofNat (c0 + 1))), .val (.ref s12), .val (.int (Int32.ofNat (3 * (c0 + 1) + 2))), .val (.int (Int32.ofNat (own_vals nr (c0 + 1)).length)), .unset] []))
    have hzl : 0 < (own_vals nr (c0 + 1)).length := by have q := own_vals_len nr c0 hnr1; have : 1 * 5 ≤ nr * (3 * (c0 + 1) + 2) := Nat.mul_le_mul hnr1 (by omega); omega
    have hzb := own_vbound nr c0 hnr hc0
    refine own_go (fun t_ k_ => XS.iloadN A37.here hx rfl (hb hby at_74) rfl k_) ?_
    show own_Go _ _ _ _ (T36.setTop (mkF m 75 #[.val (.int p0), .val (.int p1), .val (.int p2), .val (.int (Int32.ofNat nr)), .val (.int (Int32.ofNat (c0 + 1))), .val (.ref s12), .val (.int (Int32.ofNat (3 * (c0 + 1) + 2))), .val (.int (Int32.ofNat (own_vals nr (c0 + 1)).length)), .unset] [(.int p2)]))
    refine own_ldcI A37 hx hZ hown (hw _ (List.mem_of_getElem? (i := 213) rfl)) rfl (hb hby at_75) ?_
    show own_Go _ _ _ _ (T36.setTop (mkF m 77 #[.val (.int p0), .val (.int p1), .val (.int p2), .val (.int (Int32.ofNat nr)), .val (.int (Int32.ofNat (c0 + 1))), .val (.ref s12), .val (.int (Int32.ofNat (3 * (c0 + 1) + 2))), .val (.int (Int32.ofNat (own_vals nr (c0 + 1)).length)), .unset] [(.int (2147483647 : Int32)), (.int p2)]))
    refine own_go (fun t_ k_ => XS.iand A37.here hx rfl (hb hby at_77) rfl k_) ?_
    show own_Go _ _ _ _ (T36.setTop (mkF m 78 #[.val (.int p0), .val (.int p1), .val (.int p2), .val (.int (Int32.ofNat nr)), .val (.int (Int32.ofNat (c0 + 1))), .val (.ref s12), .val (.int (Int32.ofNat (3 * (c0 + 1) + 2))), .val (.int (Int32.ofNat (own_vals nr (c0 + 1)).length)), .unset] [(.int (p2 &&& (2147483647 : Int32)))]))
    refine own_go (fun t_ k_ => XS.iload A37.here hx rfl (hb hby at_78) rfl k_) ?_
    show own_Go _ _ _ _ (T36.setTop (mkF m 80 #[.val (.int p0), .val (.int p1), .val (.int p2), .val (.int (Int32.ofNat nr)), .val (.int (Int32.ofNat (c0 + 1))), .val (.ref s12), .val (.int (Int32.ofNat (3 * (c0 + 1) + 2))), .val (.int (Int32.ofNat (own_vals nr (c0 + 1)).length)), .unset] [(.int (Int32.ofNat (own_vals nr (c0 + 1)).length)), (.int (p2 &&& (2147483647 : Int32)))]))
    refine own_go (fun t_ k_ => own_irem A37.here hx rfl (hb hby at_80) rfl (own_nz0 hzl hzb) k_) ?_
    show own_Go _ _ _ _ (T36.setTop (mkF m 81 #[.val (.int p0), .val (.int p1), .val (.int p2), .val (.int (Int32.ofNat nr)), .val (.int (Int32.ofNat (c0 + 1))), .val (.ref s12), .val (.int (Int32.ofNat (3 * (c0 + 1) + 2))), .val (.int (Int32.ofNat (own_vals nr (c0 + 1)).length)), .unset] [(.int ((p2 &&& (2147483647 : Int32)) % (Int32.ofNat (own_vals nr (c0 + 1)).length)))]))
    obtain ⟨ps, hps, eps⟩ := own_pos p2 (own_vals nr (c0 + 1)).length hzl (own_vbound nr c0 hnr hc0)
    rw [eps]
    show own_Go _ _ _ _ (T36.setTop (mkF m 81 #[.val (.int p0), .val (.int p1), .val (.int p2), .val (.int (Int32.ofNat nr)), .val (.int (Int32.ofNat (c0 + 1))), .val (.ref s12), .val (.int (Int32.ofNat (3 * (c0 + 1) + 2))), .val (.int (Int32.ofNat (own_vals nr (c0 + 1)).length)), .unset] [(.int (Int32.ofNat ps))]))
    refine own_go (fun t_ k_ => XS.istore A37.here hx rfl (hb hby at_81) rfl (l' := #[.val (.int p0), .val (.int p1), .val (.int p2), .val (.int (Int32.ofNat nr)), .val (.int (Int32.ofNat (c0 + 1))), .val (.ref s12), .val (.int (Int32.ofNat (3 * (c0 + 1) + 2))), .val (.int (Int32.ofNat (own_vals nr (c0 + 1)).length)), .val (.int (Int32.ofNat ps))]) rfl k_) ?_
    show own_Go _ _ _ _ (T36.setTop (mkF m 83 #[.val (.int p0), .val (.int p1), .val (.int p2), .val (.int (Int32.ofNat nr)), .val (.int (Int32.ofNat (c0 + 1))), .val (.ref s12), .val (.int (Int32.ofNat (3 * (c0 + 1) + 2))), .val (.int (Int32.ofNat (own_vals nr (c0 + 1)).length)), .val (.int (Int32.ofNat ps))] []))
    have PZ := P19
    refine own_go (fun t_ k_ => XS.aload A37.here hx rfl (hb hby at_83) rfl rfl k_) ?_
    show own_Go _ _ _ _ (T36.setTop (mkF m 85 #[.val (.int p0), .val (.int p1), .val (.int p2), .val (.int (Int32.ofNat nr)), .val (.int (Int32.ofNat (c0 + 1))), .val (.ref s12), .val (.int (Int32.ofNat (3 * (c0 + 1) + 2))), .val (.int (Int32.ofNat (own_vals nr (c0 + 1)).length)), .val (.int (Int32.ofNat ps))] [(.ref s12)]))
    refine own_go (fun t_ k_ => XS.iload A37.here hx rfl (hb hby at_85) rfl k_) ?_
    show own_Go _ _ _ _ (T36.setTop (mkF m 87 #[.val (.int p0), .val (.int p1), .val (.int p2), .val (.int (Int32.ofNat nr)), .val (.int (Int32.ofNat (c0 + 1))), .val (.ref s12), .val (.int (Int32.ofNat (3 * (c0 + 1) + 2))), .val (.int (Int32.ofNat (own_vals nr (c0 + 1)).length)), .val (.int (Int32.ofNat ps))] [(.int (Int32.ofNat ps)), (.ref s12)]))
    refine own_callV A37 hx hZ (y := (⟨"java/lang/String", "charAt", "(I)C"⟩ : MethodName)) (z := (⟨"java/lang/String", "charAt", "(I)C"⟩ : MethodName)) hown (hw _ (List.mem_of_getElem? (i := 214) rfl)) (hw _ (List.mem_of_getElem? (i := 215) rfl)) (hw _ (List.mem_of_getElem? (i := 217) rfl)) (hw _ (List.mem_of_getElem? (i := 216) rfl)) (hw _ (List.mem_of_getElem? (i := 8) rfl)) (hw _ (List.mem_of_getElem? (i := 218) rfl)) (notFace_of_selects (args := #[]) (mvT hZ (hw _ (List.mem_of_getElem? (i := 217) rfl)))) (by decide) (b := s12) (argsL := [(.int (Int32.ofNat ps))]) (rest := []) E15 (rm37 l Z a0 hw s12 (Int32.ofNat ps) t13 fq14 z_C s_F (own_vals nr (c0 + 1)).length h3 n0 E15 F16 F17 V18 (own_nn (by omega)) ((own_nlt (by omega) hzb).mpr hps) (S_COMPACT_STRINGS.ext O21.2) hz (S_SIOOBE_FORMATTER.ext O21.2) hr_F) 0 (by decide) (by decide) rfl (by rw [hml]; rfl) (lenOf pd__I_C rfl) rfl (by show 2 * 0 + _ ≤ _; exact Nat.le_of_eq rfl) (hb hby at_87) (by decide) (by decide) (fun v46 T43 h45 A44 hQ47 => ?_)
    obtain ⟨rfl, rfl⟩ := hQ47
    show own_Go _ _ _ _ (T43.setTop (mkF m 90 #[.val (.int p0), .val (.int p1), .val (.int p2), .val (.int (Int32.ofNat nr)), .val (.int (Int32.ofNat (c0 + 1))), .val (.ref s12), .val (.int (Int32.ofNat (3 * (c0 + 1) + 2))), .val (.int (Int32.ofNat (own_vals nr (c0 + 1)).length)), .val (.int (Int32.ofNat ps))] [(.int (f37 (Int32.ofNat ps) fq14 z_C s_F (own_vals nr (c0 + 1)).length))]))
    refine own_go (fun t_ k_ => XS.iload A44.here hx rfl (hb hby at_90) rfl k_) ?_
    show own_Go _ _ _ _ (T43.setTop (mkF m 92 #[.val (.int p0), .val (.int p1), .val (.int p2), .val (.int (Int32.ofNat nr)), .val (.int (Int32.ofNat (c0 + 1))), .val (.ref s12), .val (.int (Int32.ofNat (3 * (c0 + 1) + 2))), .val (.int (Int32.ofNat (own_vals nr (c0 + 1)).length)), .val (.int (Int32.ofNat ps))] [(.int (Int32.ofNat ps)), (.int (f37 (Int32.ofNat ps) fq14 z_C s_F (own_vals nr (c0 + 1)).length))]))
    refine own_go (fun t_ k_ => XS.iload A44.here hx rfl (hb hby at_92) rfl k_) ?_
    show own_Go _ _ _ _ (T43.setTop (mkF m 94 #[.val (.int p0), .val (.int p1), .val (.int p2), .val (.int (Int32.ofNat nr)), .val (.int (Int32.ofNat (c0 + 1))), .val (.ref s12), .val (.int (Int32.ofNat (3 * (c0 + 1) + 2))), .val (.int (Int32.ofNat (own_vals nr (c0 + 1)).length)), .val (.int (Int32.ofNat ps))] [(.int (Int32.ofNat (3 * (c0 + 1) + 2))), (.int (Int32.ofNat ps)), (.int (f37 (Int32.ofNat ps) fq14 z_C s_F (own_vals nr (c0 + 1)).length))]))
    refine own_go (fun t_ k_ => own_irem A44.here hx rfl (hb hby at_94) rfl (own_nz0 (by omega) (by omega)) k_) ?_
    show own_Go _ _ _ _ (T43.setTop (mkF m 95 #[.val (.int p0), .val (.int p1), .val (.int p2), .val (.int (Int32.ofNat nr)), .val (.int (Int32.ofNat (c0 + 1))), .val (.ref s12), .val (.int (Int32.ofNat (3 * (c0 + 1) + 2))), .val (.int (Int32.ofNat (own_vals nr (c0 + 1)).length)), .val (.int (Int32.ofNat ps))] [(.int ((Int32.ofNat ps) % (Int32.ofNat (3 * (c0 + 1) + 2)))), (.int (f37 (Int32.ofNat ps) fq14 z_C s_F (own_vals nr (c0 + 1)).length))]))
    refine own_go (fun t_ k_ => XS.iload A44.here hx rfl (hb hby at_95) rfl k_) ?_
    show own_Go _ _ _ _ (T43.setTop (mkF m 97 #[.val (.int p0), .val (.int p1), .val (.int p2), .val (.int (Int32.ofNat nr)), .val (.int (Int32.ofNat (c0 + 1))), .val (.ref s12), .val (.int (Int32.ofNat (3 * (c0 + 1) + 2))), .val (.int (Int32.ofNat (own_vals nr (c0 + 1)).length)), .val (.int (Int32.ofNat ps))] [(.int (Int32.ofNat (c0 + 1))), (.int ((Int32.ofNat ps) % (Int32.ofNat (3 * (c0 + 1) + 2)))), (.int (f37 (Int32.ofNat ps) fq14 z_C s_F (own_vals nr (c0 + 1)).length))]))
    refine own_callS A44 hx hZ hown (y := (⟨"com/example/crosstie/crosstie/ValuesBatchesValuesPinLaw", "expectedChar", "(II)C"⟩ : MethodName)) (hw _ (List.mem_of_getElem? (i := 235) rfl)) (hw _ (List.mem_of_getElem? (i := 236) rfl)) (hw _ (List.mem_of_getElem? (i := 237) rfl)) (hw _ (List.mem_of_getElem? (i := 238) rfl)) (by decide) (argsL := [(.int ((Int32.ofNat ps) % (Int32.ofNat (3 * (c0 + 1) + 2)))), (.int (Int32.ofNat (c0 + 1)))]) (rest := [(.int (f37 (Int32.ofNat ps) fq14 z_C s_F (own_vals nr (c0 + 1)).length))]) (rm42 l Z a0 hw ((Int32.ofNat ps) % (Int32.ofNat (3 * (c0 + 1) + 2))) (Int32.ofNat (c0 + 1)) h3 n0 ) 1 (by decide) (by decide) rfl (by rw [hml]; rfl) (lenOf pd__II_C rfl) rfl (by show 2 * 0 + _ ≤ _; exact Nat.le_of_eq rfl) (hb hby at_97) (by decide) (by decide) (fun v51 T48 h50 A49 hQ52 => ?_)
    obtain ⟨rfl, rfl⟩ := hQ52
    show own_Go _ _ _ _ (T48.setTop (mkF m 100 #[.val (.int p0), .val (.int p1), .val (.int p2), .val (.int (Int32.ofNat nr)), .val (.int (Int32.ofNat (c0 + 1))), .val (.ref s12), .val (.int (Int32.ofNat (3 * (c0 + 1) + 2))), .val (.int (Int32.ofNat (own_vals nr (c0 + 1)).length)), .val (.int (Int32.ofNat ps))] [(.int (f42 ((Int32.ofNat ps) % (Int32.ofNat (3 * (c0 + 1) + 2))) (Int32.ofNat (c0 + 1)))), (.int (f37 (Int32.ofNat ps) fq14 z_C s_F (own_vals nr (c0 + 1)).length))]))
    have hc53 : (f37 (Int32.ofNat ps) fq14 z_C s_F (own_vals nr (c0 + 1)).length) = (f42 ((Int32.ofNat ps) % (Int32.ofNat (3 * (c0 + 1) + 2))) (Int32.ofNat (c0 + 1))) := own_law hnr hc0 PZ hps
    refine own_go (fun t_ k_ => XS.icmpNo A49.here hx rfl (hb hby at_100) rfl (teq hc53).2 k_) ?_
    show own_Go _ _ _ _ (T48.setTop (mkF m 103 #[.val (.int p0), .val (.int p1), .val (.int p2), .val (.int (Int32.ofNat nr)), .val (.int (Int32.ofNat (c0 + 1))), .val (.ref s12), .val (.int (Int32.ofNat (3 * (c0 + 1) + 2))), .val (.int (Int32.ofNat (own_vals nr (c0 + 1)).length)), .val (.int (Int32.ofNat ps))] []))
    refine own_go (fun t_ k_ => XS.iconst A49.here hx rfl (hb hby at_103) k_) ?_
    show own_Go _ _ _ _ (T48.setTop (mkF m 104 #[.val (.int p0), .val (.int p1), .val (.int p2), .val (.int (Int32.ofNat nr)), .val (.int (Int32.ofNat (c0 + 1))), .val (.ref s12), .val (.int (Int32.ofNat (3 * (c0 + 1) + 2))), .val (.int (Int32.ofNat (own_vals nr (c0 + 1)).length)), .val (.int (Int32.ofNat ps))] [(.int (1 : Int32))]))
    refine own_go (fun t_ k_ => XS.goto A49.here hx rfl (pc0 := 104) (pc' := 108) rfl (hb hby at_104) (by decide) (by decide) k_) ?_
    show own_Go _ _ _ _ (T48.setTop (mkF m 108 #[.val (.int p0), .val (.int p1), .val (.int p2), .val (.int (Int32.ofNat nr)), .val (.int (Int32.ofNat (c0 + 1))), .val (.ref s12), .val (.int (Int32.ofNat (3 * (c0 + 1) + 2))), .val (.int (Int32.ofNat (own_vals nr (c0 + 1)).length)), .val (.int (Int32.ofNat ps))] [(.int (1 : Int32))]))
    refine own_retNC A49 hx (t := .boolean) hret (by simp) hlk (by decide) (by decide) hZ hEL hs0 C20 hS9 hk10 (hb hby at_108) ?_
    exact ⟨rfl, trivial⟩
set_option maxRecDepth 65536 in
set_option maxHeartbeats 40000000 in
theorem comes_1 {Post : Tables → Env → Array Value → State → Outcome → State → Prop} (hpost : ∀ tb e args s v u, (limb_1_1.after args s (.returned v) u = true ∧ limb_1_2.after args s (.returned v) u = true ∧ True) → ReturnedEndW s (.returned v) u (Jvm.fieldLocs frame_1_writes args s ++ Jvm.arrayLocs frame_1_arrays args s ++ Jvm.staticLocs frame_1_statics s) 32 5056 → Post tb e args s (.returned v) u) :
    ArmFor flags0 classFile x code maxLocals ret World_1 tables_1 room_1 Calls_1 rest_1 Pre_1 Post := by
  intro l hfl _ _ p e ha hc hk s m args below hf hA hF happ hP
  obtain ⟨hcalls, hrest, hpre⟩ := hP
  obtain ⟨-, -, -, hnamed, -, -, -, hat⟩ := (Spec.applies_iff hf).mp happ
  obtain ⟨hg, hn⟩ := and_e (Cond.before_iff.mp (show (Jvm.Cond.and given_1 narrow_1).before args s = true from hpre))
  obtain ⟨gc, gr⟩ := and_e hg
  obtain ⟨w0, w1, w2, rfl⟩ : ∃ w0 w1 w2 : Value, args = #[w0, w1, w2] := by
    have hs : args.size = 3 := by simpa [Cond.value, given_1] using gc
    obtain ⟨L⟩ := args
    match L, hs with
    | [w0, w1, w2], _ => exact ⟨w0, w1, w2, rfl⟩
  have hw := fun d (hd : d ∈ tables_1) => atoms_spec (ws := Jvm.Cond.code x code maxLocals ret :: tables_1) hat d (List.mem_cons_of_mem _ hd)
  have hfit : Fit s := fun {y c} hc i hi => by
    obtain ⟨ha, rfl⟩ := Array.getElem?_eq_some_iff.mp hc
    have q := List.all_eq_true.mp ((Array.all_eq_true_iff_forall_mem.mp hF) _ (Array.getElem_mem ha)) i (List.mem_range.mpr hi)
    simpa [Array.getElem?_eq_getElem hi] using q
  obtain ⟨q0, gr0⟩ := and_e gr
  obtain ⟨i0, ei0⟩ := is_v q0
  obtain rfl : w0 = (.int i0) := Option.some.inj ei0
  obtain ⟨q1, gr1⟩ := and_e gr0
  obtain ⟨i1, ei1⟩ := is_v q1
  obtain rfl : w1 = (.int i1) := Option.some.inj ei1
  obtain ⟨i2, ei2⟩ := is_v gr1
  obtain rfl : w2 = (.int i2) := Option.some.inj ei2
  obtain ⟨hsets, hown0⟩ := atoms_of _ (rest_1_c_eq ▸ (show rest_1_c.before _ s = true from hrest))
  obtain ⟨z_C, e_C⟩ := is_v (Cond.before_iff.mp (hsets _ (List.mem_of_getElem? (i := 1) rfl)))
  have S_C : Sta s s.heap "java/lang/String" "COMPACT_STRINGS" "Z" (.int z_C) := Sta.start e_C (Or.inl (hsets _ (List.mem_of_getElem? (i := 0) rfl)))
  have hcw : Jvm.Lit.compactW.before _ s = true := hsets _ (List.mem_of_getElem? (i := 2) rfl)
  have hz : ¬ (z_C = (0 : Int32)) := gotF (Cond.eq_ints e_C (Term.int_eval (0))) (not_v (Cond.before_iff.mp (hsets _ (List.mem_of_getElem? (i := 2) rfl))))
  obtain ⟨s_F, e_F, hr_F⟩ := isR_v (Cond.before_iff.mp (hsets _ (List.mem_of_getElem? (i := 8) rfl)))
  have S_F : Sta s s.heap "jdk/internal/util/Preconditions" "SIOOBE_FORMATTER" "Ljava/util/function/BiFunction;" s_F := Sta.start e_F (Or.inl (hsets _ (List.mem_of_getElem? (i := 7) rfl)))
  have wS := own_wS hw
  have hCH : CHv s consts_1 s.vm s.heap := CHv.start (own_EW hw) (fun q hq => hcalls.1 q hq) hcw (wS _ (by simp [Bundle.stringAtoms])) (wS _ (by simp [Bundle.stringAtoms, Bundle.sN]))
  obtain ⟨n, o, h1, h2, h3, _, L, rfl, ⟨⟨rfl, hQ⟩, N⟩, _, hq⟩ := rm0 l s _ hw i0 i1 i2 z_C s_F s.heap s.heap.size (Old.start s) (Nat.le_refl _) hz hr_F S_C S_F tables_1 p e ha hc hk s m _ below hf ((Spec.applies_iff_loose hf).mp happ).1 ⟨rfl, State.Warmed39.refl s, rfl, hCH⟩ trivial
  refine ⟨n, _, h1, h2, h3, hpost _ _ _ _ _ _ ⟨Cond.after_iff.mpr rfl, Cond.after_iff.mpr (eq_i res_at (Term.int_eval (1)) rfl), trivial⟩ ⟨hq.1, hq.2.1, hq.2.2.1, (hq.2.2.2.sift fun y hy => Or.inr (N y hy)).mono (by decide) (by decide)⟩⟩
theorem main_1_1 : Claimed_1_1 := comes_1 fun _ _ _ _ _ _ h hF => ⟨h.1, hF⟩
theorem main_1_2 : Claimed_1_2 := comes_1 fun _ _ _ _ _ _ h hF => ⟨h.2.1, hF⟩
end Jvm.Pilot.@@N@@
namespace Jvm.Pilot.@@N@@
open Jvm Jvm.ClassFile Sem Op Lib Jvm.Free Jvm.Stand Jvm.Pilot.@@N@@.Jvm.D
/-! MADE BY PROGRAM (witnessworld.py) out of the Statement's table words and the real class files: 24 classes; the members and pool entries that the words name. The judged class is class 1, her method 1. -/
namespace start1
open Jvm.ClassFile
def u (s : String) : CpInfo := .utf8 (stringToUtf16 s)
/-- a pool by its gaps: so many unusable entries, then the entry; so many at the end -/
def gap : Nat → List CpInfo → List CpInfo
  | 0, r => r
  | n + 1, r => .unusable :: gap n r
def poolList (es : List (Nat × CpInfo)) (last : Nat) : List CpInfo := es.foldr (fun e r => gap e.1 (e.2 :: r)) (gap last [])
def pool (es : List (Nat × CpInfo)) (last : Nat) : Array CpInfo := ⟨poolList es last⟩
def fileOf (pool : Array CpInfo) (this : Nat) (attrs : Array Attribute := #[]) (ms : Array MethodInfo := #[]) (fl : Nat := 33) (sup : Nat := 0) (ifs : Array Nat := #[]) (fds : Array FieldInfo := #[]) : ClassFile where
  minorVersion := 0
  majorVersion := 65
  constantPool := pool
  accessFlags := fl
  thisClass := this
  superClass := sup
  interfaces := ifs
  fields := fds
  methods := ms
  attributes := attrs
def plain (name : String) (sup : Option ClassId) : Class where
  name := name
  kind := .ordinary
  loader := none
  accessFlags := 33
  super := sup
  interfaces := #[]
  cf := none
  fields := #[]
  methods := #[]
  instanceTypes := #[]
  staticTypes := #[]
  resolved := #[]
  callSites := []
  init := .initialized
  statics := none
  mirror := none

def pool0 : Array CpInfo := pool [(5, u "<init>"), (0, u "()V"), (1, .class_ 10), (1, u "java/lang/Object"), (85, u "clone"), (0, u "()Ljava/lang/Object;")] 26

def k0c0 : Code := { maxStack := 0, maxLocals := 1, code := object_method_1_code, exceptionTable := #[], attributes := #[] }
def k0m0 : Method := { name := "<init>", desc := "()V", sig := { parameters := [], returnType := none }, accessFlags := 1, code := some k0c0 }
def k0m1 : Method := { name := "clone", desc := "()Ljava/lang/Object;", sig := { parameters := [], returnType := some (.object "java/lang/Object") }, accessFlags := 260, code := none }
/-- java/lang/Object -/
def k0 : Class := { plain "java/lang/Object" none with
  accessFlags := 33
  interfaces := #[]
  cf := some (fileOf pool0 8 #[] #[{ accessFlags := 1, nameIndex := 5, descriptorIndex := 6, attributes := #[] }, { accessFlags := 260, nameIndex := 96, descriptorIndex := 97, attributes := #[] }] 33 0 #[] #[])
  fields := #[]
  methods := #[k0m0, k0m1]
  instanceTypes := #[]
  staticTypes := #[]
  resolved := Array.replicate 124 none
  statics := none }

def pool1 : Array CpInfo := pool [(2, .class_ 4), (1, u "java/lang/Object"), (0, u "<init>"), (0, u "()V"), (0, .methodref 8 9), (0, .class_ 10), (0, .nameAndType 11 12), (0, u "com/example/crosstie/crosstie/ValuesBatches"), (0, u "values"), (0, u "(II)Ljava/lang/String;"), (0, .methodref 14 15), (0, .class_ 16), (0, .nameAndType 17 18), (0, u "java/lang/String"), (0, u "length"), (0, u "()I"), (0, .methodref 14 20), (0, .nameAndType 21 22), (0, u "isEmpty"), (0, u "()Z"), (0, .integer 2147483647), (0, .methodref 14 25), (0, .nameAndType 26 27), (0, u "charAt"), (0, u "(I)C"), (0, .methodref 29 30), (0, .class_ 31), (0, .nameAndType 32 33), (0, u "com/example/crosstie/crosstie/ValuesBatchesValuesPinLaw"), (0, u "expectedChar"), (0, u "(II)C"), (2, u "law"), (0, u "(III)Z")] 3

def k1m0 : Method := { name := "<init>", desc := "()V", sig := { parameters := [], returnType := none }, accessFlags := 1, code := none }
def k1c1 : Code := { maxStack := 3, maxLocals := 9, code := code, exceptionTable := #[], attributes := #[] }
def k1m1 : Method := { name := "law", desc := "(III)Z", sig := { parameters := [.int, .int, .int], returnType := some .boolean }, accessFlags := 9, code := some k1c1 }
def k1c2 : Code := { maxStack := 3, maxLocals := 4, code := method_3_code, exceptionTable := #[], attributes := #[] }
def k1m2 : Method := { name := "expectedChar", desc := "(II)C", sig := { parameters := [.int, .int], returnType := some .char }, accessFlags := 10, code := some k1c2 }
/-- com/example/crosstie/crosstie/ValuesBatchesValuesPinLaw -/
def k1 : Class := { plain "com/example/crosstie/crosstie/ValuesBatchesValuesPinLaw" (some 0) with
  accessFlags := 49
  interfaces := #[]
  cf := some (fileOf pool1 29 #[] #[{ accessFlags := 1, nameIndex := 5, descriptorIndex := 6, attributes := #[] }, { accessFlags := 9, nameIndex := 36, descriptorIndex := 37, attributes := #[] }, { accessFlags := 10, nameIndex := 32, descriptorIndex := 33, attributes := #[] }] 49 2 #[] #[])
  fields := #[]
  methods := #[k1m0, k1m1, k1m2]
  instanceTypes := #[]
  staticTypes := #[]
  resolved := Array.replicate 41 none
  statics := none }

def pool2 : Array CpInfo := pool [(1, .class_ 2), (0, u "java/lang/AutoCloseable"), (0, .class_ 4), (0, u "java/lang/Object")] 7

/-- java/lang/AutoCloseable -/
def k2 : Class := { plain "java/lang/AutoCloseable" (some 0) with
  accessFlags := 1537
  interfaces := #[]
  cf := some (fileOf pool2 1 #[] #[] 1537 3 #[] #[])
  fields := #[]
  methods := #[]
  instanceTypes := #[]
  staticTypes := #[]
  resolved := Array.replicate 12 none
  statics := none }

def pool3 : Array CpInfo := pool [(2, .class_ 4), (1, u "java/lang/Object"), (0, u "<init>"), (2, .class_ 10), (1, u "com/example/crosstie/crosstie/ValuesBatches"), (0, u "connection"), (0, u "Ljava/sql/Connection;"), (2, u "sql"), (0, u "Ljava/util/function/IntFunction;"), (2, u "count"), (0, u "I"), (0, .class_ 22), (0, u "java/lang/StringBuilder"), (0, .string 24), (0, u "(?"), (0, .methodref 21 26), (0, .nameAndType 5 27), (0, u "(Ljava/lang/String;)V"), (0, .string 29), (0, u ", ?"), (0, .methodref 21 31), (0, .nameAndType 32 33), (0, u "append"), (0, u "(Ljava/lang/String;)Ljava/lang/StringBuilder;"), (0, .methodref 21 35), (0, .nameAndType 32 36), (0, u "(C)Ljava/lang/StringBuilder;"), (0, .methodref 21 38), (0, .nameAndType 39 40), (0, u "length"), (0, u "()I"), (0, .methodref 21 42), (0, .nameAndType 5 43), (0, u "(I)V"), (0, .string 45), (0, u ""), (0, .string 47), (0, u ", "), (0, .methodref 21 49), (0, .nameAndType 32 50), (0, u "(Ljava/lang/CharSequence;)Ljava/lang/StringBuilder;"), (0, .methodref 21 52), (0, .nameAndType 53 54), (0, u "toString"), (0, u "()Ljava/lang/String;"), (2, u "to"), (2, u "from"), (8, u "full"), (0, u "Ljava/sql/PreparedStatement;"), (16, u "last"), (13, .class_ 102), (0, u "java/lang/AutoCloseable"), (0, u "ROWS"), (8, u "values"), (0, u "(II)Ljava/lang/String;")] 11

def k3c0 : Code := { maxStack := 5, maxLocals := 5, code := prog_13_method_2_code, exceptionTable := #[], attributes := #[] }
def k3m0 : Method := { name := "values", desc := "(II)Ljava/lang/String;", sig := { parameters := [.int, .int], returnType := some (.object "java/lang/String") }, accessFlags := 8, code := some k3c0 }
/-- com/example/crosstie/crosstie/ValuesBatches -/
def k3 : Class := { plain "com/example/crosstie/crosstie/ValuesBatches" (some 0) with
  accessFlags := 48
  interfaces := #[2]
  cf := some (fileOf pool3 8 #[] #[{ accessFlags := 8, nameIndex := 112, descriptorIndex := 113, attributes := #[] }] 48 2 #[101] #[{ accessFlags := 24, nameIndex := 103, descriptorIndex := 20, attributes := #[] }, { accessFlags := 18, nameIndex := 11, descriptorIndex := 12, attributes := #[] }, { accessFlags := 18, nameIndex := 15, descriptorIndex := 16, attributes := #[] }, { accessFlags := 18, nameIndex := 19, descriptorIndex := 20, attributes := #[] }, { accessFlags := 2, nameIndex := 69, descriptorIndex := 70, attributes := #[] }, { accessFlags := 2, nameIndex := 87, descriptorIndex := 70, attributes := #[] }, { accessFlags := 2, nameIndex := 60, descriptorIndex := 20, attributes := #[] }, { accessFlags := 2, nameIndex := 57, descriptorIndex := 20, attributes := #[] }])
  fields := #[{ name := "ROWS", type := .int, accessFlags := 24, slot := 0, constantValue := 0 }, { name := "connection", type := (.object "java/sql/Connection"), accessFlags := 18, slot := 0, constantValue := 0 }, { name := "sql", type := (.object "java/util/function/IntFunction"), accessFlags := 18, slot := 1, constantValue := 0 }, { name := "count", type := .int, accessFlags := 18, slot := 2, constantValue := 0 }, { name := "full", type := (.object "java/sql/PreparedStatement"), accessFlags := 2, slot := 3, constantValue := 0 }, { name := "last", type := (.object "java/sql/PreparedStatement"), accessFlags := 2, slot := 4, constantValue := 0 }, { name := "from", type := .int, accessFlags := 2, slot := 5, constantValue := 0 }, { name := "to", type := .int, accessFlags := 2, slot := 6, constantValue := 0 }]
  methods := #[k3m0]
  instanceTypes := #[(.object "java/sql/Connection"), (.object "java/util/function/IntFunction"), .int, (.object "java/sql/PreparedStatement"), (.object "java/sql/PreparedStatement"), .int, .int]
  staticTypes := #[.int]
  resolved := Array.replicate 125 none
  statics := none }

def pool4 : Array CpInfo := pool [(1, .class_ 2), (0, u "java/lang/Appendable"), (0, .class_ 4), (0, u "java/lang/Object")] 9

/-- java/lang/Appendable -/
def k4 : Class := { plain "java/lang/Appendable" (some 0) with
  accessFlags := 1537
  interfaces := #[]
  cf := some (fileOf pool4 1 #[] #[] 1537 3 #[] #[])
  fields := #[]
  methods := #[]
  instanceTypes := #[]
  staticTypes := #[]
  resolved := Array.replicate 14 none
  statics := none }

def pool5 : Array CpInfo := pool [(2, .class_ 4), (1, u "java/lang/CharSequence"), (42, .class_ 48), (0, u "java/lang/CharSequence$1CodePointIterator"), (10, .class_ 60), (0, u "java/lang/CharSequence$1CharIterator"), (5, .class_ 67), (0, u "java/lang/Object")] 63

/-- java/lang/CharSequence -/
def k5 : Class := { plain "java/lang/CharSequence" (some 0) with
  accessFlags := 1537
  interfaces := #[]
  cf := some (fileOf pool5 2 #[.nestMembers #[47, 59]] #[] 1537 66 #[] #[])
  fields := #[]
  methods := #[]
  instanceTypes := #[]
  staticTypes := #[]
  resolved := Array.replicate 131 none
  statics := none }

def pool6 : Array CpInfo := pool [(1, .class_ 2), (0, u "java/lang/String"), (0, .methodref 4 5), (0, .class_ 6), (0, .nameAndType 7 8), (0, u "java/lang/Object"), (0, u "<init>"), (0, u "()V"), (1, .class_ 12), (1, u "java/lang/AbstractStringBuilder"), (0, u "EMPTYVALUE"), (0, u "[B"), (0, .fieldref 10 16), (0, .nameAndType 17 14), (0, u "value"), (0, .fieldref 1 19), (0, .nameAndType 20 21), (0, u "COMPACT_STRINGS"), (0, u "Z"), (0, .fieldref 10 23), (0, .nameAndType 24 25), (0, u "coder"), (0, u "B"), (6, .methodref 1 33), (0, .nameAndType 34 35), (0, u "length"), (0, u "()I"), (2, .integer 2147483631), (0, .integer 2147483647), (0, .methodref 1 41), (0, .nameAndType 24 42), (0, u "()B"), (0, .methodref 10 44), (0, .nameAndType 45 46), (0, u "append"), (0, u "(Ljava/lang/String;)Ljava/lang/AbstractStringBuilder;"), (1, .class_ 49), (0, u "java/lang/CharSequence"), (19, u "(Ljava/lang/String;)V"), (0, .methodref 10 71), (0, .nameAndType 72 42), (0, u "getCoder"), (0, .fieldref 10 74), (0, .nameAndType 75 21), (0, u "maybeLatin1"), (2, u "(Ljava/lang/CharSequence;)Ljava/lang/AbstractStringBuilder;"), (0, .fieldref 10 80), (0, .nameAndType 81 82), (0, u "count"), (0, u "I"), (0, .methodref 10 84), (0, .nameAndType 85 86), (0, u "isLatin1"), (0, u "()Z"), (1, .class_ 90), (1, u "java/lang/StringLatin1"), (9, .methodref 10 101), (0, .nameAndType 102 103), (0, u "ensureCapacityInternal"), (0, u "(I)V"), (0, .methodref 10 105), (0, .nameAndType 106 107), (0, u "newCapacity"), (0, u "(I)I"), (0, .methodref 109 110), (0, .class_ 111), (0, .nameAndType 112 113), (0, u "java/util/Arrays"), (0, u "copyOf"), (0, u "([BI)[B"), (0, .methodref 115 116), (0, .class_ 117), (0, .nameAndType 118 119), (0, u "jdk/internal/util/ArraysSupport"), (0, u "newLength"), (0, u "(III)I"), (40, .methodref 10 33), (30, .methodref 88 192), (0, .nameAndType 193 194), (0, u "canEncode"), (0, u "(C)Z"), (13, .methodref 10 209), (0, .nameAndType 210 211), (0, u "putStringAt"), (0, u "(ILjava/lang/String;)V"), (0, .methodref 10 213), (0, .nameAndType 45 214), (0, u "(Ljava/lang/AbstractStringBuilder;)Ljava/lang/AbstractStringBuilder;"), (0, .methodref 10 216), (0, .nameAndType 217 218), (0, u "inflateIfNeededFor"), (0, u "(Ljava/lang/AbstractStringBuilder;)V"), (0, .methodref 10 220), (0, .nameAndType 221 222), (0, u "getBytes"), (0, u "([BIB)V"), (69, u "(C)Ljava/lang/AbstractStringBuilder;"), (16, .methodref 310 311), (0, .class_ 312), (0, .nameAndType 313 314), (0, u "java/lang/System"), (0, u "arraycopy"), (0, u "(Ljava/lang/Object;ILjava/lang/Object;II)V"), (82, .methodref 10 398), (0, .nameAndType 217 69), (0, .methodref 1 220), (3, u "()[B"), (40, .class_ 445), (0, u "java/lang/Appendable"), (106, u "getValue")] 56

def k6m0 : Method := { name := "<init>", desc := "()V", sig := { parameters := [], returnType := none }, accessFlags := 0, code := none }
def k6c1 : Code := { maxStack := 2, maxLocals := 2, code := jdk_68_method_2_code, exceptionTable := #[], attributes := #[] }
def k6m1 : Method := { name := "<init>", desc := "(I)V", sig := { parameters := [.int], returnType := none }, accessFlags := 0, code := some k6c1 }
def k6c2 : Code := { maxStack := 2, maxLocals := 5, code := jdk_68_method_3_code, exceptionTable := #[], attributes := #[] }
def k6m2 : Method := { name := "<init>", desc := "(Ljava/lang/String;)V", sig := { parameters := [(.object "java/lang/String")], returnType := none }, accessFlags := 0, code := some k6c2 }
def k6c3 : Code := { maxStack := 1, maxLocals := 1, code := jdk_68_method_6_code, exceptionTable := #[], attributes := #[] }
def k6m3 : Method := { name := "length", desc := "()I", sig := { parameters := [], returnType := some .int }, accessFlags := 1, code := some k6c3 }
def k6c4 : Code := { maxStack := 4, maxLocals := 3, code := jdk_68_method_9_code, exceptionTable := #[], attributes := #[] }
def k6m4 : Method := { name := "ensureCapacityInternal", desc := "(I)V", sig := { parameters := [.int], returnType := none }, accessFlags := 2, code := some k6c4 }
def k6c5 : Code := { maxStack := 5, maxLocals := 6, code := jdk_68_method_10_code, exceptionTable := #[], attributes := #[] }
def k6m5 : Method := { name := "newCapacity", desc := "(I)I", sig := { parameters := [.int], returnType := some .int }, accessFlags := 2, code := some k6c5 }
def k6c6 : Code := { maxStack := 3, maxLocals := 3, code := jdk_68_method_22_code, exceptionTable := #[], attributes := #[] }
def k6m6 : Method := { name := "append", desc := "(Ljava/lang/String;)Ljava/lang/AbstractStringBuilder;", sig := { parameters := [(.object "java/lang/String")], returnType := some (.object "java/lang/AbstractStringBuilder") }, accessFlags := 1, code := some k6c6 }
def k6c7 : Code := { maxStack := 4, maxLocals := 3, code := jdk_68_method_24_code, exceptionTable := #[], attributes := #[] }
def k6m7 : Method := { name := "append", desc := "(Ljava/lang/AbstractStringBuilder;)Ljava/lang/AbstractStringBuilder;", sig := { parameters := [(.object "java/lang/AbstractStringBuilder")], returnType := some (.object "java/lang/AbstractStringBuilder") }, accessFlags := 0, code := some k6c7 }
def k6c8 : Code := { maxStack := 4, maxLocals := 2, code := jdk_68_method_25_code, exceptionTable := #[], attributes := #[] }
def k6m8 : Method := { name := "append", desc := "(Ljava/lang/CharSequence;)Ljava/lang/AbstractStringBuilder;", sig := { parameters := [(.object "java/lang/CharSequence")], returnType := some (.object "java/lang/AbstractStringBuilder") }, accessFlags := 1, code := some k6c8 }
def k6c9 : Code := { maxStack := 5, maxLocals := 2, code := jdk_68_method_31_code, exceptionTable := #[], attributes := #[] }
def k6m9 : Method := { name := "append", desc := "(C)Ljava/lang/AbstractStringBuilder;", sig := { parameters := [.char], returnType := some (.object "java/lang/AbstractStringBuilder") }, accessFlags := 1, code := some k6c9 }
def k6c10 : Code := { maxStack := 1, maxLocals := 1, code := jdk_68_method_64_code, exceptionTable := #[], attributes := #[] }
def k6m10 : Method := { name := "getValue", desc := "()[B", sig := { parameters := [], returnType := some (.array .byte) }, accessFlags := 16, code := some k6c10 }
def k6c11 : Code := { maxStack := 6, maxLocals := 4, code := jdk_68_method_65_code, exceptionTable := #[], attributes := #[] }
def k6m11 : Method := { name := "getBytes", desc := "([BIB)V", sig := { parameters := [(.array .byte), .int, .byte], returnType := none }, accessFlags := 0, code := some k6c11 }
def k6c12 : Code := { maxStack := 1, maxLocals := 1, code := jdk_68_method_67_code, exceptionTable := #[], attributes := #[] }
def k6m12 : Method := { name := "getCoder", desc := "()B", sig := { parameters := [], returnType := some .byte }, accessFlags := 16, code := some k6c12 }
def k6c13 : Code := { maxStack := 1, maxLocals := 1, code := jdk_68_method_68_code, exceptionTable := #[], attributes := #[] }
def k6m13 : Method := { name := "isLatin1", desc := "()Z", sig := { parameters := [], returnType := some .boolean }, accessFlags := 16, code := some k6c13 }
def k6c14 : Code := { maxStack := 2, maxLocals := 2, code := jdk_68_method_71_code, exceptionTable := #[], attributes := #[] }
def k6m14 : Method := { name := "inflateIfNeededFor", desc := "(Ljava/lang/String;)V", sig := { parameters := [(.object "java/lang/String")], returnType := none }, accessFlags := 2, code := some k6c14 }
def k6c15 : Code := { maxStack := 2, maxLocals := 2, code := jdk_68_method_72_code, exceptionTable := #[], attributes := #[] }
def k6m15 : Method := { name := "inflateIfNeededFor", desc := "(Ljava/lang/AbstractStringBuilder;)V", sig := { parameters := [(.object "java/lang/AbstractStringBuilder")], returnType := none }, accessFlags := 2, code := some k6c15 }
def k6c16 : Code := { maxStack := 4, maxLocals := 3, code := jdk_68_method_73_code, exceptionTable := #[], attributes := #[] }
def k6m16 : Method := { name := "putStringAt", desc := "(ILjava/lang/String;)V", sig := { parameters := [.int, (.object "java/lang/String")], returnType := none }, accessFlags := 2, code := some k6c16 }
/-- java/lang/AbstractStringBuilder -/
def k6 : Class := { plain "java/lang/AbstractStringBuilder" (some 0) with
  accessFlags := 1056
  interfaces := #[4, 5]
  cf := some (fileOf pool6 10 #[] #[{ accessFlags := 0, nameIndex := 7, descriptorIndex := 8, attributes := #[] }, { accessFlags := 0, nameIndex := 7, descriptorIndex := 103, attributes := #[] }, { accessFlags := 0, nameIndex := 7, descriptorIndex := 69, attributes := #[] }, { accessFlags := 1, nameIndex := 34, descriptorIndex := 35, attributes := #[] }, { accessFlags := 2, nameIndex := 102, descriptorIndex := 103, attributes := #[] }, { accessFlags := 2, nameIndex := 106, descriptorIndex := 107, attributes := #[] }, { accessFlags := 1, nameIndex := 45, descriptorIndex := 46, attributes := #[] }, { accessFlags := 0, nameIndex := 45, descriptorIndex := 214, attributes := #[] }, { accessFlags := 1, nameIndex := 45, descriptorIndex := 78, attributes := #[] }, { accessFlags := 1, nameIndex := 45, descriptorIndex := 292, attributes := #[] }, { accessFlags := 16, nameIndex := 552, descriptorIndex := 403, attributes := #[] }, { accessFlags := 0, nameIndex := 221, descriptorIndex := 222, attributes := #[] }, { accessFlags := 16, nameIndex := 72, descriptorIndex := 42, attributes := #[] }, { accessFlags := 16, nameIndex := 85, descriptorIndex := 86, attributes := #[] }, { accessFlags := 2, nameIndex := 217, descriptorIndex := 69, attributes := #[] }, { accessFlags := 2, nameIndex := 217, descriptorIndex := 218, attributes := #[] }, { accessFlags := 2, nameIndex := 210, descriptorIndex := 211, attributes := #[] }] 1056 4 #[444, 48] #[{ accessFlags := 0, nameIndex := 17, descriptorIndex := 14, attributes := #[] }, { accessFlags := 0, nameIndex := 24, descriptorIndex := 25, attributes := #[] }, { accessFlags := 0, nameIndex := 75, descriptorIndex := 21, attributes := #[] }, { accessFlags := 0, nameIndex := 81, descriptorIndex := 82, attributes := #[] }, { accessFlags := 26, nameIndex := 13, descriptorIndex := 14, attributes := #[] }])
  fields := #[{ name := "value", type := (.array .byte), accessFlags := 0, slot := 0, constantValue := 0 }, { name := "coder", type := .byte, accessFlags := 0, slot := 1, constantValue := 0 }, { name := "maybeLatin1", type := .boolean, accessFlags := 0, slot := 2, constantValue := 0 }, { name := "count", type := .int, accessFlags := 0, slot := 3, constantValue := 0 }, { name := "EMPTYVALUE", type := (.array .byte), accessFlags := 26, slot := 0, constantValue := 0 }]
  methods := #[k6m0, k6m1, k6m2, k6m3, k6m4, k6m5, k6m6, k6m7, k6m8, k6m9, k6m10, k6m11, k6m12, k6m13, k6m14, k6m15, k6m16]
  instanceTypes := #[(.array .byte), .byte, .boolean, .int]
  staticTypes := #[(.array .byte)]
  resolved := Array.replicate 609 none
  statics := none }

def pool7 : Array CpInfo := pool [(1, .class_ 2), (0, u "java/io/Serializable"), (0, .class_ 4), (0, u "java/lang/Object")] 2

/-- java/io/Serializable -/
def k7 : Class := { plain "java/io/Serializable" (some 0) with
  accessFlags := 1537
  interfaces := #[]
  cf := some (fileOf pool7 1 #[] #[] 1537 3 #[] #[])
  fields := #[]
  methods := #[]
  instanceTypes := #[]
  staticTypes := #[]
  resolved := Array.replicate 7 none
  statics := none }

def pool8 : Array CpInfo := pool [(1, .class_ 2), (0, u "java/lang/Comparable"), (0, .class_ 4), (0, u "java/lang/Object")] 7

/-- java/lang/Comparable -/
def k8 : Class := { plain "java/lang/Comparable" (some 0) with
  accessFlags := 1537
  interfaces := #[]
  cf := some (fileOf pool8 1 #[] #[] 1537 3 #[] #[])
  fields := #[]
  methods := #[]
  instanceTypes := #[]
  staticTypes := #[]
  resolved := Array.replicate 12 none
  statics := none }

def pool9 : Array CpInfo := pool [(1, .methodref 2 3), (0, .class_ 4), (0, .nameAndType 5 6), (0, u "java/lang/AbstractStringBuilder"), (0, u "<init>"), (0, u "(I)V"), (0, .methodref 2 8), (0, .nameAndType 5 9), (0, u "(Ljava/lang/String;)V"), (8, .class_ 20), (1, u "java/lang/String"), (2, .methodref 24 25), (0, .class_ 26), (0, .nameAndType 27 28), (0, u "java/lang/StringBuilder"), (0, u "append"), (0, u "(Ljava/lang/String;)Ljava/lang/StringBuilder;"), (0, .methodref 2 30), (0, .nameAndType 27 31), (0, u "(Ljava/lang/String;)Ljava/lang/AbstractStringBuilder;"), (3, .methodref 2 36), (0, .nameAndType 27 37), (0, u "(Ljava/lang/CharSequence;)Ljava/lang/AbstractStringBuilder;"), (12, .methodref 2 51), (0, .nameAndType 27 52), (0, u "(C)Ljava/lang/AbstractStringBuilder;"), (84, .methodref 18 138), (0, .nameAndType 5 139), (0, u "(Ljava/lang/StringBuilder;)V"), (5, u "()V"), (10, u "()I"), (129, u "(C)Ljava/lang/StringBuilder;"), (14, u "(Ljava/lang/CharSequence;)Ljava/lang/StringBuilder;"), (41, .methodref 2 344), (0, .nameAndType 345 156), (0, u "length"), (3, .class_ 350), (0, u "java/lang/Appendable"), (0, .class_ 352), (0, u "java/io/Serializable"), (0, .class_ 354), (0, u "java/lang/Comparable"), (0, .class_ 356), (0, u "java/lang/CharSequence"), (0, u "serialVersionUID"), (0, u "J"), (40, u "toString"), (0, u "()Ljava/lang/String;")] 21

def k9m0 : Method := { name := "<init>", desc := "()V", sig := { parameters := [], returnType := none }, accessFlags := 1, code := none }
def k9c1 : Code := { maxStack := 2, maxLocals := 2, code := jdk_67_method_2_code, exceptionTable := #[], attributes := #[] }
def k9m1 : Method := { name := "<init>", desc := "(I)V", sig := { parameters := [.int], returnType := none }, accessFlags := 1, code := some k9c1 }
def k9c2 : Code := { maxStack := 2, maxLocals := 2, code := jdk_67_method_3_code, exceptionTable := #[], attributes := #[] }
def k9m2 : Method := { name := "<init>", desc := "(Ljava/lang/String;)V", sig := { parameters := [(.object "java/lang/String")], returnType := none }, accessFlags := 1, code := some k9c2 }
def k9c3 : Code := { maxStack := 2, maxLocals := 2, code := jdk_67_method_7_code, exceptionTable := #[], attributes := #[] }
def k9m3 : Method := { name := "append", desc := "(Ljava/lang/String;)Ljava/lang/StringBuilder;", sig := { parameters := [(.object "java/lang/String")], returnType := some (.object "java/lang/StringBuilder") }, accessFlags := 1, code := some k9c3 }
def k9c4 : Code := { maxStack := 2, maxLocals := 2, code := jdk_67_method_9_code, exceptionTable := #[], attributes := #[] }
def k9m4 : Method := { name := "append", desc := "(Ljava/lang/CharSequence;)Ljava/lang/StringBuilder;", sig := { parameters := [(.object "java/lang/CharSequence")], returnType := some (.object "java/lang/StringBuilder") }, accessFlags := 1, code := some k9c4 }
def k9c5 : Code := { maxStack := 2, maxLocals := 2, code := jdk_67_method_14_code, exceptionTable := #[], attributes := #[] }
def k9m5 : Method := { name := "append", desc := "(C)Ljava/lang/StringBuilder;", sig := { parameters := [.char], returnType := some (.object "java/lang/StringBuilder") }, accessFlags := 1, code := some k9c5 }
def k9c6 : Code := { maxStack := 3, maxLocals := 1, code := jdk_67_method_42_code, exceptionTable := #[], attributes := #[] }
def k9m6 : Method := { name := "toString", desc := "()Ljava/lang/String;", sig := { parameters := [], returnType := some (.object "java/lang/String") }, accessFlags := 1, code := some k9c6 }
def k9c7 : Code := { maxStack := 2, maxLocals := 2, code := jdk_67_method_80_code, exceptionTable := #[], attributes := #[] }
def k9m7 : Method := { name := "append", desc := "(Ljava/lang/String;)Ljava/lang/AbstractStringBuilder;", sig := { parameters := [(.object "java/lang/String")], returnType := some (.object "java/lang/AbstractStringBuilder") }, accessFlags := 4161, code := some k9c7 }
def k9c8 : Code := { maxStack := 1, maxLocals := 1, code := jdk_67_method_93_code, exceptionTable := #[], attributes := #[] }
def k9m8 : Method := { name := "length", desc := "()I", sig := { parameters := [], returnType := some .int }, accessFlags := 4161, code := some k9c8 }
/-- java/lang/StringBuilder -/
def k9 : Class := { plain "java/lang/StringBuilder" (some 6) with
  accessFlags := 49
  interfaces := #[4, 7, 8, 5]
  cf := some (fileOf pool9 24 #[] #[{ accessFlags := 1, nameIndex := 5, descriptorIndex := 145, attributes := #[] }, { accessFlags := 1, nameIndex := 5, descriptorIndex := 6, attributes := #[] }, { accessFlags := 1, nameIndex := 5, descriptorIndex := 9, attributes := #[] }, { accessFlags := 1, nameIndex := 27, descriptorIndex := 28, attributes := #[] }, { accessFlags := 1, nameIndex := 27, descriptorIndex := 301, attributes := #[] }, { accessFlags := 1, nameIndex := 27, descriptorIndex := 286, attributes := #[] }, { accessFlags := 1, nameIndex := 399, descriptorIndex := 400, attributes := #[] }, { accessFlags := 4161, nameIndex := 27, descriptorIndex := 31, attributes := #[] }, { accessFlags := 4161, nameIndex := 345, descriptorIndex := 156, attributes := #[] }] 49 2 #[349, 351, 353, 355] #[{ accessFlags := 24, nameIndex := 357, descriptorIndex := 358, attributes := #[] }])
  fields := #[{ name := "serialVersionUID", type := .long, accessFlags := 24, slot := 0, constantValue := 0 }]
  methods := #[k9m0, k9m1, k9m2, k9m3, k9m4, k9m5, k9m6, k9m7, k9m8]
  instanceTypes := #[(.array .byte), .byte, .boolean, .int]
  staticTypes := #[.long]
  resolved := Array.replicate 422 none
  statics := none }

def pool10 : Array CpInfo := pool [(1, .class_ 2), (0, u "java/lang/constant/Constable"), (0, .class_ 4), (0, u "java/lang/Object")] 6

/-- java/lang/constant/Constable -/
def k10 : Class := { plain "java/lang/constant/Constable" (some 0) with
  accessFlags := 1537
  interfaces := #[]
  cf := some (fileOf pool10 1 #[] #[] 1537 3 #[] #[])
  fields := #[]
  methods := #[]
  instanceTypes := #[]
  staticTypes := #[]
  resolved := Array.replicate 11 none
  statics := none }

def pool11 : Array CpInfo := pool [(1, .class_ 2), (0, u "java/lang/constant/ConstantDesc"), (0, .class_ 4), (0, u "java/lang/Object")] 32

/-- java/lang/constant/ConstantDesc -/
def k11 : Class := { plain "java/lang/constant/ConstantDesc" (some 0) with
  accessFlags := 1537
  interfaces := #[]
  cf := some (fileOf pool11 1 #[] #[] 1537 3 #[] #[])
  fields := #[]
  methods := #[]
  instanceTypes := #[]
  staticTypes := #[]
  resolved := Array.replicate 37 none
  statics := none }

def pool12 : Array CpInfo := pool [(1, .methodref 2 3), (0, .class_ 4), (0, .nameAndType 5 6), (0, u "java/lang/Object"), (0, u "<init>"), (0, u "()V"), (2, .fieldref 10 11), (0, .class_ 12), (0, .nameAndType 13 14), (0, u "java/lang/String"), (0, u "value"), (0, u "[B"), (0, .fieldref 10 16), (0, .nameAndType 17 18), (0, u "coder"), (0, u "B"), (2, u "hash"), (0, u "I"), (2, u "hashIsZero"), (0, u "Z"), (11, .fieldref 10 39), (0, .nameAndType 40 26), (0, u "COMPACT_STRINGS"), (13, .methodref 55 56), (0, .class_ 57), (0, .nameAndType 58 59), (0, u "java/util/Arrays"), (0, u "copyOfRange"), (0, u "([BII)[B"), (47, .class_ 109), (1, u "java/lang/StringLatin1"), (32, u "()Z"), (50, .class_ 195), (1, u "java/lang/System"), (16, .methodref 193 213), (0, .nameAndType 214 215), (0, u "arraycopy"), (0, u "(Ljava/lang/Object;ILjava/lang/Object;II)V"), (118, u "()I"), (0, .methodref 10 336), (0, .nameAndType 17 337), (0, u "()B"), (2, u "()[B"), (22, u "([BI)C"), (27, u "(II)V"), (35, u "(I)C"), (61, .methodref 10 490), (0, .nameAndType 5 491), (0, u "(Ljava/lang/AbstractStringBuilder;Ljava/lang/Void;)V"), (0, .methodref 10 493), (0, .nameAndType 494 142), (0, u "isLatin1"), (0, .methodref 107 496), (0, .nameAndType 497 363), (0, u "charAt"), (3, u "checkIndex"), (4, .nameAndType 507 334), (0, u "length"), (24, u "getBytes"), (16, .methodref 550 506), (0, .class_ 551), (0, u "java/lang/AbstractStringBuilder"), (0, .methodref 550 553), (0, .nameAndType 554 340), (0, u "getValue"), (20, .class_ 576), (0, u "java/lang/CharSequence"), (22, u "CASE_INSENSITIVE_ORDER"), (0, u "Ljava/util/Comparator;"), (91, u "isEmpty"), (128, u "([BIB)V"), (225, .methodref 550 493), (5, .fieldref 1054 1055), (0, .class_ 1056), (0, .nameAndType 1057 1058), (0, u "jdk/internal/util/Preconditions"), (0, u "SIOOBE_FORMATTER"), (0, u "Ljava/util/function/BiFunction;"), (0, .methodref 1054 1060), (0, .nameAndType 501 1061), (0, u "(IILjava/util/function/BiFunction;)I"), (39, u "serialPersistentFields"), (0, u "[Ljava/io/ObjectStreamField;"), (0, .class_ 1104), (0, u "java/lang/String$CaseInsensitiveComparator"), (1, .class_ 1107), (0, u "java/io/Serializable"), (0, .class_ 1109), (0, u "java/lang/Comparable"), (0, .class_ 1111), (0, u "java/lang/constant/Constable"), (0, .class_ 1113), (0, u "java/lang/constant/ConstantDesc"), (2, u "serialVersionUID"), (0, u "J"), (3, u "REPL"), (0, u "C"), (2, u "LATIN1"), (1, u "UTF16"), (105, u "(Ljava/lang/StringBuilder;)V")] 217

def k12m0 : Method := { name := "<init>", desc := "()V", sig := { parameters := [], returnType := none }, accessFlags := 1, code := none }
def k12c1 : Code := { maxStack := 3, maxLocals := 2, code := jdk_42_method_53_code, exceptionTable := #[], attributes := #[] }
def k12m1 : Method := { name := "<init>", desc := "(Ljava/lang/StringBuilder;)V", sig := { parameters := [(.object "java/lang/StringBuilder")], returnType := none }, accessFlags := 1, code := some k12c1 }
def k12c2 : Code := { maxStack := 2, maxLocals := 1, code := jdk_42_method_54_code, exceptionTable := #[], attributes := #[] }
def k12m2 : Method := { name := "length", desc := "()I", sig := { parameters := [], returnType := some .int }, accessFlags := 1, code := some k12c2 }
def k12c3 : Code := { maxStack := 1, maxLocals := 1, code := jdk_42_method_55_code, exceptionTable := #[], attributes := #[] }
def k12m3 : Method := { name := "isEmpty", desc := "()Z", sig := { parameters := [], returnType := some .boolean }, accessFlags := 1, code := some k12c3 }
def k12c4 : Code := { maxStack := 2, maxLocals := 2, code := jdk_42_method_56_code, exceptionTable := #[], attributes := #[] }
def k12m4 : Method := { name := "charAt", desc := "(I)C", sig := { parameters := [.int], returnType := some .char }, accessFlags := 1, code := some k12c4 }
def k12c5 : Code := { maxStack := 5, maxLocals := 4, code := jdk_42_method_147_code, exceptionTable := #[], attributes := #[] }
def k12m5 : Method := { name := "getBytes", desc := "([BIB)V", sig := { parameters := [(.array .byte), .int, .byte], returnType := none }, accessFlags := 0, code := some k12c5 }
def k12c6 : Code := { maxStack := 5, maxLocals := 5, code := jdk_42_method_150_code, exceptionTable := #[], attributes := #[] }
def k12m6 : Method := { name := "<init>", desc := "(Ljava/lang/AbstractStringBuilder;Ljava/lang/Void;)V", sig := { parameters := [(.object "java/lang/AbstractStringBuilder"), (.object "java/lang/Void")], returnType := none }, accessFlags := 0, code := some k12c6 }
def k12c7 : Code := { maxStack := 1, maxLocals := 1, code := jdk_42_method_152_code, exceptionTable := #[], attributes := #[] }
def k12m7 : Method := { name := "coder", desc := "()B", sig := { parameters := [], returnType := some .byte }, accessFlags := 0, code := some k12c7 }
def k12c8 : Code := { maxStack := 1, maxLocals := 1, code := jdk_42_method_154_code, exceptionTable := #[], attributes := #[] }
def k12m8 : Method := { name := "isLatin1", desc := "()Z", sig := { parameters := [], returnType := some .boolean }, accessFlags := 0, code := some k12c8 }
def k12c9 : Code := { maxStack := 3, maxLocals := 2, code := jdk_42_method_155_code, exceptionTable := #[], attributes := #[] }
def k12m9 : Method := { name := "checkIndex", desc := "(II)V", sig := { parameters := [.int, .int], returnType := none }, accessFlags := 8, code := some k12c9 }
/-- java/lang/String -/
def k12 : Class := { plain "java/lang/String" (some 0) with
  accessFlags := 49
  interfaces := #[7, 8, 5, 10, 11]
  cf := some (fileOf pool12 10 #[.nestMembers #[1103]] #[{ accessFlags := 1, nameIndex := 5, descriptorIndex := 6, attributes := #[] }, { accessFlags := 1, nameIndex := 5, descriptorIndex := 1233, attributes := #[] }, { accessFlags := 1, nameIndex := 507, descriptorIndex := 334, attributes := #[] }, { accessFlags := 1, nameIndex := 692, descriptorIndex := 142, attributes := #[] }, { accessFlags := 1, nameIndex := 497, descriptorIndex := 427, attributes := #[] }, { accessFlags := 0, nameIndex := 532, descriptorIndex := 821, attributes := #[] }, { accessFlags := 0, nameIndex := 5, descriptorIndex := 491, attributes := #[] }, { accessFlags := 0, nameIndex := 17, descriptorIndex := 337, attributes := #[] }, { accessFlags := 0, nameIndex := 494, descriptorIndex := 142, attributes := #[] }, { accessFlags := 8, nameIndex := 501, descriptorIndex := 391, attributes := #[] }] 49 2 #[1106, 1108, 575, 1110, 1112] #[{ accessFlags := 18, nameIndex := 13, descriptorIndex := 14, attributes := #[] }, { accessFlags := 18, nameIndex := 17, descriptorIndex := 18, attributes := #[] }, { accessFlags := 2, nameIndex := 21, descriptorIndex := 22, attributes := #[] }, { accessFlags := 2, nameIndex := 25, descriptorIndex := 26, attributes := #[] }, { accessFlags := 26, nameIndex := 1116, descriptorIndex := 1117, attributes := #[] }, { accessFlags := 24, nameIndex := 40, descriptorIndex := 26, attributes := #[] }, { accessFlags := 26, nameIndex := 1101, descriptorIndex := 1102, attributes := #[] }, { accessFlags := 26, nameIndex := 1121, descriptorIndex := 1122, attributes := #[] }, { accessFlags := 25, nameIndex := 599, descriptorIndex := 600, attributes := #[] }, { accessFlags := 24, nameIndex := 1125, descriptorIndex := 18, attributes := #[] }, { accessFlags := 24, nameIndex := 1127, descriptorIndex := 18, attributes := #[] }])
  fields := #[{ name := "value", type := (.array .byte), accessFlags := 18, slot := 0, constantValue := 0 }, { name := "coder", type := .byte, accessFlags := 18, slot := 1, constantValue := 0 }, { name := "hash", type := .int, accessFlags := 2, slot := 2, constantValue := 0 }, { name := "hashIsZero", type := .boolean, accessFlags := 2, slot := 3, constantValue := 0 }, { name := "serialVersionUID", type := .long, accessFlags := 26, slot := 0, constantValue := 0 }, { name := "COMPACT_STRINGS", type := .boolean, accessFlags := 24, slot := 1, constantValue := 0 }, { name := "serialPersistentFields", type := (.array (.object "java/io/ObjectStreamField")), accessFlags := 26, slot := 2, constantValue := 0 }, { name := "REPL", type := .char, accessFlags := 26, slot := 3, constantValue := 0 }, { name := "CASE_INSENSITIVE_ORDER", type := (.object "java/util/Comparator"), accessFlags := 25, slot := 4, constantValue := 0 }, { name := "LATIN1", type := .byte, accessFlags := 24, slot := 5, constantValue := 0 }, { name := "UTF16", type := .byte, accessFlags := 24, slot := 6, constantValue := 0 }]
  methods := #[k12m0, k12m1, k12m2, k12m3, k12m4, k12m5, k12m6, k12m7, k12m8, k12m9]
  instanceTypes := #[(.array .byte), .byte, .int, .boolean]
  staticTypes := #[.long, .boolean, (.array (.object "java/io/ObjectStreamField")), .char, (.object "java/util/Comparator"), .byte, .byte]
  resolved := Array.replicate 1451 none
  statics := some 0 }

def pool13 : Array CpInfo := pool [(2, .class_ 4), (1, u "java/lang/Object"), (0, u "<init>"), (0, u "()V"), (1, .class_ 10), (1, u "java/lang/System"), (0, u "allowSecurityManager"), (0, u "I"), (16, u "cons"), (0, u "Ljava/io/Console;"), (77, .class_ 110), (1, u "java/lang/System$CallersHolder"), (43, u "initialErrStream"), (0, u "Ljava/io/PrintStream;"), (19, u "security"), (0, u "Ljava/lang/SecurityManager;"), (31, .class_ 209), (0, u "java/lang/System$1"), (7, u "props"), (0, u "Ljava/util/Properties;"), (2, u "lineSeparator"), (0, u "Ljava/lang/String;"), (96, .class_ 321), (1, u "java/lang/System$LoggerFinder"), (5, .class_ 328), (0, u "java/lang/System$Logger"), (67, u "err"), (2, u "out"), (91, u "notSupportedJnuEncoding"), (15, u "in"), (17, u "initialIn"), (0, u "Ljava/io/InputStream;"), (35, u "bootLayer"), (0, u "Ljava/lang/ModuleLayer;"), (99, .class_ 664), (0, u "java/lang/System$2"), (9, u "NEVER"), (2, u "MAYBE"), (49, u "arraycopy"), (0, u "(Ljava/lang/Object;ILjava/lang/Object;II)V"), (72, .class_ 802), (0, u "java/lang/System$Logger$Level")] 31

def k13m0 : Method := { name := "<init>", desc := "()V", sig := { parameters := [], returnType := none }, accessFlags := 2, code := none }
def k13m1 : Method := { name := "arraycopy", desc := "(Ljava/lang/Object;ILjava/lang/Object;II)V", sig := { parameters := [(.object "java/lang/Object"), .int, (.object "java/lang/Object"), .int, .int], returnType := none }, accessFlags := 265, code := none }
/-- java/lang/System -/
def k13 : Class := { plain "java/lang/System" (some 0) with
  accessFlags := 49
  interfaces := #[]
  cf := some (fileOf pool13 8 #[.nestMembers #[319, 327, 801, 108, 663, 208]] #[{ accessFlags := 2, nameIndex := 5, descriptorIndex := 6, attributes := #[] }, { accessFlags := 265, nameIndex := 727, descriptorIndex := 728, attributes := #[] }] 49 2 #[] #[{ accessFlags := 25, nameIndex := 507, descriptorIndex := 526, attributes := #[] }, { accessFlags := 25, nameIndex := 399, descriptorIndex := 155, attributes := #[] }, { accessFlags := 25, nameIndex := 396, descriptorIndex := 155, attributes := #[] }, { accessFlags := 10, nameIndex := 525, descriptorIndex := 526, attributes := #[] }, { accessFlags := 26, nameIndex := 674, descriptorIndex := 12, attributes := #[] }, { accessFlags := 26, nameIndex := 677, descriptorIndex := 12, attributes := #[] }, { accessFlags := 10, nameIndex := 11, descriptorIndex := 12, attributes := #[] }, { accessFlags := 74, nameIndex := 175, descriptorIndex := 176, attributes := #[] }, { accessFlags := 10, nameIndex := 491, descriptorIndex := 222, attributes := #[] }, { accessFlags := 74, nameIndex := 29, descriptorIndex := 30, attributes := #[] }, { accessFlags := 74, nameIndex := 154, descriptorIndex := 155, attributes := #[] }, { accessFlags := 10, nameIndex := 217, descriptorIndex := 218, attributes := #[] }, { accessFlags := 10, nameIndex := 221, descriptorIndex := 222, attributes := #[] }, { accessFlags := 8, nameIndex := 562, descriptorIndex := 563, attributes := #[] }])
  fields := #[{ name := "in", type := (.object "java/io/InputStream"), accessFlags := 25, slot := 0, constantValue := 0 }, { name := "out", type := (.object "java/io/PrintStream"), accessFlags := 25, slot := 1, constantValue := 0 }, { name := "err", type := (.object "java/io/PrintStream"), accessFlags := 25, slot := 2, constantValue := 0 }, { name := "initialIn", type := (.object "java/io/InputStream"), accessFlags := 10, slot := 3, constantValue := 0 }, { name := "NEVER", type := .int, accessFlags := 26, slot := 4, constantValue := 0 }, { name := "MAYBE", type := .int, accessFlags := 26, slot := 5, constantValue := 0 }, { name := "allowSecurityManager", type := .int, accessFlags := 10, slot := 6, constantValue := 0 }, { name := "security", type := (.object "java/lang/SecurityManager"), accessFlags := 74, slot := 7, constantValue := 0 }, { name := "notSupportedJnuEncoding", type := (.object "java/lang/String"), accessFlags := 10, slot := 8, constantValue := 0 }, { name := "cons", type := (.object "java/io/Console"), accessFlags := 74, slot := 9, constantValue := 0 }, { name := "initialErrStream", type := (.object "java/io/PrintStream"), accessFlags := 74, slot := 10, constantValue := 0 }, { name := "props", type := (.object "java/util/Properties"), accessFlags := 10, slot := 11, constantValue := 0 }, { name := "lineSeparator", type := (.object "java/lang/String"), accessFlags := 10, slot := 12, constantValue := 0 }, { name := "bootLayer", type := (.object "java/lang/ModuleLayer"), accessFlags := 8, slot := 13, constantValue := 0 }]
  methods := #[k13m0, k13m1]
  instanceTypes := #[]
  staticTypes := #[(.object "java/io/InputStream"), (.object "java/io/PrintStream"), (.object "java/io/PrintStream"), (.object "java/io/InputStream"), .int, .int, .int, (.object "java/lang/SecurityManager"), (.object "java/lang/String"), (.object "java/io/Console"), (.object "java/io/PrintStream"), (.object "java/util/Properties"), (.object "java/lang/String"), (.object "java/lang/ModuleLayer")]
  resolved := Array.replicate 834 none
  statics := none }

def pool14 : Array CpInfo := pool [(1, .class_ 2), (0, u "java/lang/String"), (1, .class_ 6), (1, u "java/lang/Object"), (0, u "<init>"), (0, u "()V"), (0, .methodref 1 10), (0, .nameAndType 11 12), (0, u "checkIndex"), (0, u "(II)V"), (1, .class_ 16), (1, u "java/lang/StringLatin1"), (36, u "([BI)C"), (36, u "canEncode"), (14, u "(C)Z"), (15, u "$assertionsDisabled"), (0, u "Z"), (98, .class_ 223), (1, u "java/lang/StringLatin1$LinesSpliterator"), (28, u "charAt"), (137, .class_ 391), (0, u "java/lang/StringLatin1$CharsSpliterator")] 3

def k14m0 : Method := { name := "<init>", desc := "()V", sig := { parameters := [], returnType := none }, accessFlags := 0, code := none }
def k14c1 : Code := { maxStack := 2, maxLocals := 2, code := jdk_43_method_2_code, exceptionTable := #[], attributes := #[] }
def k14m1 : Method := { name := "charAt", desc := "([BI)C", sig := { parameters := [(.array .byte), .int], returnType := some .char }, accessFlags := 9, code := some k14c1 }
def k14c2 : Code := { maxStack := 2, maxLocals := 1, code := jdk_43_method_3_code, exceptionTable := #[], attributes := #[] }
def k14m2 : Method := { name := "canEncode", desc := "(C)Z", sig := { parameters := [.char], returnType := some .boolean }, accessFlags := 9, code := some k14c2 }
/-- java/lang/StringLatin1 -/
def k14 : Class := { plain "java/lang/StringLatin1" (some 0) with
  accessFlags := 48
  interfaces := #[]
  cf := some (fileOf pool14 14 #[.nestMembers #[390, 221]] #[{ accessFlags := 0, nameIndex := 7, descriptorIndex := 8, attributes := #[] }, { accessFlags := 9, nameIndex := 252, descriptorIndex := 53, attributes := #[] }, { accessFlags := 9, nameIndex := 90, descriptorIndex := 105, attributes := #[] }] 48 4 #[] #[{ accessFlags := 4120, nameIndex := 121, descriptorIndex := 122, attributes := #[] }])
  fields := #[{ name := "$assertionsDisabled", type := .boolean, accessFlags := 4120, slot := 0, constantValue := 0 }]
  methods := #[k14m0, k14m1, k14m2]
  instanceTypes := #[]
  staticTypes := #[.boolean]
  resolved := Array.replicate 395 none
  statics := none }

def pool15 : Array CpInfo := pool [(2, .class_ 4), (1, u "java/lang/Object"), (0, u "<init>"), (0, u "()V"), (7, .class_ 16), (1, u "java/util/Arrays"), (57, .class_ 76), (1, u "java/util/Arrays$NaturalOrder"), (32, u "()Ljava/lang/Object;"), (3, .class_ 115), (1, u "java/util/Arrays$LegacyMergeSort"), (1, u "Z"), (10, .nameAndType 129 109), (0, u "clone"), (9, u "copyOfRange"), (10, .methodref 151 152), (0, .class_ 153), (0, .nameAndType 154 155), (0, u "java/lang/System"), (0, u "arraycopy"), (0, u "(Ljava/lang/Object;ILjava/lang/Object;II)V"), (146, u "copyOf"), (1, .methodref 305 306), (0, .class_ 307), (0, .nameAndType 308 309), (0, u "java/lang/Math"), (0, u "min"), (0, u "(II)I"), (0, .methodref 311 128), (0, .class_ 312), (0, u "[B"), (26, .methodref 14 340), (0, .nameAndType 341 342), (0, u "copyOfRangeByte"), (0, u "([BII)[B"), (0, .methodref 14 344), (0, .nameAndType 345 346), (0, u "checkLength"), (0, u "(II)V"), (28, .class_ 376), (0, u "java/util/Arrays$ArrayList"), (68, u "$assertionsDisabled"), (269, u "MIN_ARRAY_SORT_GRAN"), (0, u "I"), (2, u "INSERTIONSORT_THRESHOLD"), (149, u "([BI)[B"), (105, .class_ 976), (0, u "java/util/Arrays$ArrayItr")] 52

def k15m0 : Method := { name := "<init>", desc := "()V", sig := { parameters := [], returnType := none }, accessFlags := 2, code := none }
def k15c1 : Code := { maxStack := 6, maxLocals := 3, code := jdk_65_method_121_code, exceptionTable := #[], attributes := #[] }
def k15m1 : Method := { name := "copyOf", desc := "([BI)[B", sig := { parameters := [(.array .byte), .int], returnType := some (.array .byte) }, accessFlags := 9, code := some k15c1 }
def k15c2 : Code := { maxStack := 4, maxLocals := 2, code := jdk_65_method_131_code, exceptionTable := #[], attributes := #[] }
def k15m2 : Method := { name := "checkLength", desc := "(II)V", sig := { parameters := [.int, .int], returnType := none }, accessFlags := 10, code := some k15c2 }
def k15c3 : Code := { maxStack := 3, maxLocals := 3, code := jdk_65_method_132_code, exceptionTable := #[], attributes := #[] }
def k15m3 : Method := { name := "copyOfRange", desc := "([BII)[B", sig := { parameters := [(.array .byte), .int, .int], returnType := some (.array .byte) }, accessFlags := 9, code := some k15c3 }
def k15c4 : Code := { maxStack := 6, maxLocals := 5, code := jdk_65_method_133_code, exceptionTable := #[], attributes := #[] }
def k15m4 : Method := { name := "copyOfRangeByte", desc := "([BII)[B", sig := { parameters := [(.array .byte), .int, .int], returnType := some (.array .byte) }, accessFlags := 10, code := some k15c4 }
/-- java/util/Arrays -/
def k15 : Class := { plain "java/util/Arrays" (some 0) with
  accessFlags := 49
  interfaces := #[]
  cf := some (fileOf pool15 14 #[.nestMembers #[975, 375, 113, 74]] #[{ accessFlags := 2, nameIndex := 5, descriptorIndex := 6, attributes := #[] }, { accessFlags := 9, nameIndex := 302, descriptorIndex := 869, attributes := #[] }, { accessFlags := 10, nameIndex := 345, descriptorIndex := 346, attributes := #[] }, { accessFlags := 9, nameIndex := 139, descriptorIndex := 342, attributes := #[] }, { accessFlags := 10, nameIndex := 341, descriptorIndex := 342, attributes := #[] }] 49 2 #[] #[{ accessFlags := 26, nameIndex := 715, descriptorIndex := 716, attributes := #[] }, { accessFlags := 26, nameIndex := 719, descriptorIndex := 716, attributes := #[] }, { accessFlags := 4120, nameIndex := 445, descriptorIndex := 117, attributes := #[] }])
  fields := #[{ name := "MIN_ARRAY_SORT_GRAN", type := .int, accessFlags := 26, slot := 0, constantValue := 0 }, { name := "INSERTIONSORT_THRESHOLD", type := .int, accessFlags := 26, slot := 1, constantValue := 0 }, { name := "$assertionsDisabled", type := .boolean, accessFlags := 4120, slot := 2, constantValue := 0 }]
  methods := #[k15m0, k15m1, k15m2, k15m3, k15m4]
  instanceTypes := #[]
  staticTypes := #[.int, .int, .boolean]
  resolved := Array.replicate 1029 none
  statics := none }

def pool16 : Array CpInfo := pool [(1, .class_ 2), (0, u "java/lang/Cloneable"), (0, .class_ 4), (0, u "java/lang/Object")] 2

/-- java/lang/Cloneable -/
def k16 : Class := { plain "java/lang/Cloneable" (some 0) with
  accessFlags := 1537
  interfaces := #[]
  cf := some (fileOf pool16 1 #[] #[] 1537 3 #[] #[])
  fields := #[]
  methods := #[]
  instanceTypes := #[]
  staticTypes := #[]
  resolved := Array.replicate 7 none
  statics := none }

def pool17 : Array CpInfo := pool [(1, .class_ 2), (0, u "java/lang/Math"), (1, .class_ 6), (1, u "java/lang/Object"), (0, u "<init>"), (0, u "()V"), (89, .class_ 100), (1, u "java/lang/Math$RandomNumberGeneratorHolder"), (71, u "negativeZeroFloatBits"), (0, u "J"), (2, u "negativeZeroDoubleBits"), (21, u "max"), (2, u "min"), (43, u "$assertionsDisabled"), (0, u "Z"), (88, u "(II)I"), (2, u "twoToTheDoubleScaleDown"), (0, u "D"), (4, u "twoToTheDoubleScaleUp"), (9, u "E"), (3, u "PI"), (2, u "TAU"), (2, u "DEGREES_TO_RADIANS"), (0, u "RADIANS_TO_DEGREES")] 94

def k17m0 : Method := { name := "<init>", desc := "()V", sig := { parameters := [], returnType := none }, accessFlags := 2, code := none }
def k17c1 : Code := { maxStack := 2, maxLocals := 2, code := jdk_29_method_65_code, exceptionTable := #[], attributes := #[] }
def k17m1 : Method := { name := "max", desc := "(II)I", sig := { parameters := [.int, .int], returnType := some .int }, accessFlags := 9, code := some k17c1 }
def k17c2 : Code := { maxStack := 2, maxLocals := 2, code := jdk_29_method_69_code, exceptionTable := #[], attributes := #[] }
def k17m2 : Method := { name := "min", desc := "(II)I", sig := { parameters := [.int, .int], returnType := some .int }, accessFlags := 9, code := some k17c2 }
/-- java/lang/Math -/
def k17 : Class := { plain "java/lang/Math" (some 0) with
  accessFlags := 49
  interfaces := #[]
  cf := some (fileOf pool17 1 #[.nestMembers #[98]] #[{ accessFlags := 2, nameIndex := 7, descriptorIndex := 8, attributes := #[] }, { accessFlags := 9, nameIndex := 198, descriptorIndex := 335, attributes := #[] }, { accessFlags := 9, nameIndex := 201, descriptorIndex := 335, attributes := #[] }] 49 4 #[] #[{ accessFlags := 25, nameIndex := 354, descriptorIndex := 339, attributes := #[] }, { accessFlags := 25, nameIndex := 358, descriptorIndex := 339, attributes := #[] }, { accessFlags := 25, nameIndex := 361, descriptorIndex := 339, attributes := #[] }, { accessFlags := 26, nameIndex := 364, descriptorIndex := 339, attributes := #[] }, { accessFlags := 26, nameIndex := 365, descriptorIndex := 339, attributes := #[] }, { accessFlags := 26, nameIndex := 172, descriptorIndex := 173, attributes := #[] }, { accessFlags := 26, nameIndex := 176, descriptorIndex := 173, attributes := #[] }, { accessFlags := 8, nameIndex := 344, descriptorIndex := 339, attributes := #[] }, { accessFlags := 8, nameIndex := 338, descriptorIndex := 339, attributes := #[] }, { accessFlags := 4120, nameIndex := 245, descriptorIndex := 246, attributes := #[] }])
  fields := #[{ name := "E", type := .double, accessFlags := 25, slot := 0, constantValue := 0 }, { name := "PI", type := .double, accessFlags := 25, slot := 1, constantValue := 0 }, { name := "TAU", type := .double, accessFlags := 25, slot := 2, constantValue := 0 }, { name := "DEGREES_TO_RADIANS", type := .double, accessFlags := 26, slot := 3, constantValue := 0 }, { name := "RADIANS_TO_DEGREES", type := .double, accessFlags := 26, slot := 4, constantValue := 0 }, { name := "negativeZeroFloatBits", type := .long, accessFlags := 26, slot := 5, constantValue := 0 }, { name := "negativeZeroDoubleBits", type := .long, accessFlags := 26, slot := 6, constantValue := 0 }, { name := "twoToTheDoubleScaleUp", type := .double, accessFlags := 8, slot := 7, constantValue := 0 }, { name := "twoToTheDoubleScaleDown", type := .double, accessFlags := 8, slot := 8, constantValue := 0 }, { name := "$assertionsDisabled", type := .boolean, accessFlags := 4120, slot := 9, constantValue := 0 }]
  methods := #[k17m0, k17m1, k17m2]
  instanceTypes := #[]
  staticTypes := #[.double, .double, .double, .double, .double, .long, .long, .double, .double, .boolean]
  resolved := Array.replicate 460 none
  statics := none }

def pool18 : Array CpInfo := pool [(2, .class_ 4), (1, u "java/lang/Object"), (0, u "<init>"), (0, u "()V"), (17, .class_ 26), (1, u "jdk/internal/util/Preconditions"), (6, u "checkIndex"), (21, .class_ 56), (0, u "jdk/internal/util/Preconditions$4"), (57, .class_ 115), (0, u "jdk/internal/util/Preconditions$1"), (7, u "SIOOBE_FORMATTER"), (0, u "Ljava/util/function/BiFunction;"), (0, .class_ 126), (0, u "jdk/internal/util/Preconditions$2"), (3, u "AIOOBE_FORMATTER"), (0, .class_ 132), (0, u "jdk/internal/util/Preconditions$3"), (3, u "IOOBE_FORMATTER"), (41, u "(IILjava/util/function/BiFunction;)I")] 15

def k18m0 : Method := { name := "<init>", desc := "()V", sig := { parameters := [], returnType := none }, accessFlags := 1, code := none }
def k18c1 : Code := { maxStack := 3, maxLocals := 3, code := jdk_41_method_11_code, exceptionTable := #[], attributes := #[] }
def k18m1 : Method := { name := "checkIndex", desc := "(IILjava/util/function/BiFunction;)I", sig := { parameters := [.int, .int, (.object "java/util/function/BiFunction")], returnType := some .int }, accessFlags := 9, code := some k18c1 }
/-- jdk/internal/util/Preconditions -/
def k18 : Class := { plain "jdk/internal/util/Preconditions" (some 0) with
  accessFlags := 33
  interfaces := #[]
  cf := some (fileOf pool18 24 #[.nestMembers #[55, 131, 125, 114]] #[{ accessFlags := 1, nameIndex := 5, descriptorIndex := 6, attributes := #[] }, { accessFlags := 9, nameIndex := 33, descriptorIndex := 178, attributes := #[] }] 33 2 #[] #[{ accessFlags := 25, nameIndex := 123, descriptorIndex := 124, attributes := #[] }, { accessFlags := 25, nameIndex := 130, descriptorIndex := 124, attributes := #[] }, { accessFlags := 25, nameIndex := 136, descriptorIndex := 124, attributes := #[] }])
  fields := #[{ name := "SIOOBE_FORMATTER", type := (.object "java/util/function/BiFunction"), accessFlags := 25, slot := 0, constantValue := 0 }, { name := "AIOOBE_FORMATTER", type := (.object "java/util/function/BiFunction"), accessFlags := 25, slot := 1, constantValue := 0 }, { name := "IOOBE_FORMATTER", type := (.object "java/util/function/BiFunction"), accessFlags := 25, slot := 2, constantValue := 0 }]
  methods := #[k18m0, k18m1]
  instanceTypes := #[]
  staticTypes := #[(.object "java/util/function/BiFunction"), (.object "java/util/function/BiFunction"), (.object "java/util/function/BiFunction")]
  resolved := Array.replicate 194 none
  statics := some 1 }

def pool19 : Array CpInfo := pool [(9, u "<init>"), (6, .class_ 18), (1, u "java/lang/Object"), (0, u "()V"), (1, .class_ 23), (1, u "jdk/internal/util/ArraysSupport"), (0, u "LOG2_ARRAY_LONG_INDEX_SCALE"), (0, u "I"), (2, u "U"), (0, u "Ljdk/internal/misc/Unsafe;"), (8, u "BIG_ENDIAN"), (0, u "Z"), (8, u "LOG2_BYTE_BIT_SIZE"), (4, u "LOG2_ARRAY_INT_INDEX_SCALE"), (54, u "JLA"), (0, u "Ljdk/internal/access/JavaLangAccess;"), (11, u "LOG2_ARRAY_BOOLEAN_INDEX_SCALE"), (9, u "LOG2_ARRAY_BYTE_INDEX_SCALE"), (5, u "LOG2_ARRAY_CHAR_INDEX_SCALE"), (5, u "LOG2_ARRAY_SHORT_INDEX_SCALE"), (18, u "LOG2_ARRAY_FLOAT_INDEX_SCALE"), (24, u "LOG2_ARRAY_DOUBLE_INDEX_SCALE"), (6, .methodref 195 196), (0, .class_ 197), (0, .nameAndType 198 199), (0, u "java/lang/Math"), (0, u "max"), (0, u "(II)I"), (0, .integer 2147483639), (76, u "T_BOOLEAN"), (2, u "T_CHAR"), (1, u "T_FLOAT"), (1, u "T_DOUBLE"), (1, u "T_BYTE"), (1, u "T_SHORT"), (1, u "T_INT"), (1, u "T_LONG"), (1, u "SOFT_MAX_ARRAY_LENGTH"), (56, u "newLength"), (0, u "(III)I")] 25

def k19m0 : Method := { name := "<init>", desc := "()V", sig := { parameters := [], returnType := none }, accessFlags := 2, code := none }
def k19c1 : Code := { maxStack := 3, maxLocals := 4, code := jdk_48_method_27_code, exceptionTable := #[], attributes := #[] }
def k19m1 : Method := { name := "newLength", desc := "(III)I", sig := { parameters := [.int, .int, .int], returnType := some .int }, accessFlags := 9, code := some k19c1 }
/-- jdk/internal/util/ArraysSupport -/
def k19 : Class := { plain "jdk/internal/util/ArraysSupport" (some 0) with
  accessFlags := 33
  interfaces := #[]
  cf := some (fileOf pool19 21 #[] #[{ accessFlags := 2, nameIndex := 9, descriptorIndex := 19, attributes := #[] }, { accessFlags := 9, nameIndex := 351, descriptorIndex := 352, attributes := #[] }] 33 16 #[] #[{ accessFlags := 24, nameIndex := 28, descriptorIndex := 29, attributes := #[] }, { accessFlags := 26, nameIndex := 38, descriptorIndex := 39, attributes := #[] }, { accessFlags := 25, nameIndex := 121, descriptorIndex := 25, attributes := #[] }, { accessFlags := 25, nameIndex := 131, descriptorIndex := 25, attributes := #[] }, { accessFlags := 25, nameIndex := 137, descriptorIndex := 25, attributes := #[] }, { accessFlags := 25, nameIndex := 143, descriptorIndex := 25, attributes := #[] }, { accessFlags := 25, nameIndex := 53, descriptorIndex := 25, attributes := #[] }, { accessFlags := 25, nameIndex := 24, descriptorIndex := 25, attributes := #[] }, { accessFlags := 25, nameIndex := 162, descriptorIndex := 25, attributes := #[] }, { accessFlags := 25, nameIndex := 187, descriptorIndex := 25, attributes := #[] }, { accessFlags := 26, nameIndex := 48, descriptorIndex := 25, attributes := #[] }, { accessFlags := 25, nameIndex := 277, descriptorIndex := 25, attributes := #[] }, { accessFlags := 25, nameIndex := 280, descriptorIndex := 25, attributes := #[] }, { accessFlags := 25, nameIndex := 282, descriptorIndex := 25, attributes := #[] }, { accessFlags := 25, nameIndex := 284, descriptorIndex := 25, attributes := #[] }, { accessFlags := 25, nameIndex := 286, descriptorIndex := 25, attributes := #[] }, { accessFlags := 25, nameIndex := 288, descriptorIndex := 25, attributes := #[] }, { accessFlags := 25, nameIndex := 290, descriptorIndex := 25, attributes := #[] }, { accessFlags := 25, nameIndex := 292, descriptorIndex := 25, attributes := #[] }, { accessFlags := 26, nameIndex := 108, descriptorIndex := 109, attributes := #[] }, { accessFlags := 25, nameIndex := 294, descriptorIndex := 25, attributes := #[] }])
  fields := #[{ name := "U", type := (.object "jdk/internal/misc/Unsafe"), accessFlags := 24, slot := 0, constantValue := 0 }, { name := "BIG_ENDIAN", type := .boolean, accessFlags := 26, slot := 1, constantValue := 0 }, { name := "LOG2_ARRAY_BOOLEAN_INDEX_SCALE", type := .int, accessFlags := 25, slot := 2, constantValue := 0 }, { name := "LOG2_ARRAY_BYTE_INDEX_SCALE", type := .int, accessFlags := 25, slot := 3, constantValue := 0 }, { name := "LOG2_ARRAY_CHAR_INDEX_SCALE", type := .int, accessFlags := 25, slot := 4, constantValue := 0 }, { name := "LOG2_ARRAY_SHORT_INDEX_SCALE", type := .int, accessFlags := 25, slot := 5, constantValue := 0 }, { name := "LOG2_ARRAY_INT_INDEX_SCALE", type := .int, accessFlags := 25, slot := 6, constantValue := 0 }, { name := "LOG2_ARRAY_LONG_INDEX_SCALE", type := .int, accessFlags := 25, slot := 7, constantValue := 0 }, { name := "LOG2_ARRAY_FLOAT_INDEX_SCALE", type := .int, accessFlags := 25, slot := 8, constantValue := 0 }, { name := "LOG2_ARRAY_DOUBLE_INDEX_SCALE", type := .int, accessFlags := 25, slot := 9, constantValue := 0 }, { name := "LOG2_BYTE_BIT_SIZE", type := .int, accessFlags := 26, slot := 10, constantValue := 0 }, { name := "T_BOOLEAN", type := .int, accessFlags := 25, slot := 11, constantValue := 0 }, { name := "T_CHAR", type := .int, accessFlags := 25, slot := 12, constantValue := 0 }, { name := "T_FLOAT", type := .int, accessFlags := 25, slot := 13, constantValue := 0 }, { name := "T_DOUBLE", type := .int, accessFlags := 25, slot := 14, constantValue := 0 }, { name := "T_BYTE", type := .int, accessFlags := 25, slot := 15, constantValue := 0 }, { name := "T_SHORT", type := .int, accessFlags := 25, slot := 16, constantValue := 0 }, { name := "T_INT", type := .int, accessFlags := 25, slot := 17, constantValue := 0 }, { name := "T_LONG", type := .int, accessFlags := 25, slot := 18, constantValue := 0 }, { name := "JLA", type := (.object "jdk/internal/access/JavaLangAccess"), accessFlags := 26, slot := 19, constantValue := 0 }, { name := "SOFT_MAX_ARRAY_LENGTH", type := .int, accessFlags := 25, slot := 20, constantValue := 0 }]
  methods := #[k19m0, k19m1]
  instanceTypes := #[]
  staticTypes := #[(.object "jdk/internal/misc/Unsafe"), .boolean, .int, .int, .int, .int, .int, .int, .int, .int, .int, .int, .int, .int, .int, .int, .int, .int, .int, (.object "jdk/internal/access/JavaLangAccess"), .int]
  resolved := Array.replicate 378 none
  statics := none }

/-- the primitive byte -/
def k20 : Class := { plain "byte" none with kind := .primitive 'B', accessFlags := 0x411 }
/-- [B -/
def k21 : Class := { plain "[B" (some 0) with kind := .array 20 .byte, interfaces := #[16, 7], accessFlags := 1041 }

/-- the primitive int -/
def k22 : Class := { plain "int" none with kind := .primitive 'I', accessFlags := 0x411 }
/-- [I -/
def k23 : Class := { plain "[I" (some 0) with kind := .array 22 .int, interfaces := #[16, 7], accessFlags := 1041 }

def heap : Heap := #[{ cls := 12, slots := #[.long 0, .int 1, .null, .int 0, .null, .int 0, .int 0], vm := .statics 12 },
  { cls := 18, slots := #[.null, .null, .null], vm := .statics 18 }]
def classes : Array Class := #[k0, k1, k2, k3, k4, k5, k6, k7, k8, k9, k10, k11, k12, k13, k14, k15, k16, k17, k18, k19, k20, k21, k22, k23]
def interned : List (Array UInt16 × Addr) := []
def slotsUsed : Nat := 10
def theMethod : MethodId := ⟨1, 1⟩
def args0 : Array Value := #[.int 5, .int 3, .int 9]
def aboutOver (below : List Frame) : State where
  vm := { classes := classes, interned := interned.toArray }
  heap := heap
  slotsUsed := slotsUsed
  threads := #[{ frames := .invoking theMethod args0 :: below }]
def below0 : List Frame := [.native { method := ⟨0, 0⟩, args := #[] }]
def about1 : State := aboutOver below0
def p0 : Program := .bare "" "" ""
def e0 : Env := launch0.env 0 0 0
theorem w_frames : about1.frames = Frame.invoking theMethod args0 :: below0 := rfl
set_option maxRecDepth 65536 in
theorem w_args : argsFit about1.vm theMethod args0 = true := by decide +kernel
set_option maxRecDepth 65536 in
theorem w_heap : heapFits about1 = true := by decide +kernel
set_option maxRecDepth 65536 in
theorem w_runnable : about1.curStatus? = some .runnable := by decide +kernel
set_option maxRecDepth 65536 in
theorem w_alone : about1.alone = true := by decide +kernel
set_option maxRecDepth 65536 in
theorem w_named : about1.methodNamed? x = some theMethod := by decide +kernel
set_option maxRecDepth 65536 in
theorem w_hears : about1.hears theMethod below0 = true := by decide +kernel
set_option maxRecDepth 65536 in
theorem w_ripe : about1.ripe theMethod args0 below0 = true := by decide +kernel
theorem w_running : about1.status = .running := rfl
set_option maxRecDepth 65536 in
theorem w_room : about1.hasRoom e0.platform room_1 = true :=
  launch0.hasRoom_least _ room_1 (by decide +kernel) (by decide +kernel) (by decide +kernel) (by decide +kernel) (by decide +kernel) (by decide +kernel)
theorem allAtoms_all (ts : List Jvm.Cond) (a : Array Jvm.Value) (st : Jvm.State) : (allAtoms ts).before a st = ts.all (fun c => c.before a st) := by
  induction ts with
  | nil => rfl
  | cons c t ih =>
    show (Jvm.Cond.and c (allAtoms t)).before a st = _
    rw [Jvm.Cond.before_and, ih, List.all_cons]
def words1 : List Jvm.Cond := Jvm.Cond.code x code maxLocals ret :: tables_1
/-- a 'code' word, met by the world's own term for the bytes: nothing is compared byte by byte -/
theorem code_word {y : MethodName} {bytes : ByteArray} {mx : Nat} {rt : Option FieldType} {a : Array Value} {s : State} {m : MethodId} {meth : Method} {c : Code} (h1 : s.methodNamed? y = some m) (h2 : s.vm.method? m = some meth) (h3 : meth.code = some c) (h4 : c.code = bytes)
    (h5 : (c.maxLocals == mx && c.exceptionTable.isEmpty && decide (c.maxStack ≤ mostOperands) && decide (meth.sig.returnType = rt) && !meth.locks && decide (parseMethodDescriptor y.desc = some meth.sig)) = true) : (Jvm.Cond.code y bytes mx rt).before a s = true := by
  simp only [Bool.and_eq_true, beq_iff_eq, Bool.not_eq_true', decide_eq_true_eq] at h5
  obtain ⟨⟨⟨⟨⟨g1, g2⟩, g3⟩, g4⟩, g5⟩, g6⟩ := h5
  simp [Cond.before, Cond.holds, Cond.value, h1, h2, h3, h4, g1, g2, g3, g4, g5, g6]
def isCode : Jvm.Cond → Bool
  | .code _ _ _ _ => true
  | _ => false
theorem all_split {L : List Jvm.Cond} {P : Jvm.Cond → Bool} (h1 : L.all (fun c => isCode c || P c) = true) (h2 : ∀ c ∈ L.filter isCode, P c = true) : L.all P = true := by
  refine List.all_eq_true.mpr fun c hc => ?_
  have h := List.all_eq_true.mp h1 c hc
  rcases Bool.eq_false_or_eq_true (isCode c) with hi | hi
  · exact h2 c (List.mem_filter.mpr ⟨hc, hi⟩)
  · simpa [hi] using h
set_option maxRecDepth 65536 in
theorem w_c0 : (Jvm.Cond.code x code maxLocals ret).before args0 about1 = true := code_word (m := ⟨1, 1⟩) (meth := k1m1) (c := k1c1) (by decide +kernel) rfl rfl rfl (by decide +kernel)
set_option maxRecDepth 65536 in
theorem w_c1 : (Jvm.Cond.code ({ cls := "com/example/crosstie/crosstie/ValuesBatches", name := "values", desc := "(II)Ljava/lang/String;" } : Jvm.MethodName) prog_13_method_2_code (5 : Nat) (Option.some (Jvm.ClassFile.FieldType.object "java/lang/String"))).before args0 about1 = true := code_word (m := ⟨3, 0⟩) (meth := k3m0) (c := k3c0) (by decide +kernel) rfl rfl rfl (by decide +kernel)
set_option maxRecDepth 65536 in
theorem w_c2 : (Jvm.Cond.code ({ cls := "java/lang/StringBuilder", name := "<init>", desc := "(Ljava/lang/String;)V" } : Jvm.MethodName) jdk_67_method_3_code (2 : Nat) (Option.none : Option Jvm.ClassFile.FieldType)).before args0 about1 = true := code_word (m := ⟨9, 2⟩) (meth := k9m2) (c := k9c2) (by decide +kernel) rfl rfl rfl (by decide +kernel)
set_option maxRecDepth 65536 in
theorem w_c3 : (Jvm.Cond.code ({ cls := "java/lang/AbstractStringBuilder", name := "<init>", desc := "(Ljava/lang/String;)V" } : Jvm.MethodName) jdk_68_method_3_code (5 : Nat) (Option.none : Option Jvm.ClassFile.FieldType)).before args0 about1 = true := code_word (m := ⟨6, 2⟩) (meth := k6m2) (c := k6c2) (by decide +kernel) rfl rfl rfl (by decide +kernel)
set_option maxRecDepth 65536 in
theorem w_c4 : (Jvm.Cond.code ({ cls := "java/lang/Object", name := "<init>", desc := "()V" } : Jvm.MethodName) object_method_1_code (1 : Nat) (Option.none : Option Jvm.ClassFile.FieldType)).before args0 about1 = true := code_word (m := ⟨0, 0⟩) (meth := k0m0) (c := k0c0) (by decide +kernel) rfl rfl rfl (by decide +kernel)
set_option maxRecDepth 65536 in
theorem w_c5 : (Jvm.Cond.code ({ cls := "java/lang/String", name := "length", desc := "()I" } : Jvm.MethodName) jdk_42_method_54_code (1 : Nat) (Option.some Jvm.ClassFile.FieldType.int)).before args0 about1 = true := code_word (m := ⟨12, 2⟩) (meth := k12m2) (c := k12c2) (by decide +kernel) rfl rfl rfl (by decide +kernel)
set_option maxRecDepth 65536 in
theorem w_c6 : (Jvm.Cond.code ({ cls := "java/lang/String", name := "coder", desc := "()B" } : Jvm.MethodName) jdk_42_method_152_code (1 : Nat) (Option.some Jvm.ClassFile.FieldType.byte)).before args0 about1 = true := code_word (m := ⟨12, 7⟩) (meth := k12m7) (c := k12c7) (by decide +kernel) rfl rfl rfl (by decide +kernel)
set_option maxRecDepth 65536 in
theorem w_c7 : (Jvm.Cond.code ({ cls := "java/lang/StringBuilder", name := "append", desc := "(Ljava/lang/String;)Ljava/lang/AbstractStringBuilder;" } : Jvm.MethodName) jdk_67_method_80_code (2 : Nat) (Option.some (Jvm.ClassFile.FieldType.object "java/lang/AbstractStringBuilder"))).before args0 about1 = true := code_word (m := ⟨9, 7⟩) (meth := k9m7) (c := k9c7) (by decide +kernel) rfl rfl rfl (by decide +kernel)
set_option maxRecDepth 65536 in
theorem w_c8 : (Jvm.Cond.code ({ cls := "java/lang/StringBuilder", name := "append", desc := "(Ljava/lang/String;)Ljava/lang/StringBuilder;" } : Jvm.MethodName) jdk_67_method_7_code (2 : Nat) (Option.some (Jvm.ClassFile.FieldType.object "java/lang/StringBuilder"))).before args0 about1 = true := code_word (m := ⟨9, 3⟩) (meth := k9m3) (c := k9c3) (by decide +kernel) rfl rfl rfl (by decide +kernel)
set_option maxRecDepth 65536 in
theorem w_c9 : (Jvm.Cond.code ({ cls := "java/lang/AbstractStringBuilder", name := "append", desc := "(Ljava/lang/String;)Ljava/lang/AbstractStringBuilder;" } : Jvm.MethodName) jdk_68_method_22_code (3 : Nat) (Option.some (Jvm.ClassFile.FieldType.object "java/lang/AbstractStringBuilder"))).before args0 about1 = true := code_word (m := ⟨6, 6⟩) (meth := k6m6) (c := k6c6) (by decide +kernel) rfl rfl rfl (by decide +kernel)
set_option maxRecDepth 65536 in
theorem w_c10 : (Jvm.Cond.code ({ cls := "java/lang/AbstractStringBuilder", name := "ensureCapacityInternal", desc := "(I)V" } : Jvm.MethodName) jdk_68_method_9_code (3 : Nat) (Option.none : Option Jvm.ClassFile.FieldType)).before args0 about1 = true := code_word (m := ⟨6, 4⟩) (meth := k6m4) (c := k6c4) (by decide +kernel) rfl rfl rfl (by decide +kernel)
set_option maxRecDepth 65536 in
theorem w_c11 : (Jvm.Cond.code ({ cls := "java/lang/AbstractStringBuilder", name := "putStringAt", desc := "(ILjava/lang/String;)V" } : Jvm.MethodName) jdk_68_method_73_code (3 : Nat) (Option.none : Option Jvm.ClassFile.FieldType)).before args0 about1 = true := code_word (m := ⟨6, 16⟩) (meth := k6m16) (c := k6c16) (by decide +kernel) rfl rfl rfl (by decide +kernel)
set_option maxRecDepth 65536 in
theorem w_c12 : (Jvm.Cond.code ({ cls := "java/lang/AbstractStringBuilder", name := "inflateIfNeededFor", desc := "(Ljava/lang/String;)V" } : Jvm.MethodName) jdk_68_method_71_code (2 : Nat) (Option.none : Option Jvm.ClassFile.FieldType)).before args0 about1 = true := code_word (m := ⟨6, 14⟩) (meth := k6m14) (c := k6c14) (by decide +kernel) rfl rfl rfl (by decide +kernel)
set_option maxRecDepth 65536 in
theorem w_c13 : (Jvm.Cond.code ({ cls := "java/lang/String", name := "getBytes", desc := "([BIB)V" } : Jvm.MethodName) jdk_42_method_147_code (4 : Nat) (Option.none : Option Jvm.ClassFile.FieldType)).before args0 about1 = true := code_word (m := ⟨12, 5⟩) (meth := k12m5) (c := k12c5) (by decide +kernel) rfl rfl rfl (by decide +kernel)
set_option maxRecDepth 65536 in
theorem w_c14 : (Jvm.Cond.code ({ cls := "java/lang/StringBuilder", name := "append", desc := "(C)Ljava/lang/StringBuilder;" } : Jvm.MethodName) jdk_67_method_14_code (2 : Nat) (Option.some (Jvm.ClassFile.FieldType.object "java/lang/StringBuilder"))).before args0 about1 = true := code_word (m := ⟨9, 5⟩) (meth := k9m5) (c := k9c5) (by decide +kernel) rfl rfl rfl (by decide +kernel)
set_option maxRecDepth 65536 in
theorem w_c15 : (Jvm.Cond.code ({ cls := "java/lang/AbstractStringBuilder", name := "append", desc := "(C)Ljava/lang/AbstractStringBuilder;" } : Jvm.MethodName) jdk_68_method_31_code (2 : Nat) (Option.some (Jvm.ClassFile.FieldType.object "java/lang/AbstractStringBuilder"))).before args0 about1 = true := code_word (m := ⟨6, 9⟩) (meth := k6m9) (c := k6c9) (by decide +kernel) rfl rfl rfl (by decide +kernel)
set_option maxRecDepth 65536 in
theorem w_c16 : (Jvm.Cond.code ({ cls := "java/lang/AbstractStringBuilder", name := "isLatin1", desc := "()Z" } : Jvm.MethodName) jdk_68_method_68_code (1 : Nat) (Option.some Jvm.ClassFile.FieldType.boolean)).before args0 about1 = true := code_word (m := ⟨6, 13⟩) (meth := k6m13) (c := k6c13) (by decide +kernel) rfl rfl rfl (by decide +kernel)
set_option maxRecDepth 65536 in
theorem w_c17 : (Jvm.Cond.code ({ cls := "java/lang/StringLatin1", name := "canEncode", desc := "(C)Z" } : Jvm.MethodName) jdk_43_method_3_code (1 : Nat) (Option.some Jvm.ClassFile.FieldType.boolean)).before args0 about1 = true := code_word (m := ⟨14, 2⟩) (meth := k14m2) (c := k14c2) (by decide +kernel) rfl rfl rfl (by decide +kernel)
set_option maxRecDepth 65536 in
theorem w_c18 : (Jvm.Cond.code ({ cls := "java/lang/StringBuilder", name := "length", desc := "()I" } : Jvm.MethodName) jdk_67_method_93_code (1 : Nat) (Option.some Jvm.ClassFile.FieldType.int)).before args0 about1 = true := code_word (m := ⟨9, 8⟩) (meth := k9m8) (c := k9c8) (by decide +kernel) rfl rfl rfl (by decide +kernel)
set_option maxRecDepth 65536 in
theorem w_c19 : (Jvm.Cond.code ({ cls := "java/lang/AbstractStringBuilder", name := "length", desc := "()I" } : Jvm.MethodName) jdk_68_method_6_code (1 : Nat) (Option.some Jvm.ClassFile.FieldType.int)).before args0 about1 = true := code_word (m := ⟨6, 3⟩) (meth := k6m3) (c := k6c3) (by decide +kernel) rfl rfl rfl (by decide +kernel)
set_option maxRecDepth 65536 in
theorem w_c20 : (Jvm.Cond.code ({ cls := "java/lang/StringBuilder", name := "<init>", desc := "(I)V" } : Jvm.MethodName) jdk_67_method_2_code (2 : Nat) (Option.none : Option Jvm.ClassFile.FieldType)).before args0 about1 = true := code_word (m := ⟨9, 1⟩) (meth := k9m1) (c := k9c1) (by decide +kernel) rfl rfl rfl (by decide +kernel)
set_option maxRecDepth 65536 in
theorem w_c21 : (Jvm.Cond.code ({ cls := "java/lang/AbstractStringBuilder", name := "<init>", desc := "(I)V" } : Jvm.MethodName) jdk_68_method_2_code (2 : Nat) (Option.none : Option Jvm.ClassFile.FieldType)).before args0 about1 = true := code_word (m := ⟨6, 1⟩) (meth := k6m1) (c := k6c1) (by decide +kernel) rfl rfl rfl (by decide +kernel)
set_option maxRecDepth 65536 in
theorem w_c22 : (Jvm.Cond.code ({ cls := "java/lang/StringBuilder", name := "toString", desc := "()Ljava/lang/String;" } : Jvm.MethodName) jdk_67_method_42_code (1 : Nat) (Option.some (Jvm.ClassFile.FieldType.object "java/lang/String"))).before args0 about1 = true := code_word (m := ⟨9, 6⟩) (meth := k9m6) (c := k9c6) (by decide +kernel) rfl rfl rfl (by decide +kernel)
set_option maxRecDepth 65536 in
theorem w_c23 : (Jvm.Cond.code ({ cls := "java/lang/String", name := "<init>", desc := "(Ljava/lang/StringBuilder;)V" } : Jvm.MethodName) jdk_42_method_53_code (2 : Nat) (Option.none : Option Jvm.ClassFile.FieldType)).before args0 about1 = true := code_word (m := ⟨12, 1⟩) (meth := k12m1) (c := k12c1) (by decide +kernel) rfl rfl rfl (by decide +kernel)
set_option maxRecDepth 65536 in
theorem w_c24 : (Jvm.Cond.code ({ cls := "java/lang/String", name := "<init>", desc := "(Ljava/lang/AbstractStringBuilder;Ljava/lang/Void;)V" } : Jvm.MethodName) jdk_42_method_150_code (5 : Nat) (Option.none : Option Jvm.ClassFile.FieldType)).before args0 about1 = true := code_word (m := ⟨12, 6⟩) (meth := k12m6) (c := k12c6) (by decide +kernel) rfl rfl rfl (by decide +kernel)
set_option maxRecDepth 65536 in
theorem w_c25 : (Jvm.Cond.code ({ cls := "java/lang/AbstractStringBuilder", name := "getValue", desc := "()[B" } : Jvm.MethodName) jdk_68_method_64_code (1 : Nat) (Option.some (Jvm.ClassFile.FieldType.array Jvm.ClassFile.FieldType.byte))).before args0 about1 = true := code_word (m := ⟨6, 10⟩) (meth := k6m10) (c := k6c10) (by decide +kernel) rfl rfl rfl (by decide +kernel)
set_option maxRecDepth 65536 in
theorem w_c26 : (Jvm.Cond.code ({ cls := "java/util/Arrays", name := "copyOfRange", desc := "([BII)[B" } : Jvm.MethodName) jdk_65_method_132_code (3 : Nat) (Option.some (Jvm.ClassFile.FieldType.array Jvm.ClassFile.FieldType.byte))).before args0 about1 = true := code_word (m := ⟨15, 3⟩) (meth := k15m3) (c := k15c3) (by decide +kernel) rfl rfl rfl (by decide +kernel)
set_option maxRecDepth 65536 in
theorem w_c27 : (Jvm.Cond.code ({ cls := "java/lang/String", name := "isEmpty", desc := "()Z" } : Jvm.MethodName) jdk_42_method_55_code (1 : Nat) (Option.some Jvm.ClassFile.FieldType.boolean)).before args0 about1 = true := code_word (m := ⟨12, 3⟩) (meth := k12m3) (c := k12c3) (by decide +kernel) rfl rfl rfl (by decide +kernel)
set_option maxRecDepth 65536 in
theorem w_c28 : (Jvm.Cond.code ({ cls := "java/lang/StringBuilder", name := "append", desc := "(Ljava/lang/CharSequence;)Ljava/lang/StringBuilder;" } : Jvm.MethodName) jdk_67_method_9_code (2 : Nat) (Option.some (Jvm.ClassFile.FieldType.object "java/lang/StringBuilder"))).before args0 about1 = true := code_word (m := ⟨9, 4⟩) (meth := k9m4) (c := k9c4) (by decide +kernel) rfl rfl rfl (by decide +kernel)
set_option maxRecDepth 65536 in
theorem w_c29 : (Jvm.Cond.code ({ cls := "java/lang/AbstractStringBuilder", name := "append", desc := "(Ljava/lang/CharSequence;)Ljava/lang/AbstractStringBuilder;" } : Jvm.MethodName) jdk_68_method_25_code (2 : Nat) (Option.some (Jvm.ClassFile.FieldType.object "java/lang/AbstractStringBuilder"))).before args0 about1 = true := code_word (m := ⟨6, 8⟩) (meth := k6m8) (c := k6c8) (by decide +kernel) rfl rfl rfl (by decide +kernel)
set_option maxRecDepth 65536 in
theorem w_c30 : (Jvm.Cond.code ({ cls := "java/lang/AbstractStringBuilder", name := "append", desc := "(Ljava/lang/AbstractStringBuilder;)Ljava/lang/AbstractStringBuilder;" } : Jvm.MethodName) jdk_68_method_24_code (3 : Nat) (Option.some (Jvm.ClassFile.FieldType.object "java/lang/AbstractStringBuilder"))).before args0 about1 = true := code_word (m := ⟨6, 7⟩) (meth := k6m7) (c := k6c7) (by decide +kernel) rfl rfl rfl (by decide +kernel)
set_option maxRecDepth 65536 in
theorem w_c31 : (Jvm.Cond.code ({ cls := "java/lang/AbstractStringBuilder", name := "inflateIfNeededFor", desc := "(Ljava/lang/AbstractStringBuilder;)V" } : Jvm.MethodName) jdk_68_method_72_code (2 : Nat) (Option.none : Option Jvm.ClassFile.FieldType)).before args0 about1 = true := code_word (m := ⟨6, 15⟩) (meth := k6m15) (c := k6c15) (by decide +kernel) rfl rfl rfl (by decide +kernel)
set_option maxRecDepth 65536 in
theorem w_c32 : (Jvm.Cond.code ({ cls := "java/lang/AbstractStringBuilder", name := "getCoder", desc := "()B" } : Jvm.MethodName) jdk_68_method_67_code (1 : Nat) (Option.some Jvm.ClassFile.FieldType.byte)).before args0 about1 = true := code_word (m := ⟨6, 12⟩) (meth := k6m12) (c := k6c12) (by decide +kernel) rfl rfl rfl (by decide +kernel)
set_option maxRecDepth 65536 in
theorem w_c33 : (Jvm.Cond.code ({ cls := "java/lang/AbstractStringBuilder", name := "getBytes", desc := "([BIB)V" } : Jvm.MethodName) jdk_68_method_65_code (4 : Nat) (Option.none : Option Jvm.ClassFile.FieldType)).before args0 about1 = true := code_word (m := ⟨6, 11⟩) (meth := k6m11) (c := k6c11) (by decide +kernel) rfl rfl rfl (by decide +kernel)
set_option maxRecDepth 65536 in
theorem w_c34 : (Jvm.Cond.code ({ cls := "java/util/Arrays", name := "copyOfRangeByte", desc := "([BII)[B" } : Jvm.MethodName) jdk_65_method_133_code (5 : Nat) (Option.some (Jvm.ClassFile.FieldType.array Jvm.ClassFile.FieldType.byte))).before args0 about1 = true := code_word (m := ⟨15, 4⟩) (meth := k15m4) (c := k15c4) (by decide +kernel) rfl rfl rfl (by decide +kernel)
set_option maxRecDepth 65536 in
theorem w_c35 : (Jvm.Cond.code ({ cls := "java/util/Arrays", name := "checkLength", desc := "(II)V" } : Jvm.MethodName) jdk_65_method_131_code (2 : Nat) (Option.none : Option Jvm.ClassFile.FieldType)).before args0 about1 = true := code_word (m := ⟨15, 2⟩) (meth := k15m2) (c := k15c2) (by decide +kernel) rfl rfl rfl (by decide +kernel)
set_option maxRecDepth 65536 in
theorem w_c36 : (Jvm.Cond.code ({ cls := "java/lang/Math", name := "min", desc := "(II)I" } : Jvm.MethodName) jdk_29_method_69_code (2 : Nat) (Option.some Jvm.ClassFile.FieldType.int)).before args0 about1 = true := code_word (m := ⟨17, 2⟩) (meth := k17m2) (c := k17c2) (by decide +kernel) rfl rfl rfl (by decide +kernel)
set_option maxRecDepth 65536 in
theorem w_c37 : (Jvm.Cond.code ({ cls := "java/lang/String", name := "charAt", desc := "(I)C" } : Jvm.MethodName) jdk_42_method_56_code (2 : Nat) (Option.some Jvm.ClassFile.FieldType.char)).before args0 about1 = true := code_word (m := ⟨12, 4⟩) (meth := k12m4) (c := k12c4) (by decide +kernel) rfl rfl rfl (by decide +kernel)
set_option maxRecDepth 65536 in
theorem w_c38 : (Jvm.Cond.code ({ cls := "java/lang/String", name := "isLatin1", desc := "()Z" } : Jvm.MethodName) jdk_42_method_154_code (1 : Nat) (Option.some Jvm.ClassFile.FieldType.boolean)).before args0 about1 = true := code_word (m := ⟨12, 8⟩) (meth := k12m8) (c := k12c8) (by decide +kernel) rfl rfl rfl (by decide +kernel)
set_option maxRecDepth 65536 in
theorem w_c39 : (Jvm.Cond.code ({ cls := "java/lang/StringLatin1", name := "charAt", desc := "([BI)C" } : Jvm.MethodName) jdk_43_method_2_code (2 : Nat) (Option.some Jvm.ClassFile.FieldType.char)).before args0 about1 = true := code_word (m := ⟨14, 1⟩) (meth := k14m1) (c := k14c1) (by decide +kernel) rfl rfl rfl (by decide +kernel)
set_option maxRecDepth 65536 in
theorem w_c40 : (Jvm.Cond.code ({ cls := "java/lang/String", name := "checkIndex", desc := "(II)V" } : Jvm.MethodName) jdk_42_method_155_code (2 : Nat) (Option.none : Option Jvm.ClassFile.FieldType)).before args0 about1 = true := code_word (m := ⟨12, 9⟩) (meth := k12m9) (c := k12c9) (by decide +kernel) rfl rfl rfl (by decide +kernel)
set_option maxRecDepth 65536 in
theorem w_c41 : (Jvm.Cond.code ({ cls := "jdk/internal/util/Preconditions", name := "checkIndex", desc := "(IILjava/util/function/BiFunction;)I" } : Jvm.MethodName) jdk_41_method_11_code (3 : Nat) (Option.some Jvm.ClassFile.FieldType.int)).before args0 about1 = true := code_word (m := ⟨18, 1⟩) (meth := k18m1) (c := k18c1) (by decide +kernel) rfl rfl rfl (by decide +kernel)
set_option maxRecDepth 65536 in
theorem w_c42 : (Jvm.Cond.code ({ cls := "com/example/crosstie/crosstie/ValuesBatchesValuesPinLaw", name := "expectedChar", desc := "(II)C" } : Jvm.MethodName) method_3_code (4 : Nat) (Option.some Jvm.ClassFile.FieldType.char)).before args0 about1 = true := code_word (m := ⟨1, 2⟩) (meth := k1m2) (c := k1c2) (by decide +kernel) rfl rfl rfl (by decide +kernel)
set_option maxRecDepth 65536 in
theorem w_c43 : (Jvm.Cond.code ({ cls := "java/lang/AbstractStringBuilder", name := "newCapacity", desc := "(I)I" } : Jvm.MethodName) jdk_68_method_10_code (6 : Nat) (Option.some Jvm.ClassFile.FieldType.int)).before args0 about1 = true := code_word (m := ⟨6, 5⟩) (meth := k6m5) (c := k6c5) (by decide +kernel) rfl rfl rfl (by decide +kernel)
set_option maxRecDepth 65536 in
theorem w_c44 : (Jvm.Cond.code ({ cls := "jdk/internal/util/ArraysSupport", name := "newLength", desc := "(III)I" } : Jvm.MethodName) jdk_48_method_27_code (4 : Nat) (Option.some Jvm.ClassFile.FieldType.int)).before args0 about1 = true := code_word (m := ⟨19, 1⟩) (meth := k19m1) (c := k19c1) (by decide +kernel) rfl rfl rfl (by decide +kernel)
set_option maxRecDepth 65536 in
theorem w_c45 : (Jvm.Cond.code ({ cls := "java/lang/Math", name := "max", desc := "(II)I" } : Jvm.MethodName) jdk_29_method_65_code (2 : Nat) (Option.some Jvm.ClassFile.FieldType.int)).before args0 about1 = true := code_word (m := ⟨17, 1⟩) (meth := k17m1) (c := k17c1) (by decide +kernel) rfl rfl rfl (by decide +kernel)
set_option maxRecDepth 65536 in
theorem w_c46 : (Jvm.Cond.code ({ cls := "java/util/Arrays", name := "copyOf", desc := "([BI)[B" } : Jvm.MethodName) jdk_65_method_121_code (3 : Nat) (Option.some (Jvm.ClassFile.FieldType.array Jvm.ClassFile.FieldType.byte))).before args0 about1 = true := code_word (m := ⟨15, 1⟩) (meth := k15m1) (c := k15c1) (by decide +kernel) rfl rfl rfl (by decide +kernel)
def codes1 : List Jvm.Cond := [Jvm.Cond.code x code maxLocals ret, Jvm.Cond.code ({ cls := "com/example/crosstie/crosstie/ValuesBatches", name := "values", desc := "(II)Ljava/lang/String;" } : Jvm.MethodName) prog_13_method_2_code (5 : Nat) (Option.some (Jvm.ClassFile.FieldType.object "java/lang/String")), Jvm.Cond.code ({ cls := "java/lang/StringBuilder", name := "<init>", desc := "(Ljava/lang/String;)V" } : Jvm.MethodName) jdk_67_method_3_code (2 : Nat) (Option.none : Option Jvm.ClassFile.FieldType), Jvm.Cond.code ({ cls := "java/lang/AbstractStringBuilder", name := "<init>", desc := "(Ljava/lang/String;)V" } : Jvm.MethodName) jdk_68_method_3_code (5 : Nat) (Option.none : Option Jvm.ClassFile.FieldType), Jvm.Cond.code ({ cls := "java/lang/Object", name := "<init>", desc := "()V" } : Jvm.MethodName) object_method_1_code (1 : Nat) (Option.none : Option Jvm.ClassFile.FieldType), Jvm.Cond.code ({ cls := "java/lang/String", name := "length", desc := "()I" } : Jvm.MethodName) jdk_42_method_54_code (1 : Nat) (Option.some Jvm.ClassFile.FieldType.int), Jvm.Cond.code ({ cls := "java/lang/String", name := "coder", desc := "()B" } : Jvm.MethodName) jdk_42_method_152_code (1 : Nat) (Option.some Jvm.ClassFile.FieldType.byte), Jvm.Cond.code ({ cls := "java/lang/StringBuilder", name := "append", desc := "(Ljava/lang/String;)Ljava/lang/AbstractStringBuilder;" } : Jvm.MethodName) jdk_67_method_80_code (2 : Nat) (Option.some (Jvm.ClassFile.FieldType.object "java/lang/AbstractStringBuilder")), Jvm.Cond.code ({ cls := "java/lang/StringBuilder", name := "append", desc := "(Ljava/lang/String;)Ljava/lang/StringBuilder;" } : Jvm.MethodName) jdk_67_method_7_code (2 : Nat) (Option.some (Jvm.ClassFile.FieldType.object "java/lang/StringBuilder")), Jvm.Cond.code ({ cls := "java/lang/AbstractStringBuilder", name := "append", desc := "(Ljava/lang/String;)Ljava/lang/AbstractStringBuilder;" } : Jvm.MethodName) jdk_68_method_22_code (3 : Nat) (Option.some (Jvm.ClassFile.FieldType.object "java/lang/AbstractStringBuilder")), Jvm.Cond.code ({ cls := "java/lang/AbstractStringBuilder", name := "ensureCapacityInternal", desc := "(I)V" } : Jvm.MethodName) jdk_68_method_9_code (3 : Nat) (Option.none : Option Jvm.ClassFile.FieldType), Jvm.Cond.code ({ cls := "java/lang/AbstractStringBuilder", name := "putStringAt", desc := "(ILjava/lang/String;)V" } : Jvm.MethodName) jdk_68_method_73_code (3 : Nat) (Option.none : Option Jvm.ClassFile.FieldType), Jvm.Cond.code ({ cls := "java/lang/AbstractStringBuilder", name := "inflateIfNeededFor", desc := "(Ljava/lang/String;)V" } : Jvm.MethodName) jdk_68_method_71_code (2 : Nat) (Option.none : Option Jvm.ClassFile.FieldType), Jvm.Cond.code ({ cls := "java/lang/String", name := "getBytes", desc := "([BIB)V" } : Jvm.MethodName) jdk_42_method_147_code (4 : Nat) (Option.none : Option Jvm.ClassFile.FieldType), Jvm.Cond.code ({ cls := "java/lang/StringBuilder", name := "append", desc := "(C)Ljava/lang/StringBuilder;" } : Jvm.MethodName) jdk_67_method_14_code (2 : Nat) (Option.some (Jvm.ClassFile.FieldType.object "java/lang/StringBuilder")), Jvm.Cond.code ({ cls := "java/lang/AbstractStringBuilder", name := "append", desc := "(C)Ljava/lang/AbstractStringBuilder;" } : Jvm.MethodName) jdk_68_method_31_code (2 : Nat) (Option.some (Jvm.ClassFile.FieldType.object "java/lang/AbstractStringBuilder")), Jvm.Cond.code ({ cls := "java/lang/AbstractStringBuilder", name := "isLatin1", desc := "()Z" } : Jvm.MethodName) jdk_68_method_68_code (1 : Nat) (Option.some Jvm.ClassFile.FieldType.boolean), Jvm.Cond.code ({ cls := "java/lang/StringLatin1", name := "canEncode", desc := "(C)Z" } : Jvm.MethodName) jdk_43_method_3_code (1 : Nat) (Option.some Jvm.ClassFile.FieldType.boolean), Jvm.Cond.code ({ cls := "java/lang/StringBuilder", name := "length", desc := "()I" } : Jvm.MethodName) jdk_67_method_93_code (1 : Nat) (Option.some Jvm.ClassFile.FieldType.int), Jvm.Cond.code ({ cls := "java/lang/AbstractStringBuilder", name := "length", desc := "()I" } : Jvm.MethodName) jdk_68_method_6_code (1 : Nat) (Option.some Jvm.ClassFile.FieldType.int), Jvm.Cond.code ({ cls := "java/lang/StringBuilder", name := "<init>", desc := "(I)V" } : Jvm.MethodName) jdk_67_method_2_code (2 : Nat) (Option.none : Option Jvm.ClassFile.FieldType), Jvm.Cond.code ({ cls := "java/lang/AbstractStringBuilder", name := "<init>", desc := "(I)V" } : Jvm.MethodName) jdk_68_method_2_code (2 : Nat) (Option.none : Option Jvm.ClassFile.FieldType), Jvm.Cond.code ({ cls := "java/lang/StringBuilder", name := "toString", desc := "()Ljava/lang/String;" } : Jvm.MethodName) jdk_67_method_42_code (1 : Nat) (Option.some (Jvm.ClassFile.FieldType.object "java/lang/String")), Jvm.Cond.code ({ cls := "java/lang/String", name := "<init>", desc := "(Ljava/lang/StringBuilder;)V" } : Jvm.MethodName) jdk_42_method_53_code (2 : Nat) (Option.none : Option Jvm.ClassFile.FieldType), Jvm.Cond.code ({ cls := "java/lang/String", name := "<init>", desc := "(Ljava/lang/AbstractStringBuilder;Ljava/lang/Void;)V" } : Jvm.MethodName) jdk_42_method_150_code (5 : Nat) (Option.none : Option Jvm.ClassFile.FieldType), Jvm.Cond.code ({ cls := "java/lang/AbstractStringBuilder", name := "getValue", desc := "()[B" } : Jvm.MethodName) jdk_68_method_64_code (1 : Nat) (Option.some (Jvm.ClassFile.FieldType.array Jvm.ClassFile.FieldType.byte)), Jvm.Cond.code ({ cls := "java/util/Arrays", name := "copyOfRange", desc := "([BII)[B" } : Jvm.MethodName) jdk_65_method_132_code (3 : Nat) (Option.some (Jvm.ClassFile.FieldType.array Jvm.ClassFile.FieldType.byte)), Jvm.Cond.code ({ cls := "java/lang/String", name := "isEmpty", desc := "()Z" } : Jvm.MethodName) jdk_42_method_55_code (1 : Nat) (Option.some Jvm.ClassFile.FieldType.boolean), Jvm.Cond.code ({ cls := "java/lang/StringBuilder", name := "append", desc := "(Ljava/lang/CharSequence;)Ljava/lang/StringBuilder;" } : Jvm.MethodName) jdk_67_method_9_code (2 : Nat) (Option.some (Jvm.ClassFile.FieldType.object "java/lang/StringBuilder")), Jvm.Cond.code ({ cls := "java/lang/AbstractStringBuilder", name := "append", desc := "(Ljava/lang/CharSequence;)Ljava/lang/AbstractStringBuilder;" } : Jvm.MethodName) jdk_68_method_25_code (2 : Nat) (Option.some (Jvm.ClassFile.FieldType.object "java/lang/AbstractStringBuilder")), Jvm.Cond.code ({ cls := "java/lang/AbstractStringBuilder", name := "append", desc := "(Ljava/lang/AbstractStringBuilder;)Ljava/lang/AbstractStringBuilder;" } : Jvm.MethodName) jdk_68_method_24_code (3 : Nat) (Option.some (Jvm.ClassFile.FieldType.object "java/lang/AbstractStringBuilder")), Jvm.Cond.code ({ cls := "java/lang/AbstractStringBuilder", name := "inflateIfNeededFor", desc := "(Ljava/lang/AbstractStringBuilder;)V" } : Jvm.MethodName) jdk_68_method_72_code (2 : Nat) (Option.none : Option Jvm.ClassFile.FieldType), Jvm.Cond.code ({ cls := "java/lang/AbstractStringBuilder", name := "getCoder", desc := "()B" } : Jvm.MethodName) jdk_68_method_67_code (1 : Nat) (Option.some Jvm.ClassFile.FieldType.byte), Jvm.Cond.code ({ cls := "java/lang/AbstractStringBuilder", name := "getBytes", desc := "([BIB)V" } : Jvm.MethodName) jdk_68_method_65_code (4 : Nat) (Option.none : Option Jvm.ClassFile.FieldType), Jvm.Cond.code ({ cls := "java/util/Arrays", name := "copyOfRangeByte", desc := "([BII)[B" } : Jvm.MethodName) jdk_65_method_133_code (5 : Nat) (Option.some (Jvm.ClassFile.FieldType.array Jvm.ClassFile.FieldType.byte)), Jvm.Cond.code ({ cls := "java/util/Arrays", name := "checkLength", desc := "(II)V" } : Jvm.MethodName) jdk_65_method_131_code (2 : Nat) (Option.none : Option Jvm.ClassFile.FieldType), Jvm.Cond.code ({ cls := "java/lang/Math", name := "min", desc := "(II)I" } : Jvm.MethodName) jdk_29_method_69_code (2 : Nat) (Option.some Jvm.ClassFile.FieldType.int), Jvm.Cond.code ({ cls := "java/lang/String", name := "charAt", desc := "(I)C" } : Jvm.MethodName) jdk_42_method_56_code (2 : Nat) (Option.some Jvm.ClassFile.FieldType.char), Jvm.Cond.code ({ cls := "java/lang/String", name := "isLatin1", desc := "()Z" } : Jvm.MethodName) jdk_42_method_154_code (1 : Nat) (Option.some Jvm.ClassFile.FieldType.boolean), Jvm.Cond.code ({ cls := "java/lang/StringLatin1", name := "charAt", desc := "([BI)C" } : Jvm.MethodName) jdk_43_method_2_code (2 : Nat) (Option.some Jvm.ClassFile.FieldType.char), Jvm.Cond.code ({ cls := "java/lang/String", name := "checkIndex", desc := "(II)V" } : Jvm.MethodName) jdk_42_method_155_code (2 : Nat) (Option.none : Option Jvm.ClassFile.FieldType), Jvm.Cond.code ({ cls := "jdk/internal/util/Preconditions", name := "checkIndex", desc := "(IILjava/util/function/BiFunction;)I" } : Jvm.MethodName) jdk_41_method_11_code (3 : Nat) (Option.some Jvm.ClassFile.FieldType.int), Jvm.Cond.code ({ cls := "com/example/crosstie/crosstie/ValuesBatchesValuesPinLaw", name := "expectedChar", desc := "(II)C" } : Jvm.MethodName) method_3_code (4 : Nat) (Option.some Jvm.ClassFile.FieldType.char), Jvm.Cond.code ({ cls := "java/lang/AbstractStringBuilder", name := "newCapacity", desc := "(I)I" } : Jvm.MethodName) jdk_68_method_10_code (6 : Nat) (Option.some Jvm.ClassFile.FieldType.int), Jvm.Cond.code ({ cls := "jdk/internal/util/ArraysSupport", name := "newLength", desc := "(III)I" } : Jvm.MethodName) jdk_48_method_27_code (4 : Nat) (Option.some Jvm.ClassFile.FieldType.int), Jvm.Cond.code ({ cls := "java/lang/Math", name := "max", desc := "(II)I" } : Jvm.MethodName) jdk_29_method_65_code (2 : Nat) (Option.some Jvm.ClassFile.FieldType.int), Jvm.Cond.code ({ cls := "java/util/Arrays", name := "copyOf", desc := "([BI)[B" } : Jvm.MethodName) jdk_65_method_121_code (3 : Nat) (Option.some (Jvm.ClassFile.FieldType.array Jvm.ClassFile.FieldType.byte))]
set_option maxRecDepth 65536 in
theorem codes_eq : words1.filter isCode = codes1 := rfl
theorem w_codes : ∀ c ∈ words1.filter isCode, c.before args0 about1 = true := by
  rw [codes_eq]
  intro c hc
  simp only [codes1, List.mem_cons, List.not_mem_nil, or_false] at hc
  rcases hc with rfl | rfl | rfl | rfl | rfl | rfl | rfl | rfl | rfl | rfl | rfl | rfl | rfl | rfl | rfl | rfl | rfl | rfl | rfl | rfl | rfl | rfl | rfl | rfl | rfl | rfl | rfl | rfl | rfl | rfl | rfl | rfl | rfl | rfl | rfl | rfl | rfl | rfl | rfl | rfl | rfl | rfl | rfl | rfl | rfl | rfl | rfl
  · exact w_c0
  · exact w_c1
  · exact w_c2
  · exact w_c3
  · exact w_c4
  · exact w_c5
  · exact w_c6
  · exact w_c7
  · exact w_c8
  · exact w_c9
  · exact w_c10
  · exact w_c11
  · exact w_c12
  · exact w_c13
  · exact w_c14
  · exact w_c15
  · exact w_c16
  · exact w_c17
  · exact w_c18
  · exact w_c19
  · exact w_c20
  · exact w_c21
  · exact w_c22
  · exact w_c23
  · exact w_c24
  · exact w_c25
  · exact w_c26
  · exact w_c27
  · exact w_c28
  · exact w_c29
  · exact w_c30
  · exact w_c31
  · exact w_c32
  · exact w_c33
  · exact w_c34
  · exact w_c35
  · exact w_c36
  · exact w_c37
  · exact w_c38
  · exact w_c39
  · exact w_c40
  · exact w_c41
  · exact w_c42
  · exact w_c43
  · exact w_c44
  · exact w_c45
  · exact w_c46
set_option maxRecDepth 65536 in
theorem w_t1 : (words1.take 24).all (fun c => isCode c || c.before args0 about1) = true := by decide +kernel
set_option maxRecDepth 65536 in
theorem w_t2 : ((words1.drop 24).take 24).all (fun c => isCode c || c.before args0 about1) = true := by decide +kernel
set_option maxRecDepth 65536 in
theorem w_t3 : (((words1.drop 24).drop 24).take 24).all (fun c => isCode c || c.before args0 about1) = true := by decide +kernel
set_option maxRecDepth 65536 in
theorem w_t4 : ((((words1.drop 24).drop 24).drop 24).take 24).all (fun c => isCode c || c.before args0 about1) = true := by decide +kernel
set_option maxRecDepth 65536 in
theorem w_t5 : (((((words1.drop 24).drop 24).drop 24).drop 24).take 24).all (fun c => isCode c || c.before args0 about1) = true := by decide +kernel
set_option maxRecDepth 65536 in
theorem w_t6 : ((((((words1.drop 24).drop 24).drop 24).drop 24).drop 24).take 24).all (fun c => isCode c || c.before args0 about1) = true := by decide +kernel
set_option maxRecDepth 65536 in
theorem w_t7 : (((((((words1.drop 24).drop 24).drop 24).drop 24).drop 24).drop 24).take 24).all (fun c => isCode c || c.before args0 about1) = true := by decide +kernel
set_option maxRecDepth 65536 in
theorem w_t8 : ((((((((words1.drop 24).drop 24).drop 24).drop 24).drop 24).drop 24).drop 24).take 24).all (fun c => isCode c || c.before args0 about1) = true := by decide +kernel
set_option maxRecDepth 65536 in
theorem w_t9 : (((((((((words1.drop 24).drop 24).drop 24).drop 24).drop 24).drop 24).drop 24).drop 24).take 24).all (fun c => isCode c || c.before args0 about1) = true := by decide +kernel
set_option maxRecDepth 65536 in
theorem w_t10 : ((((((((((words1.drop 24).drop 24).drop 24).drop 24).drop 24).drop 24).drop 24).drop 24).drop 24).take 24).all (fun c => isCode c || c.before args0 about1) = true := by decide +kernel
set_option maxRecDepth 65536 in
theorem w_t11 : ((((((((((words1.drop 24).drop 24).drop 24).drop 24).drop 24).drop 24).drop 24).drop 24).drop 24).drop 24).all (fun c => isCode c || c.before args0 about1) = true := by decide +kernel
theorem w_tables : (allAtoms (Jvm.Cond.code x code maxLocals ret :: tables_1)).before args0 about1 = true := by
  rw [allAtoms_all]
  show words1.all (fun c => c.before args0 about1) = true
  refine all_split ?_ w_codes
  rw [← List.take_append_drop 24 words1, List.all_append, w_t1, ← List.take_append_drop 24 (words1.drop 24), List.all_append, w_t2, ← List.take_append_drop 24 ((words1.drop 24).drop 24), List.all_append, w_t3, ← List.take_append_drop 24 (((words1.drop 24).drop 24).drop 24), List.all_append, w_t4, ← List.take_append_drop 24 ((((words1.drop 24).drop 24).drop 24).drop 24), List.all_append, w_t5, ← List.take_append_drop 24 (((((words1.drop 24).drop 24).drop 24).drop 24).drop 24), List.all_append, w_t6, ← List.take_append_drop 24 ((((((words1.drop 24).drop 24).drop 24).drop 24).drop 24).drop 24), List.all_append, w_t7, ← List.take_append_drop 24 (((((((words1.drop 24).drop 24).drop 24).drop 24).drop 24).drop 24).drop 24), List.all_append, w_t8, ← List.take_append_drop 24 ((((((((words1.drop 24).drop 24).drop 24).drop 24).drop 24).drop 24).drop 24).drop 24), List.all_append, w_t9, ← List.take_append_drop 24 (((((((((words1.drop 24).drop 24).drop 24).drop 24).drop 24).drop 24).drop 24).drop 24).drop 24), List.all_append, w_t10, w_t11]
  rfl
set_option maxRecDepth 65536 in
theorem w_rest : rest_1_c.before args0 about1 = true := by decide +kernel
set_option maxRecDepth 65536 in
theorem w_case : (Jvm.Cond.and given_1 narrow_1).before args0 about1 = true := by decide +kernel
set_option maxRecDepth 65536 in
theorem w_consts : constsHeld consts_1 about1 := Jvm.Lit.constsHeldB_iff.mp (by decide +kernel)
theorem w_applies : (headSpec (Jvm.Cond.code x code maxLocals ret :: tables_1) room_1).applies x e0.platform about1 = true :=
  (Spec.applies_iff w_frames).mpr ⟨w_running, w_runnable, w_alone, w_named, w_hears, w_ripe, w_room, w_tables⟩
theorem atStart : AtStart classFile x code maxLocals ret World_1 tables_1 room_1 Calls_1 rest_1 Pre_1 launch0 p0 e0 about1 theMethod args0 below0 :=
  ⟨lists_1, trivial, launch0.admits_env _ _ _, launch0.least_env, fairChoices_fair.cas, fairChoices_fair.clock, w_frames, w_args, w_heap, w_applies, ⟨w_consts, trivial⟩, w_rest, w_case⟩
end start1
theorem witness_1 : WitnessClaimed_1 := ⟨start1.p0, start1.e0, start1.about1, start1.theMethod, start1.args0, start1.below0, start1.atStart⟩
end Jvm.Pilot.@@N@@
