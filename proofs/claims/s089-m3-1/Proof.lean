import JvmDerived
import JvmDerived.Pilot.@@N@@Statement
import JvmDerived.Pilot.@@N@@Code
set_option linter.unusedVariables false
set_option linter.unusedSimpArgs false
namespace Jvm.Pilot.@@N@@
open Jvm Jvm.ClassFile Sem Op Lib Jvm.Free Jvm.Stand Jvm.LawKit Jvm.RoadKit Bundle Jvm.Pilot.@@N@@.Jvm.D
section OwnKit
variable {p : Program} {l : Launch} {e : Env} {R : Room} {s : State} {m : MethodId} {args : Array Value} {below : List Frame} {meth : Method} {c : Code} {T : State} {locs : List Loc} {cells slots : Nat} {Z : State} {a0 : Array Value} {h : Heap} {n0 : Nat} {G : State → Outcome → Prop} {kc ks : Nat} {Q : Option Value → Heap → Prop}
/-- what is left of a walk: from U the body comes to an end of which G holds -/
def own_Go (tb : Tables) (e : Env) (below : List Frame) (G : State → Outcome → Prop) (U : State) : Prop := ∃ s₂ o, Steps tb e below U s₂ ∧ s₂.status = .running ∧ Ended s₂ below o ∧ G s₂ o
theorem own_go {tb : Tables} {U U' : State} (f : ∀ t, Steps tb e below U' t → Steps tb e below U t) (k : own_Go tb e below G U') : own_Go tb e below G U := by
  obtain ⟨a, b, c, d⟩ := k
  exact ⟨a, b, f _ c, d⟩
/-- where the run stands: its heap is h, nothing below n0 has been written -/
def own_At (p : Program) (l : Launch) (e : Env) (R : Room) (s : State) (m : MethodId) (args : Array Value) (below : List Frame) (meth : Method) (c : Code) (n0 : Nat) (T : State) (h : Heap) (cells slots : Nat) : Prop :=
  ∃ locs, Stand p l e R s m args below meth c T locs cells slots ∧ T.heap = h ∧ Fr n0 locs
theorem own_At.here (A : own_At p l e R s m args below meth c n0 T h cells slots) : At T m c below := by obtain ⟨_, X, -, -⟩ := A; exact X.here
theorem own_At.heap (A : own_At p l e R s m args below meth c n0 T h cells slots) : T.heap = h := by obtain ⟨_, -, q, -⟩ := A; exact q
/-- the end of a body: it returns v, Q holds of v and the heap -/
def own_End (n0 : Nat) (s : State) (kc ks : Nat) (Q : Option Value → Heap → Prop) : State → Outcome → Prop := fun s₂ o => ∃ v L, o = .returned v ∧ (Q v s₂.heap ∧ Fr n0 L) ∧ FrameEnd s o s₂ L kc ks
theorem own_leave (A : own_At p l e R s m args below meth c n0 T h cells slots) {v : Option Value} (hv : meth.sig.returnType = none → v = none) (hlk : meth.locks = false) (hc : cells ≤ kc) (hs : slots ≤ ks) (q : Q v h) {U : State}
    (st : ∀ locs, Stand p l e R s m args below meth c T locs cells slots → ∀ fs, (∀ (f : JFrame) (acts : List Action), f.method = m → f.locked = none → f.entered = [] → (doReturn e (T.setTop f) acts v).1 = T.setFrames fs) → Steps p.tables e below U (T.setFrames fs)) : own_Go p.tables e below (own_End n0 s kc ks Q) U := by
  obtain ⟨locs, X, rfl, N⟩ := A
  obtain ⟨fs, hr, hrun, hended, hW, hsame⟩ := X.leave hv hlk
  exact ⟨_, _, st locs X fs hr, hrun, hended, _, _, rfl, ⟨q, N⟩, ⟨_, rfl⟩, hW, hsame.mono hc hs⟩
theorem own_retI (A : own_At p l e R s m args below meth c n0 T h cells slots) (hx : p.tables.exec = Jvm.exec) (hret : meth.sig.returnType = some .int) (hlk : meth.locks = false) (hc : cells ≤ kc) (hs : slots ≤ ks) {pc : Nat} {Ls : Array Slot} {z : Int32} {rest : List Value} (hd : decode c.code pc = .ok (.ireturn, 1)) (q : Q (some (.int z)) h) :
    own_Go p.tables e below (own_End n0 s kc ks Q) (T.setTop (mkF m pc Ls (.int z :: rest))) :=
  own_leave A (fun q => by rw [hret] at q; cases q) hlk hc hs q fun _ X _ hr => retOut X hx hret rfl (Or.inl ⟨rfl, Or.inl rfl, _, rfl⟩) hd hr
theorem own_retN (A : own_At p l e R s m args below meth c n0 T h cells slots) (hx : p.tables.exec = Jvm.exec) {t : FieldType} (hret : meth.sig.returnType = some t) (ht : t = .boolean ∨ t = .byte ∨ t = .char ∨ t = .short) (hlk : meth.locks = false) (hc : cells ≤ kc) (hs : slots ≤ ks) {pc : Nat} {Ls : Array Slot} {z : Int32} {rest : List Value} (hd : decode c.code pc = .ok (.ireturn, 1)) (q : Q (some (.int (nar t z))) h) :
    own_Go p.tables e below (own_End n0 s kc ks Q) (T.setTop (mkF m pc Ls (.int z :: rest))) :=
  own_leave A (fun q => by rw [hret] at q; cases q) hlk hc hs q fun _ X _ hr => retN X hx hret ht hd hr
theorem own_retJ (A : own_At p l e R s m args below meth c n0 T h cells slots) (hx : p.tables.exec = Jvm.exec) (hret : meth.sig.returnType = some .long) (hlk : meth.locks = false) (hc : cells ≤ kc) (hs : slots ≤ ks) {pc : Nat} {Ls : Array Slot} {z : Int64} {rest : List Value} (hd : decode c.code pc = .ok (.lreturn, 1)) (q : Q (some (.long z)) h) :
    own_Go p.tables e below (own_End n0 s kc ks Q) (T.setTop (mkF m pc Ls (.long z :: rest))) :=
  own_leave A (fun q => by rw [hret] at q; cases q) hlk hc hs q fun _ X _ hr => retOut X hx hret rfl (Or.inr (Or.inl ⟨rfl, rfl, _, rfl⟩)) hd hr
theorem own_retD (A : own_At p l e R s m args below meth c n0 T h cells slots) (hx : p.tables.exec = Jvm.exec) (hret : meth.sig.returnType = some .double) (hlk : meth.locks = false) (hc : cells ≤ kc) (hs : slots ≤ ks) {pc : Nat} {Ls : Array Slot} {z : UInt64} {rest : List Value} (hd : decode c.code pc = .ok (.dreturn, 1)) (q : Q (some (.double z)) h) :
    own_Go p.tables e below (own_End n0 s kc ks Q) (T.setTop (mkF m pc Ls (.double z :: rest))) :=
  own_leave A (fun q => by rw [hret] at q; cases q) hlk hc hs q fun _ X _ hr => retOut X hx hret rfl (Or.inr (Or.inr (Or.inl ⟨rfl, rfl, _, rfl⟩))) hd hr
theorem own_retA (A : own_At p l e R s m args below meth c n0 T h cells slots) (hx : p.tables.exec = Jvm.exec) {t : FieldType} (hret : meth.sig.returnType = some t) (ht : t.isReference = true) (hlk : meth.locks = false) (hc : cells ≤ kc) (hs : slots ≤ ks) {pc : Nat} {Ls : Array Slot} {w : Value} (hw : w.isRef = true) {rest : List Value} (hd : decode c.code pc = .ok (.areturn, 1)) (q : Q (some w) h) :
    own_Go p.tables e below (own_End n0 s kc ks Q) (T.setTop (mkF m pc Ls (w :: rest))) :=
  own_leave A (fun q => by rw [hret] at q; cases q) hlk hc hs q fun _ X _ hr => retOut X hx hret (by cases t <;> first | rfl | cases ht) (Or.inr (Or.inr (Or.inr (Or.inr ⟨rfl, ht, hw⟩)))) hd hr
theorem own_retV (A : own_At p l e R s m args below meth c n0 T h cells slots) (hx : p.tables.exec = Jvm.exec) (hret : meth.sig.returnType = none) (hlk : meth.locks = false) (hc : cells ≤ kc) (hs : slots ≤ ks) {pc : Nat} {Ls : Array Slot} (hd : decode c.code pc = .ok (.return_, 1)) (q : Q none h) :
    own_Go p.tables e below (own_End n0 s kc ks Q) (T.setTop (mkF m pc Ls [])) :=
  own_leave A (fun _ => rfl) hlk hc hs q fun _ X _ hr => X.returnOut hx hret hd hr
/-- a body's contract: called with as' at the heap h0 it returns, and Q holds of what it returns and of the heap -/
def own_Met (l : Launch) (Z : State) (n0 : Nat) (y : MethodName) (bytes : ByteArray) (maxL : Nat) (ret : Option FieldType) (rm : Room) (as' : Array Value) (h0 : Heap) (Q : Option Value → Heap → Prop) : Prop :=
  ∀ ws, MetFree l y (head1 (Cond.code y bytes maxL ret :: ws) rm) (fun a U => a = as' ∧ Z.Warmed39 U.vm ∧ U.heap = h0) (fun _ _ _ _ _ => True) (fun _ U o U' => ∃ v L, o = .returned v ∧ (Q v U'.heap ∧ Fr n0 L) ∧ FrameEnd U o U' L rm.cells rm.slots)
theorem own_met {y : MethodName} {bytes : ByteArray} {maxL : Nat} {ret : Option FieldType} {rm : Room} {as' : Array Value} {h0 : Heap} (hp : plainFor y = true)
    (body : ∀ (p : Program) (e : Env) (s : State) (m : MethodId) (below : List Frame) (meth : Method) (c : Code) (T : State), p.tables.exec = Jvm.exec → c.code = bytes → c.maxLocals = maxL → s.vm.findClass y.cls = some m.cls → meth.name = y.name → meth.sig.returnType = ret → meth.locks = false → Z.Warmed39 s.vm →
      own_At p l e rm s m as' below meth c n0 T h0 0 0 → own_Go p.tables e below (own_End n0 s rm.cells rm.slots Q) (T.setTop (entryFrame m as' maxL))) : own_Met l Z n0 y bytes maxL ret rm as' h0 Q := by
  intro ws
  refine MetFree.of_bodySF hp hisR ?_
  intro p e s m args below meth c s₁ Bd hml0 hP hK
  obtain ⟨rfl, hZ, hh⟩ := hP
  exact body p e s m below meth c s₁ Bd.exec Bd.bytes hml0 (findClass_of_methodNamed Bd.named) (name_of_methodNamed Bd.named Bd.method).1 Bd.returns Bd.notSynchronized hZ ⟨[], Stand.of_body Bd, by rw [← hh, Bd.state]; rfl, Fr.nil n0⟩
theorem own_callS (A : own_At p l e R s m args below meth c n0 T h cells slots) (hx : p.tables.exec = Jvm.exec) (hZ : Z.Warmed39 s.vm) {own : String} {index : Nat} {y : MethodName} {bytes : ByteArray} {maxL : Nat} {ret : Option FieldType} (hown : s.vm.findClass own = some m.cls)
    (w1 : (Cond.methodLink own index y).before a0 Z = true) (w2 : (Cond.static y).before a0 Z = true) (w3 : (Cond.initialized y.cls).before a0 Z = true) (w4 : (Cond.code y bytes maxL ret).before a0 Z = true) (hy : y.cls ≠ "java/lang/invoke/MethodHandle" ∧ y.cls ≠ "java/lang/invoke/VarHandle")
    {rm : Room} {argsL rest : List Value} (hM : own_Met l Z n0 y bytes maxL ret rm argsL.toArray h Q) (W : Nat) (hfr : rm.frames + 1 ≤ R.frames) (hlo : W + (maxL + 11) + rm.locals ≤ R.locals) {g : JFrame} (hg : g.method = m) (hsize : g.locals.size = c.maxLocals)
    (hlen : ∀ sig, parseMethodDescriptor y.desc = some sig → argsL.length = sig.parameters.length) (hs : g.stack = argsL.reverse ++ rest) (hW : 2 * g.monitorRoom + (rest.map fun v => v.category).sum ≤ W) (hd : decode c.code g.pc = .ok (.invokestatic index, 3))
    (hc : cells + rm.cells ≤ R.cells) (hl : slots + rm.slots ≤ R.slots)
    (k : ∀ v T' h', own_At p l e R s m args below meth c n0 T' h' (cells + rm.cells) (slots + rm.slots) → Q v h' → own_Go p.tables e below G (T'.setTop { g with pc := g.pc + 3, stack := v.toList ++ rest })) : own_Go p.tables e below G (T.setTop g) := by
  obtain ⟨locs, X, eT, N⟩ := A
  obtain ⟨v, _, ⟨T1, L1, k1, s1⟩, -, X1, ⟨Lc, ⟨hQ, N1⟩, l1, y1, z1⟩, st⟩ := Jvm.LawKit.callS X hx (y := y) hown (mvT hZ w1) (mvT hZ w2) (mvT hZ w3) (mvT hZ w4) hy (backOf (Q := fun v h L => Q v h ∧ Fr n0 L) (W := W) (hM []) hZ w4 w3 hfr hlo) hg hsize (argsL := argsL) (rest := rest) hlen hs hW hd (fun _ _ => ⟨rfl, eT, hc, hl⟩)
  dsimp only [Pt.U, Pt.locs, Pt.cells, Pt.slots] at X1 l1 y1 z1 st hQ
  subst l1 y1 z1
  exact own_go (fun t k => st t k) (k v T1 T1.heap ⟨_, X1, rfl, N.app N1⟩ hQ)
theorem own_callV (A : own_At p l e R s m args below meth c n0 T h cells slots) (hx : p.tables.exec = Jvm.exec) (hZ : Z.Warmed39 s.vm) {own C : String} {index : Nat} {y z : MethodName} {bytes : ByteArray} {maxL : Nat} {ret : Option FieldType} (hown : s.vm.findClass own = some m.cls)
    (w1 : (Cond.methodLink own index y).before a0 Z = true) (w2 : (Cond.declares y).before a0 Z = true) (w3 : (Cond.selects C y z).before a0 Z = true) (w4 : (Cond.instanceMethod z).before a0 Z = true) (w5 : (Cond.initialized z.cls).before a0 Z = true) (w6 : (Cond.code z bytes maxL ret).before a0 Z = true) (nf : NotFace s y)
    (hy : y.cls ≠ "java/lang/invoke/MethodHandle" ∧ y.cls ≠ "java/lang/invoke/VarHandle")
    {rm : Room} {b : Addr} {argsL rest : List Value} (E : Exa Z h b C) (hM : own_Met l Z n0 z bytes maxL ret rm (.ref b :: argsL).toArray h Q) (W : Nat) (hfr : rm.frames + 1 ≤ R.frames) (hlo : W + (maxL + 11) + rm.locals ≤ R.locals) {g : JFrame} (hg : g.method = m) (hsize : g.locals.size = c.maxLocals)
    (hlen : ∀ sig, parseMethodDescriptor y.desc = some sig → argsL.length = sig.parameters.length) (hs : g.stack = argsL.reverse ++ .ref b :: rest) (hW : 2 * g.monitorRoom + (rest.map fun v => v.category).sum ≤ W) (hd : decode c.code g.pc = .ok (.invokevirtual index, 3))
    (hc : cells + rm.cells ≤ R.cells) (hl : slots + rm.slots ≤ R.slots)
    (k : ∀ v T' h', own_At p l e R s m args below meth c n0 T' h' (cells + rm.cells) (slots + rm.slots) → Q v h' → own_Go p.tables e below G (T'.setTop { g with pc := g.pc + 3, stack := v.toList ++ rest })) : own_Go p.tables e below G (T.setTop g) := by
  obtain ⟨locs, X, eT, N⟩ := A
  obtain ⟨cq, kq, qa, qb, qc⟩ := isOf hZ eT E
  obtain ⟨v, _, ⟨T1, L1, k1, s1⟩, -, X1, ⟨Lc, ⟨hQ, N1⟩, l1, y1, z1⟩, st⟩ := X.virtualBack hx (y := y) (z := z) hown (mvT hZ w1) (mvT hZ w2) nf (mvT hZ w3) (mvT hZ w4) hy (backOf (Q := fun v h L => Q v h ∧ Fr n0 L) (W := W) (hM []) hZ w6 w5 hfr hlo) qa qc hg hsize (Steps.refl _) (argsL := argsL) (rest := rest) hlen hs hW hd (fun _ _ => ⟨rfl, eT, hc, hl⟩)
  dsimp only [Pt.U, Pt.locs, Pt.cells, Pt.slots] at X1 l1 y1 z1 st hQ
  subst l1 y1 z1
  exact own_go (fun t k => st.trans k) (k v T1 T1.heap ⟨_, X1, rfl, N.app N1⟩ hQ)
theorem own_callI (A : own_At p l e R s m args below meth c n0 T h cells slots) (hx : p.tables.exec = Jvm.exec) (hZ : Z.Warmed39 s.vm) {own : String} {index : Nat} {y : MethodName} (hy1 : y.name = "<init>") {bytes : ByteArray} {maxL : Nat} (hown : s.vm.findClass own = some m.cls)
    (w1 : (Cond.methodLink own index y).before a0 Z = true) (w4 : (Cond.instanceMethod y).before a0 Z = true) (w5 : (Cond.initialized y.cls).before a0 Z = true) (w6 : (Cond.code y bytes maxL none).before a0 Z = true)
    (hy : y.cls ≠ "java/lang/invoke/MethodHandle" ∧ y.cls ≠ "java/lang/invoke/VarHandle")
    {rm : Room} {b : Addr} {argsL rest : List Value} (hM : own_Met l Z n0 y bytes maxL none rm (.ref b :: argsL).toArray h Q) (W : Nat) (hfr : rm.frames + 1 ≤ R.frames) (hlo : W + (maxL + 11) + rm.locals ≤ R.locals) {g : JFrame} (hg : g.method = m) (hsize : g.locals.size = c.maxLocals)
    (hlen : ∀ sig, parseMethodDescriptor y.desc = some sig → argsL.length = sig.parameters.length) (hs : g.stack = argsL.reverse ++ .ref b :: rest) (hW : 2 * g.monitorRoom + (rest.map fun v => v.category).sum ≤ W) (hd : decode c.code g.pc = .ok (.invokespecial index, 3))
    (hc : cells + rm.cells ≤ R.cells) (hl : slots + rm.slots ≤ R.slots)
    (k : ∀ v T' h', own_At p l e R s m args below meth c n0 T' h' (cells + rm.cells) (slots + rm.slots) → Q v h' → own_Go p.tables e below G (T'.setTop { g with pc := g.pc + 3, stack := v.toList ++ rest })) : own_Go p.tables e below G (T.setTop g) := by
  obtain ⟨locs, X, eT, N⟩ := A
  obtain ⟨v, _, ⟨T1, L1, k1, s1⟩, -, X1, ⟨Lc, ⟨hQ, N1⟩, l1, y1, z1⟩, st⟩ := X.specialBack hx (y := y) hy1 hown (mvT hZ w1) (mvT hZ w4) (mvT hZ w6) hy (backOf (Q := fun v h L => Q v h ∧ Fr n0 L) (W := W) (hM []) hZ w6 w5 hfr hlo) hg hsize (Steps.refl _) (a := b) (argsL := argsL) (rest := rest) hlen hs hW hd (fun _ _ => ⟨rfl, eT, hc, hl⟩)
  dsimp only [Pt.U, Pt.locs, Pt.cells, Pt.slots] at X1 l1 y1 z1 st hQ
  subst l1 y1 z1
  exact own_go (fun t k => st.trans k) (k v T1 T1.heap ⟨_, X1, rfl, N.app N1⟩ hQ)
theorem own_initO (A : own_At p l e R s m args below meth c n0 T h cells slots) (hx : p.tables.exec = Jvm.exec) (hZ : Z.Warmed39 s.vm) {own : String} {idx : Nat} (hown : s.vm.findClass own = some m.cls) (w1 : (Cond.methodLink own idx Lib.objectInit).before a0 Z = true) (w2 : (Cond.instanceMethod Lib.objectInit).before a0 Z = true)
    (w3 : (Cond.code Lib.objectInit ⟨#[0xb1]⟩ 1 none).before a0 Z = true) {g : JFrame} (hg : g.method = m) (hsize : g.locals.size = c.maxLocals) {a : Addr} {rest : List Value} (hs : g.stack = .ref a :: rest) (hd : decode c.code g.pc = .ok (.invokespecial idx, 3))
    (hf : 1 ≤ R.frames) (W : Nat) (hW : 2 * g.monitorRoom + (rest.map fun v => v.category).sum ≤ W) (hl : W + 12 ≤ R.locals)
    (k : ∀ T', own_At p l e R s m args below meth c n0 T' h cells slots → own_Go p.tables e below G (T'.setTop { g with pc := g.pc + 3, stack := rest })) : own_Go p.tables e below G (T.setTop g) := by
  obtain ⟨locs, X, eT, N⟩ := A
  obtain ⟨T1, X1, e1, st⟩ := initO X hx hZ hown w1 w2 w3 eT hg hsize hs hd hf hW hl
  exact own_go st (k T1 ⟨_, X1, e1, N⟩)
theorem own_getF (A : own_At p l e R s m args below meth c n0 T h cells slots) (hx : p.tables.exec = Jvm.exec) (hZ : Z.Warmed39 s.vm) {own R0 O n d host : String} {index : Nat} (hown : s.vm.findClass own = some m.cls) (w : (Cond.fieldLink own index R0 n d).before a0 Z = true ∨ (Cond.fieldLinkNest own index R0 n d host).before a0 Z = true) (via : Via Z R0 O n d)
    {a : Addr} {v : Value} (F : Fld Z h a O n d v) {g : JFrame} (hg : g.method = m) {rest : List Value} (hs : g.stack = .ref a :: rest) (hd : decode c.code g.pc = .ok (.getfield index, 3))
    (k : ∀ T', own_At p l e R s m args below meth c n0 T' h cells slots → own_Go p.tables e below G (T'.setTop { g with pc := g.pc + 3, stack := v :: rest })) : own_Go p.tables e below G (T.setTop g) := by
  obtain ⟨locs, X, eT, N⟩ := A
  obtain ⟨T1, X1, e1, st⟩ := getF X hx hZ hown w via eT F hg hs hd
  exact own_go st (k T1 ⟨_, X1, e1, N⟩)
theorem own_getS (A : own_At p l e R s m args below meth c n0 T h cells slots) (hx : p.tables.exec = Jvm.exec) (hZ : Z.Warmed39 s.vm) {own R0 O n d host : String} {index : Nat} (hown : s.vm.findClass own = some m.cls) (w : (Cond.fieldLink own index R0 n d).before a0 Z = true ∨ (Cond.fieldLinkNest own index R0 n d host).before a0 Z = true) (via : Via Z R0 O n d)
    {v : Value} (F : Sta Z h O n d v) {g : JFrame} (hg : g.method = m) (hd : decode c.code g.pc = .ok (.getstatic index, 3))
    (k : ∀ T', own_At p l e R s m args below meth c n0 T' h cells slots → own_Go p.tables e below G (T'.setTop { g with pc := g.pc + 3, stack := v :: g.stack })) : own_Go p.tables e below G (T.setTop g) := by
  obtain ⟨locs, X, eT, N⟩ := A
  obtain ⟨T1, X1, e1, st⟩ := getS2 X hx hZ hown w via eT F hg hd
  exact own_go st (k T1 ⟨_, X1, e1, N⟩)
theorem own_ldcI (A : own_At p l e R s m args below meth c n0 T h cells slots) (hx : p.tables.exec = Jvm.exec) (hZ : Z.Warmed39 s.vm) {own : String} {index : Nat} {v : Int32} (hown : s.vm.findClass own = some m.cls) (w : (Cond.constant own index v).before a0 Z = true) {g : JFrame} (hg : g.method = m) (hd : decode c.code g.pc = .ok (.ldc index, 2))
    (k : own_Go p.tables e below G (T.setTop { g with pc := g.pc + 2, stack := .int v :: g.stack })) : own_Go p.tables e below G (T.setTop g) := by
  obtain ⟨locs, X, eT, N⟩ := A
  exact own_go (X.ldcInt hx hown (mvT hZ w) hg hd) k
theorem own_ldcwI (A : own_At p l e R s m args below meth c n0 T h cells slots) (hx : p.tables.exec = Jvm.exec) (hZ : Z.Warmed39 s.vm) {own : String} {index : Nat} {v : Int32} (hown : s.vm.findClass own = some m.cls) (w : (Cond.constant own index v).before a0 Z = true) {g : JFrame} (hg : g.method = m) (hd : decode c.code g.pc = .ok (.ldc_w index, 3))
    (k : own_Go p.tables e below G (T.setTop { g with pc := g.pc + 3, stack := .int v :: g.stack })) : own_Go p.tables e below G (T.setTop g) := by
  obtain ⟨locs, X, eT, N⟩ := A
  exact own_go (X.ldcwInt hx hown (mvT hZ w) hg hd) k
theorem own_ldcJ (A : own_At p l e R s m args below meth c n0 T h cells slots) (hx : p.tables.exec = Jvm.exec) (hZ : Z.Warmed39 s.vm) {own : String} {index : Nat} {v : Int64} (hown : s.vm.findClass own = some m.cls) (w : (Cond.constantLong own index v).before a0 Z = true) {g : JFrame} (hg : g.method = m) (hd : decode c.code g.pc = .ok (.ldc2_w index, 3))
    (k : own_Go p.tables e below G (T.setTop { g with pc := g.pc + 3, stack := .long v :: g.stack })) : own_Go p.tables e below G (T.setTop g) := by
  obtain ⟨locs, X, eT, N⟩ := A
  exact own_go (X.ldc2Long hx hown (mvT hZ w) hg hd) k
/-- irem, with Java's sign -/
theorem own_irem {tb : Tables} [Ours tb] {target : State} {g : JFrame} (hh : At T m c below) (hx : tb.exec = Jvm.exec) (hg : g.method = m) {x y : Int32} {rest : List Value} (hd : decode c.code g.pc = .ok (.irem, 1)) (hs : g.stack = .int y :: .int x :: rest) (hy : y ≠ 0)
    (hr : Steps tb e below (T.setTop { g with pc := g.pc + 1, stack := .int (x % y) :: rest }) target) : Steps tb e below (T.setTop g) target :=
  XS.irem hh hx hg hd hs hy (by rw [irem_eq_mod]; exact hr)
theorem own_lrem {tb : Tables} [Ours tb] {target : State} {g : JFrame} (hh : At T m c below) (hx : tb.exec = Jvm.exec) (hg : g.method = m) {x y : Int64} {rest : List Value} (hd : decode c.code g.pc = .ok (.lrem, 1)) (hs : g.stack = .long y :: .long x :: rest) (hy : y ≠ 0)
    (hr : Steps tb e below (T.setTop { g with pc := g.pc + 1, stack := .long (x % y) :: rest }) target) : Steps tb e below (T.setTop g) target :=
  XS.lrem hh hx hg hd hs hy (by rw [lrem_mod]; exact hr)
theorem own_aeq {a b : Addr} (h : a = b) : if_acmp.holds .eq (some a) (some b) = true ∧ if_acmp.holds .ne (some a) (some b) = false := by simp [if_acmp.holds, h]
theorem own_ane {a b : Addr} (h : ¬ a = b) : if_acmp.holds .eq (some a) (some b) = false ∧ if_acmp.holds .ne (some a) (some b) = true := by simp [if_acmp.holds, h]
end OwnKit
section OwnSta
variable {s : State} {args : Array Value} {t : Term} {a : Addr} {C n d K : String} {w : Value}
theorem own_eqV {x y : Term} (hh : (Cond.eq x y).value args s none s [] = some true) (hy : y.eval args s none [] s = some w) : x.eval args s none [] s = some w := by
  cases hx : x.eval args s none [] s with
  | none => simp [Cond.value, hx] at hh
  | some v => cases v <;> cases w <;> simp [Cond.value, hx, hy] at hh ⊢ <;> exact hh
theorem own_sta (hh : (Cond.exactly (Term.static C n d) K).value args s none s [] = some true) (w1 : (Cond.initialized C).before args s = true) (w2 : (Cond.laysStatic C n d).before args s = true) :
    ∃ a, Sta s s.heap C n d (.ref a) ∧ Exa s s.heap a K ∧ (Term.static C n d).eval args s none [] s = some (.ref a) := by
  obtain ⟨a, ev⟩ := exa_v hh
  exact ⟨a, Sta.start ev (Or.inr ⟨w1, w2⟩), Exa.start ev hh, ev⟩
theorem own_fldS {y : Term} (hh : (Cond.eq (Term.field t C n d) y).value args s none s [] = some true) (ev : t.eval args s none [] s = some (.ref a)) (hy : y.eval args s none [] s = some w) : Fld s s.heap a C n d w := by
  have q := own_eqV hh hy
  rw [fld_at ev] at q
  exact Fld.start q
theorem own_baloadZ {p : Program} {l : Launch} {e : Env} {R : Room} {m : MethodId} {below : List Frame} {meth : Method} {c : Code} {T : State} {cells slots : Nat} {Z : State} {h : Heap} {n0 : Nat} {G : State → Outcome → Prop} (A : own_At p l e R s m args below meth c n0 T h cells slots) (hx : p.tables.exec = Jvm.exec) (hZ : Z.Warmed39 s.vm) {cl : Cell} {z j : Int32} (F : Tab Z h a cl .boolean z) (hj : ¬ j < 0 ∧ j < z) {g : JFrame} (hg : g.method = m) {rest : List Value} (hs : g.stack = .int j :: .ref a :: rest) (hd : decode c.code g.pc = .ok (.baload, 1))
    (k : own_Go p.tables e below G (T.setTop { g with pc := g.pc + 1, stack := .int (atv cl j) :: rest })) : own_Go p.tables e below G (T.setTop g) := by
  obtain ⟨locs, X, eT, N⟩ := A
  obtain ⟨A1, S1, -, H1⟩ := F
  have hin := inb_of S1 hj
  exact own_go (fun t k => X.baloadBooleans hx (by rw [eT]; exact A1.1) (State.isArrayOf_alike hZ.alike A1.2.1) A1.2.2 hin (H1 j hin) hg hs hd t k) k
end OwnSta
section OwnTab
variable {s : State} {args : Array Value} {t : Term} {w : Addr} {cl : Cell} {z lo hi v i : Int32}
theorem own_lenI (h : (Cond.eq (Term.length t) (Term.int z)).value args s none s [] = some true) (ev : t.eval args s none [] s = some (.ref w)) (hat : s.arrayAt? w = some cl) : cl.slots.size < 2 ^ 31 ∧ cl.slots.size.toInt32 = z := by
  have q := own_eqV h (Term.int_eval z)
  by_cases hl : cl.slots.size < 2 ^ 31
  · rw [len_f ev hat hl] at q
    exact ⟨hl, Value.int.inj (Option.some.inj q)⟩
  · simp [Term.eval, ev, hat, hl] at q
theorem own_allR (hat : s.arrayAt? w = some cl) (evI : ∀ idx, t.eval args s none idx s = some (.ref w)) (TB : Tab s s.heap w cl .boolean z) (h : (Cond.all t (Cond.or (Cond.lt (Term.index 0) (Term.int lo)) (Cond.or (Cond.le (Term.int hi) (Term.index 0)) (Cond.eq (Term.elem t (Term.index 0)) (Term.int v))))).value args s none s [] = some true) (j : Int32) (h0 : ¬ j < 0) (h1 : j < z) : j < lo ∨ ¬ j < hi ∨ atv cl j = v := by
  have hin := inb_of TB.2.1 ⟨h0, h1⟩
  have q := Cond.all_elim (evI []) hat h j.toNatClampNeg (Nat.lt_of_not_le fun y => hin (Or.inr y))
  exact or3 q (Cond.lt_ints (idx_at h0) (Term.int_eval lo)) (Cond.le_ints (Term.int_eval hi) (idx_at h0)) (Cond.eq_ints ((elem_f (evI _) (idx_at h0) hat h0).trans (TB.2.2.2 j hin)) (Term.int_eval v))
theorem own_allL (hat : s.arrayAt? w = some cl) (evI : ∀ idx, t.eval args s none idx s = some (.ref w)) (TB : Tab s s.heap w cl .boolean z) (h : (Cond.all t (Cond.or (Cond.le (Term.int hi) (Term.index 0)) (Cond.eq (Term.elem t (Term.index 0)) (Term.int v)))).value args s none s [] = some true) (j : Int32) (h0 : ¬ j < 0) (h1 : j < z) : hi ≤ j ∨ atv cl j = v := by
  have hin := inb_of TB.2.1 ⟨h0, h1⟩
  have q := Cond.all_elim (evI []) hat h j.toNatClampNeg (Nat.lt_of_not_le fun y => hin (Or.inr y))
  exact or_e2 (Cond.le_ints (Term.int_eval hi) (idx_at h0)) (Cond.eq_ints ((elem_f (evI _) (idx_at h0) hat h0).trans (TB.2.2.2 j hin)) (Term.int_eval v)) q
theorem own_allG (hat : s.arrayAt? w = some cl) (evI : ∀ idx, t.eval args s none idx s = some (.ref w)) (TB : Tab s s.heap w cl .boolean z) (h : (Cond.all t (Cond.or (Cond.lt (Term.index 0) (Term.int lo)) (Cond.eq (Term.elem t (Term.index 0)) (Term.int v)))).value args s none s [] = some true) (j : Int32) (h0 : ¬ j < 0) (h1 : j < z) : j < lo ∨ atv cl j = v := by
  have hin := inb_of TB.2.1 ⟨h0, h1⟩
  have q := Cond.all_elim (evI []) hat h j.toNatClampNeg (Nat.lt_of_not_le fun y => hin (Or.inr y))
  exact or_e2 (Cond.lt_ints (idx_at h0) (Term.int_eval lo)) (Cond.eq_ints ((elem_f (evI _) (idx_at h0) hat h0).trans (TB.2.2.2 j hin)) (Term.int_eval v)) q
theorem own_elt (evI : ∀ idx, t.eval args s none idx s = some (.ref w)) (hc : s.heap[w]? = some cl) (h : (Cond.eq (Term.elem t (Term.int i)) (Term.int v)).value args s none s [] = some true) : atv cl i = v :=
  atv_of (elem_in (own_eqV h (Term.int_eval v)) (evI []) (Term.int_eval i) hc).2
end OwnTab
theorem ef_1 (m : MethodId) (p0 : Int32) : entryFrame m #[(.int p0)] 1 = mkF m 0 #[.val (.int p0)] [] := by first | (simp [entryFrame, mkF, argsToLocals, Value.category]; done) | rfl
theorem pn_1 : plainName "com/example/vestledger/vestledger/SourceIsEmployerPinLaw" = true := by first | (simp [plainName, overriddenIn]; done) | decide +kernel
theorem d1_0 : decode method_2_code 0 = .ok (.iload_n 0, 1) := by decide +kernel
theorem d1_1 : decode method_2_code 1 = .ok (.ifCond .ne 7, 3) := by decide +kernel
theorem d1_4 : decode method_2_code 4 = .ok (.getstatic 7, 3) := by decide +kernel
theorem d1_7 : decode method_2_code 7 = .ok (.areturn, 1) := by decide +kernel
theorem d1_8 : decode method_2_code 8 = .ok (.iload_n 0, 1) := by decide +kernel
theorem d1_9 : decode method_2_code 9 = .ok (.iconst 1, 1) := by decide +kernel
theorem d1_10 : decode method_2_code 10 = .ok (.if_icmp .ne 7, 3) := by decide +kernel
theorem d1_13 : decode method_2_code 13 = .ok (.getstatic 13, 3) := by decide +kernel
theorem d1_16 : decode method_2_code 16 = .ok (.areturn, 1) := by decide +kernel
theorem d1_17 : decode method_2_code 17 = .ok (.iload_n 0, 1) := by decide +kernel
theorem d1_18 : decode method_2_code 18 = .ok (.iconst 2, 1) := by decide +kernel
theorem d1_19 : decode method_2_code 19 = .ok (.if_icmp .ne 7, 3) := by decide +kernel
theorem d1_22 : decode method_2_code 22 = .ok (.getstatic 16, 3) := by decide +kernel
theorem d1_25 : decode method_2_code 25 = .ok (.areturn, 1) := by decide +kernel
theorem d1_26 : decode method_2_code 26 = .ok (.iload_n 0, 1) := by decide +kernel
theorem d1_27 : decode method_2_code 27 = .ok (.iconst 3, 1) := by decide +kernel
theorem d1_28 : decode method_2_code 28 = .ok (.if_icmp .ne 7, 3) := by decide +kernel
theorem d1_31 : decode method_2_code 31 = .ok (.getstatic 19, 3) := by decide +kernel
theorem d1_34 : decode method_2_code 34 = .ok (.areturn, 1) := by decide +kernel
theorem d1_35 : decode method_2_code 35 = .ok (.iload_n 0, 1) := by decide +kernel
theorem d1_36 : decode method_2_code 36 = .ok (.iconst 4, 1) := by decide +kernel
theorem d1_37 : decode method_2_code 37 = .ok (.if_icmp .ne 7, 3) := by decide +kernel
theorem d1_40 : decode method_2_code 40 = .ok (.getstatic 22, 3) := by decide +kernel
theorem d1_43 : decode method_2_code 43 = .ok (.areturn, 1) := by decide +kernel
theorem d1_44 : decode method_2_code 44 = .ok (.iload_n 0, 1) := by decide +kernel
theorem d1_45 : decode method_2_code 45 = .ok (.iconst 5, 1) := by decide +kernel
theorem d1_46 : decode method_2_code 46 = .ok (.if_icmp .ne 7, 3) := by decide +kernel
theorem d1_49 : decode method_2_code 49 = .ok (.getstatic 25, 3) := by decide +kernel
theorem d1_52 : decode method_2_code 52 = .ok (.areturn, 1) := by decide +kernel
theorem d1_53 : decode method_2_code 53 = .ok (.iload_n 0, 1) := by decide +kernel
theorem d1_54 : decode method_2_code 54 = .ok (.bipush 6, 2) := by decide +kernel
theorem d1_56 : decode method_2_code 56 = .ok (.if_icmp .ne 7, 3) := by decide +kernel
theorem d1_59 : decode method_2_code 59 = .ok (.getstatic 28, 3) := by decide +kernel
theorem d1_62 : decode method_2_code 62 = .ok (.areturn, 1) := by decide +kernel
theorem d1_63 : decode method_2_code 63 = .ok (.getstatic 31, 3) := by decide +kernel
theorem d1_66 : decode method_2_code 66 = .ok (.areturn, 1) := by decide +kernel
def f1 (p0 : Int32) (s_BEFORE_TAX_BASIC : Addr) (s_BEFORE_TAX_SUPPLEMENTAL : Addr) (s_AFTER_TAX_BASIC : Addr) (s_AFTER_TAX_SUPPLEMENTAL : Addr) (s_COMPANY_MATCH : Addr) (s_EXCESS_CONTRIBUTION : Addr) (s_COMPENSATION_DEFERRAL : Addr) (s_FORFEITURES : Addr) : Addr := (if p0 = (0 : Int32) then s_BEFORE_TAX_BASIC else (if p0 = (1 : Int32) then s_BEFORE_TAX_SUPPLEMENTAL else (if p0 = (2 : Int32) then s_AFTER_TAX_BASIC else (if p0 = (3 : Int32) then s_AFTER_TAX_SUPPLEMENTAL else (if p0 = (4 : Int32) then s_COMPANY_MATCH else (if p0 = (5 : Int32) then s_EXCESS_CONTRIBUTION else (if p0 = (6 : Int32) then s_COMPENSATION_DEFERRAL else s_FORFEITURES)))))))
set_option maxRecDepth 65536 in
set_option maxHeartbeats 40000000 in
theorem rm1 (l : Launch) (Z : State) (a0 : Array Value) (hw : ∀ d ∈ tables_1, d.before a0 Z = true) (p0 : Int32) (s_BEFORE_TAX_BASIC : Addr) (s_BEFORE_TAX_SUPPLEMENTAL : Addr) (s_AFTER_TAX_BASIC : Addr) (s_AFTER_TAX_SUPPLEMENTAL : Addr) (s_COMPANY_MATCH : Addr) (s_EXCESS_CONTRIBUTION : Addr) (s_COMPENSATION_DEFERRAL : Addr) (s_FORFEITURES : Addr) (h0 : Heap) (n0 : Nat) (S_BEFORE_TAX_BASIC : Sta Z h0 "com/example/vestledger/vestledger/Source" "BEFORE_TAX_BASIC" "Lcom/example/vestledger/vestledger/Source;" (.ref s_BEFORE_TAX_BASIC)) (S_BEFORE_TAX_SUPPLEMENTAL : Sta Z h0 "com/example/vestledger/vestledger/Source" "BEFORE_TAX_SUPPLEMENTAL" "Lcom/example/vestledger/vestledger/Source;" (.ref s_BEFORE_TAX_SUPPLEMENTAL)) (S_AFTER_TAX_BASIC : Sta Z h0 "com/example/vestledger/vestledger/Source" "AFTER_TAX_BASIC" "Lcom/example/vestledger/vestledger/Source;" (.ref s_AFTER_TAX_BASIC)) (S_AFTER_TAX_SUPPLEMENTAL : Sta Z h0 "com/example/vestledger/vestledger/Source" "AFTER_TAX_SUPPLEMENTAL" "Lcom/example/vestledger/vestledger/Source;" (.ref s_AFTER_TAX_SUPPLEMENTAL)) (S_COMPANY_MATCH : Sta Z h0 "com/example/vestledger/vestledger/Source" "COMPANY_MATCH" "Lcom/example/vestledger/vestledger/Source;" (.ref s_COMPANY_MATCH)) (S_EXCESS_CONTRIBUTION : Sta Z h0 "com/example/vestledger/vestledger/Source" "EXCESS_CONTRIBUTION" "Lcom/example/vestledger/vestledger/Source;" (.ref s_EXCESS_CONTRIBUTION)) (S_COMPENSATION_DEFERRAL : Sta Z h0 "com/example/vestledger/vestledger/Source" "COMPENSATION_DEFERRAL" "Lcom/example/vestledger/vestledger/Source;" (.ref s_COMPENSATION_DEFERRAL)) (S_FORFEITURES : Sta Z h0 "com/example/vestledger/vestledger/Source" "FORFEITURES" "Lcom/example/vestledger/vestledger/Source;" (.ref s_FORFEITURES)) :
    own_Met l Z n0 (⟨"com/example/vestledger/vestledger/SourceIsEmployerPinLaw", "pick", "(I)Lcom/example/vestledger/vestledger/Source;"⟩ : MethodName) method_2_code 1 (some (.object "com/example/vestledger/vestledger/Source")) ({ frames := 0, cells := 0, slots := 0, locals := 0 } : Room) #[(.int p0)] h0 (fun v h => v = some (.ref (f1 p0 s_BEFORE_TAX_BASIC s_BEFORE_TAX_SUPPLEMENTAL s_AFTER_TAX_BASIC s_AFTER_TAX_SUPPLEMENTAL s_COMPANY_MATCH s_EXCESS_CONTRIBUTION s_COMPENSATION_DEFERRAL s_FORFEITURES)) ∧ h0 = h) := by
  refine own_met (plainFor_of_name pn_1) ?_
  intro p e s m below meth c T0 hx hby hml hown hnm hret hlk hZ A0
  rw [ef_1]
  show own_Go _ _ _ _ (T0.setTop (mkF m 0 #[.val (.int p0)] []))
  refine own_go (fun t k => XS.iloadN A0.here hx rfl (hb hby d1_0) rfl k) ?_
  show own_Go _ _ _ _ (T0.setTop (mkF m 1 #[.val (.int p0)] [(.int p0)]))
  by_cases hc1 : p0 = (0 : Int32)
  ·
    refine own_go (fun t k => XS.ifNo A0.here hx rfl (hb hby d1_1) rfl ((if0 _ _).trans (teq hc1).2) k) ?_
    show own_Go _ _ _ _ (T0.setTop (mkF m 4 #[.val (.int p0)] []))
    refine own_getS A0 hx hZ hown (host := "") (Or.inl (hw _ (List.mem_of_getElem? (i := 4) rfl))) Via.refl S_BEFORE_TAX_BASIC rfl (hb hby d1_4) (fun T2 A3 => ?_)
    show own_Go _ _ _ _ (T2.setTop (mkF m 7 #[.val (.int p0)] [(.ref s_BEFORE_TAX_BASIC)]))
    refine own_retA A3 hx hret rfl hlk (by decide) (by decide) rfl (hb hby d1_7) ?_
    exact ⟨congrArg (fun z => some (Value.ref z)) (by simp only [f1, if_pos hc1]), rfl⟩
  ·
    refine own_go (fun t k => XS.ifYes A0.here hx rfl (pc0 := 1) (pc' := 8) rfl (hb hby d1_1) rfl ((if0 _ _).trans (feq hc1).2) (by decide) (by decide) k) ?_
    show own_Go _ _ _ _ (T0.setTop (mkF m 8 #[.val (.int p0)] []))
    refine own_go (fun t k => XS.iloadN A0.here hx rfl (hb hby d1_8) rfl k) ?_
    show own_Go _ _ _ _ (T0.setTop (mkF m 9 #[.val (.int p0)] [(.int p0)]))
    refine own_go (fun t k => XS.iconst A0.here hx rfl (hb hby d1_9) k) ?_
    show own_Go _ _ _ _ (T0.setTop (mkF m 10 #[.val (.int p0)] [(.int (1 : Int32)), (.int p0)]))
    by_cases hc4 : p0 = (1 : Int32)
    ·
      refine own_go (fun t k => XS.icmpNo A0.here hx rfl (hb hby d1_10) rfl (teq hc4).2 k) ?_
      show own_Go _ _ _ _ (T0.setTop (mkF m 13 #[.val (.int p0)] []))
      refine own_getS A0 hx hZ hown (host := "") (Or.inl (hw _ (List.mem_of_getElem? (i := 31) rfl))) Via.refl S_BEFORE_TAX_SUPPLEMENTAL rfl (hb hby d1_13) (fun T5 A6 => ?_)
      show own_Go _ _ _ _ (T5.setTop (mkF m 16 #[.val (.int p0)] [(.ref s_BEFORE_TAX_SUPPLEMENTAL)]))
      refine own_retA A6 hx hret rfl hlk (by decide) (by decide) rfl (hb hby d1_16) ?_
      exact ⟨congrArg (fun z => some (Value.ref z)) (by simp only [f1, if_neg hc1, if_pos hc4]), rfl⟩
    ·
      refine own_go (fun t k => XS.icmpYes A0.here hx rfl (pc0 := 10) (pc' := 17) rfl (hb hby d1_10) rfl (feq hc4).2 (by decide) (by decide) k) ?_
      show own_Go _ _ _ _ (T0.setTop (mkF m 17 #[.val (.int p0)] []))
      refine own_go (fun t k => XS.iloadN A0.here hx rfl (hb hby d1_17) rfl k) ?_
      show own_Go _ _ _ _ (T0.setTop (mkF m 18 #[.val (.int p0)] [(.int p0)]))
      refine own_go (fun t k => XS.iconst A0.here hx rfl (hb hby d1_18) k) ?_
      show own_Go _ _ _ _ (T0.setTop (mkF m 19 #[.val (.int p0)] [(.int (2 : Int32)), (.int p0)]))
      by_cases hc7 : p0 = (2 : Int32)
      ·
        refine own_go (fun t k => XS.icmpNo A0.here hx rfl (hb hby d1_19) rfl (teq hc7).2 k) ?_
        show own_Go _ _ _ _ (T0.setTop (mkF m 22 #[.val (.int p0)] []))
        refine own_getS A0 hx hZ hown (host := "") (Or.inl (hw _ (List.mem_of_getElem? (i := 29) rfl))) Via.refl S_AFTER_TAX_BASIC rfl (hb hby d1_22) (fun T8 A9 => ?_)
        show own_Go _ _ _ _ (T8.setTop (mkF m 25 #[.val (.int p0)] [(.ref s_AFTER_TAX_BASIC)]))
        refine own_retA A9 hx hret rfl hlk (by decide) (by decide) rfl (hb hby d1_25) ?_
        exact ⟨congrArg (fun z => some (Value.ref z)) (by simp only [f1, if_neg hc1, if_neg hc4, if_pos hc7]), rfl⟩
      ·
        refine own_go (fun t k => XS.icmpYes A0.here hx rfl (pc0 := 19) (pc' := 26) rfl (hb hby d1_19) rfl (feq hc7).2 (by decide) (by decide) k) ?_
        show own_Go _ _ _ _ (T0.setTop (mkF m 26 #[.val (.int p0)] []))
        refine own_go (fun t k => XS.iloadN A0.here hx rfl (hb hby d1_26) rfl k) ?_
        show own_Go _ _ _ _ (T0.setTop (mkF m 27 #[.val (.int p0)] [(.int p0)]))
        refine own_go (fun t k => XS.iconst A0.here hx rfl (hb hby d1_27) k) ?_
        show own_Go _ _ _ _ (T0.setTop (mkF m 28 #[.val (.int p0)] [(.int (3 : Int32)), (.int p0)]))
        by_cases hc10 : p0 = (3 : Int32)
        ·
          refine own_go (fun t k => XS.icmpNo A0.here hx rfl (hb hby d1_28) rfl (teq hc10).2 k) ?_
          show own_Go _ _ _ _ (T0.setTop (mkF m 31 #[.val (.int p0)] []))
          refine own_getS A0 hx hZ hown (host := "") (Or.inl (hw _ (List.mem_of_getElem? (i := 20) rfl))) Via.refl S_AFTER_TAX_SUPPLEMENTAL rfl (hb hby d1_31) (fun T11 A12 => ?_)
          show own_Go _ _ _ _ (T11.setTop (mkF m 34 #[.val (.int p0)] [(.ref s_AFTER_TAX_SUPPLEMENTAL)]))
          refine own_retA A12 hx hret rfl hlk (by decide) (by decide) rfl (hb hby d1_34) ?_
          exact ⟨congrArg (fun z => some (Value.ref z)) (by simp only [f1, if_neg hc1, if_neg hc4, if_neg hc7, if_pos hc10]), rfl⟩
        ·
          refine own_go (fun t k => XS.icmpYes A0.here hx rfl (pc0 := 28) (pc' := 35) rfl (hb hby d1_28) rfl (feq hc10).2 (by decide) (by decide) k) ?_
          show own_Go _ _ _ _ (T0.setTop (mkF m 35 #[.val (.int p0)] []))
          refine own_go (fun t k => XS.iloadN A0.here hx rfl (hb hby d1_35) rfl k) ?_
          show own_Go _ _ _ _ (T0.setTop (mkF m 36 #[.val (.int p0)] [(.int p0)]))
          refine own_go (fun t k => XS.iconst A0.here hx rfl (hb hby d1_36) k) ?_
          show own_Go _ _ _ _ (T0.setTop (mkF m 37 #[.val (.int p0)] [(.int (4 : Int32)), (.int p0)]))
          by_cases hc13 : p0 = (4 : Int32)
          ·
            refine own_go (fun t k => XS.icmpNo A0.here hx rfl (hb hby d1_37) rfl (teq hc13).2 k) ?_
            show own_Go _ _ _ _ (T0.setTop (mkF m 40 #[.val (.int p0)] []))
            refine own_getS A0 hx hZ hown (host := "") (Or.inl (hw _ (List.mem_of_getElem? (i := 33) rfl))) Via.refl S_COMPANY_MATCH rfl (hb hby d1_40) (fun T14 A15 => ?_)
            show own_Go _ _ _ _ (T14.setTop (mkF m 43 #[.val (.int p0)] [(.ref s_COMPANY_MATCH)]))
            refine own_retA A15 hx hret rfl hlk (by decide) (by decide) rfl (hb hby d1_43) ?_
            exact ⟨congrArg (fun z => some (Value.ref z)) (by simp only [f1, if_neg hc1, if_neg hc4, if_neg hc7, if_neg hc10, if_pos hc13]), rfl⟩
          ·
            refine own_go (fun t k => XS.icmpYes A0.here hx rfl (pc0 := 37) (pc' := 44) rfl (hb hby d1_37) rfl (feq hc13).2 (by decide) (by decide) k) ?_
            show own_Go _ _ _ _ (T0.setTop (mkF m 44 #[.val (.int p0)] []))
            refine own_go (fun t k => XS.iloadN A0.here hx rfl (hb hby d1_44) rfl k) ?_
            show own_Go _ _ _ _ (T0.setTop (mkF m 45 #[.val (.int p0)] [(.int p0)]))
            refine own_go (fun t k => XS.iconst A0.here hx rfl (hb hby d1_45) k) ?_
            show own_Go _ _ _ _ (T0.setTop (mkF m 46 #[.val (.int p0)] [(.int (5 : Int32)), (.int p0)]))
            by_cases hc16 : p0 = (5 : Int32)
            ·
              refine own_go (fun t k => XS.icmpNo A0.here hx rfl (hb hby d1_46) rfl (teq hc16).2 k) ?_
              show own_Go _ _ _ _ (T0.setTop (mkF m 49 #[.val (.int p0)] []))
              refine own_getS A0 hx hZ hown (host := "") (Or.inl (hw _ (List.mem_of_getElem? (i := 35) rfl))) Via.refl S_EXCESS_CONTRIBUTION rfl (hb hby d1_49) (fun T17 A18 => ?_)
              show own_Go _ _ _ _ (T17.setTop (mkF m 52 #[.val (.int p0)] [(.ref s_EXCESS_CONTRIBUTION)]))
              refine own_retA A18 hx hret rfl hlk (by decide) (by decide) rfl (hb hby d1_52) ?_
              exact ⟨congrArg (fun z => some (Value.ref z)) (by simp only [f1, if_neg hc1, if_neg hc4, if_neg hc7, if_neg hc10, if_neg hc13, if_pos hc16]), rfl⟩
            ·
              refine own_go (fun t k => XS.icmpYes A0.here hx rfl (pc0 := 46) (pc' := 53) rfl (hb hby d1_46) rfl (feq hc16).2 (by decide) (by decide) k) ?_
              show own_Go _ _ _ _ (T0.setTop (mkF m 53 #[.val (.int p0)] []))
              refine own_go (fun t k => XS.iloadN A0.here hx rfl (hb hby d1_53) rfl k) ?_
              show own_Go _ _ _ _ (T0.setTop (mkF m 54 #[.val (.int p0)] [(.int p0)]))
              refine own_go (fun t k => XS.bipush A0.here hx rfl (hb hby d1_54) k) ?_
              show own_Go _ _ _ _ (T0.setTop (mkF m 56 #[.val (.int p0)] [(.int (6 : Int32)), (.int p0)]))
              by_cases hc19 : p0 = (6 : Int32)
              ·
                refine own_go (fun t k => XS.icmpNo A0.here hx rfl (hb hby d1_56) rfl (teq hc19).2 k) ?_
                show own_Go _ _ _ _ (T0.setTop (mkF m 59 #[.val (.int p0)] []))
                refine own_getS A0 hx hZ hown (host := "") (Or.inl (hw _ (List.mem_of_getElem? (i := 23) rfl))) Via.refl S_COMPENSATION_DEFERRAL rfl (hb hby d1_59) (fun T20 A21 => ?_)
                show own_Go _ _ _ _ (T20.setTop (mkF m 62 #[.val (.int p0)] [(.ref s_COMPENSATION_DEFERRAL)]))
                refine own_retA A21 hx hret rfl hlk (by decide) (by decide) rfl (hb hby d1_62) ?_
                exact ⟨congrArg (fun z => some (Value.ref z)) (by simp only [f1, if_neg hc1, if_neg hc4, if_neg hc7, if_neg hc10, if_neg hc13, if_neg hc16, if_pos hc19]), rfl⟩
              ·
                refine own_go (fun t k => XS.icmpYes A0.here hx rfl (pc0 := 56) (pc' := 63) rfl (hb hby d1_56) rfl (feq hc19).2 (by decide) (by decide) k) ?_
                show own_Go _ _ _ _ (T0.setTop (mkF m 63 #[.val (.int p0)] []))
                refine own_getS A0 hx hZ hown (host := "") (Or.inl (hw _ (List.mem_of_getElem? (i := 26) rfl))) Via.refl S_FORFEITURES rfl (hb hby d1_63) (fun T22 A23 => ?_)
                show own_Go _ _ _ _ (T22.setTop (mkF m 66 #[.val (.int p0)] [(.ref s_FORFEITURES)]))
                refine own_retA A23 hx hret rfl hlk (by decide) (by decide) rfl (hb hby d1_66) ?_
                exact ⟨congrArg (fun z => some (Value.ref z)) (by simp only [f1, if_neg hc1, if_neg hc4, if_neg hc7, if_neg hc10, if_neg hc13, if_neg hc16, if_neg hc19]), rfl⟩
theorem ef_2 (m : MethodId) (r0 : Addr) : entryFrame m #[(.ref r0)] 1 = mkF m 0 #[.val (.ref r0)] [] := by first | (simp [entryFrame, mkF, argsToLocals, Value.category]; done) | rfl
theorem pn_2 : plainName "com/example/vestledger/vestledger/Source" = true := by first | (simp [plainName, overriddenIn]; done) | decide +kernel
theorem d2_0 : decode prog_25_method_7_code 0 = .ok (.aload_n 0, 1) := by decide +kernel
theorem d2_1 : decode prog_25_method_7_code 1 = .ok (.getfield 51, 3) := by decide +kernel
theorem d2_4 : decode prog_25_method_7_code 4 = .ok (.getstatic 63, 3) := by decide +kernel
theorem d2_7 : decode prog_25_method_7_code 7 = .ok (.if_acmp .eq 13, 3) := by decide +kernel
theorem d2_20 : decode prog_25_method_7_code 20 = .ok (.iconst 1, 1) := by decide +kernel
theorem d2_21 : decode prog_25_method_7_code 21 = .ok (.goto 4, 3) := by decide +kernel
theorem d2_25 : decode prog_25_method_7_code 25 = .ok (.ireturn, 1) := by decide +kernel
theorem d2_10 : decode prog_25_method_7_code 10 = .ok (.aload_n 0, 1) := by decide +kernel
theorem d2_11 : decode prog_25_method_7_code 11 = .ok (.getfield 51, 3) := by decide +kernel
theorem d2_14 : decode prog_25_method_7_code 14 = .ok (.getstatic 66, 3) := by decide +kernel
theorem d2_17 : decode prog_25_method_7_code 17 = .ok (.if_acmp .ne 7, 3) := by decide +kernel
theorem d2_24 : decode prog_25_method_7_code 24 = .ok (.iconst 0, 1) := by decide +kernel
def f2 (w_kind_r0 : Addr) (s_MATCH : Addr) (s_EXCESS : Addr) : Int32 := (if w_kind_r0 = s_MATCH then (1 : Int32) else (nar .boolean (if w_kind_r0 = s_EXCESS then (1 : Int32) else (0 : Int32))))
set_option maxRecDepth 65536 in
set_option maxHeartbeats 40000000 in
theorem rm2 (l : Launch) (Z : State) (a0 : Array Value) (hw : ∀ d ∈ tables_1, d.before a0 Z = true) (r0 : Addr) (w_kind_r0 : Addr) (s_MATCH : Addr) (s_EXCESS : Addr) (h0 : Heap) (n0 : Nat) (F_kind_r0 : Fld Z h0 r0 "com/example/vestledger/vestledger/Source" "kind" "Lcom/example/vestledger/vestledger/Source$Kind;" (.ref w_kind_r0)) (S_MATCH : Sta Z h0 "com/example/vestledger/vestledger/Source$Kind" "MATCH" "Lcom/example/vestledger/vestledger/Source$Kind;" (.ref s_MATCH)) (S_EXCESS : Sta Z h0 "com/example/vestledger/vestledger/Source$Kind" "EXCESS" "Lcom/example/vestledger/vestledger/Source$Kind;" (.ref s_EXCESS)) :
    own_Met l Z n0 (⟨"com/example/vestledger/vestledger/Source", "isEmployer", "()Z"⟩ : MethodName) prog_25_method_7_code 1 (some .boolean) ({ frames := 0, cells := 0, slots := 0, locals := 0 } : Room) #[(.ref r0)] h0 (fun v h => v = some (.int (f2 w_kind_r0 s_MATCH s_EXCESS)) ∧ h0 = h) := by
  refine own_met (plainFor_of_name pn_2) ?_
  intro p e s m below meth c T0 hx hby hml hown hnm hret hlk hZ A0
  rw [ef_2]
  show own_Go _ _ _ _ (T0.setTop (mkF m 0 #[.val (.ref r0)] []))
  refine own_go (fun t k => XS.aloadN A0.here hx rfl (hb hby d2_0) rfl rfl k) ?_
  show own_Go _ _ _ _ (T0.setTop (mkF m 1 #[.val (.ref r0)] [(.ref r0)]))
  refine own_getF A0 hx hZ hown (host := "") (Or.inl (hw _ (List.mem_of_getElem? (i := 12) rfl))) Via.refl F_kind_r0 rfl rfl (hb hby d2_1) (fun T1 A2 => ?_)
  show own_Go _ _ _ _ (T1.setTop (mkF m 4 #[.val (.ref r0)] [(.ref w_kind_r0)]))
  refine own_getS A2 hx hZ hown (host := "") (Or.inl (hw _ (List.mem_of_getElem? (i := 16) rfl))) Via.refl S_MATCH rfl (hb hby d2_4) (fun T3 A4 => ?_)
  show own_Go _ _ _ _ (T3.setTop (mkF m 7 #[.val (.ref r0)] [(.ref s_MATCH), (.ref w_kind_r0)]))
  by_cases hc5 : w_kind_r0 = s_MATCH
  ·
    refine own_go (fun t k => XS.acmpYes A4.here hx rfl (pc0 := 7) (pc' := 20) rfl (hb hby d2_7) rfl (own_aeq hc5).1 (by decide) (by decide) k) ?_
    show own_Go _ _ _ _ (T3.setTop (mkF m 20 #[.val (.ref r0)] []))
    refine own_go (fun t k => XS.iconst A4.here hx rfl (hb hby d2_20) k) ?_
    show own_Go _ _ _ _ (T3.setTop (mkF m 21 #[.val (.ref r0)] [(.int (1 : Int32))]))
    refine own_go (fun t k => XS.goto A4.here hx rfl (pc0 := 21) (pc' := 25) rfl (hb hby d2_21) (by decide) (by decide) k) ?_
    show own_Go _ _ _ _ (T3.setTop (mkF m 25 #[.val (.ref r0)] [(.int (1 : Int32))]))
    refine own_retN A4 hx (t := .boolean) hret (by simp) hlk (by decide) (by decide) (hb hby d2_25) ?_
    exact ⟨congrArg (fun z => some (Value.int z)) (by simp only [f2, if_pos hc5] <;> rfl), rfl⟩
  ·
    refine own_go (fun t k => XS.acmpNo A4.here hx rfl (hb hby d2_7) rfl (own_ane hc5).1 k) ?_
    show own_Go _ _ _ _ (T3.setTop (mkF m 10 #[.val (.ref r0)] []))
    refine own_go (fun t k => XS.aloadN A4.here hx rfl (hb hby d2_10) rfl rfl k) ?_
    show own_Go _ _ _ _ (T3.setTop (mkF m 11 #[.val (.ref r0)] [(.ref r0)]))
    refine own_getF A4 hx hZ hown (host := "") (Or.inl (hw _ (List.mem_of_getElem? (i := 12) rfl))) Via.refl F_kind_r0 rfl rfl (hb hby d2_11) (fun T6 A7 => ?_)
    show own_Go _ _ _ _ (T6.setTop (mkF m 14 #[.val (.ref r0)] [(.ref w_kind_r0)]))
    refine own_getS A7 hx hZ hown (host := "") (Or.inl (hw _ (List.mem_of_getElem? (i := 18) rfl))) Via.refl S_EXCESS rfl (hb hby d2_14) (fun T8 A9 => ?_)
    show own_Go _ _ _ _ (T8.setTop (mkF m 17 #[.val (.ref r0)] [(.ref s_EXCESS), (.ref w_kind_r0)]))
    have mg10 : ∀ t, Steps p.tables e below (T8.setTop (mkF m 25 #[.val (.ref r0)] [(.int (if w_kind_r0 = s_EXCESS then (1 : Int32) else (0 : Int32)))])) t → Steps p.tables e below (T8.setTop (mkF m 17 #[.val (.ref r0)] [(.ref s_EXCESS), (.ref w_kind_r0)])) t := by
      intro t k
      by_cases hm17_0 : w_kind_r0 = s_EXCESS
      ·
        simp only [if_pos hm17_0] at k
        exact (XS.acmpNo A9.here hx rfl (hb hby d2_17) rfl (own_aeq hm17_0).2 (XS.iconst A9.here hx rfl (hb hby d2_20) (XS.goto A9.here hx rfl (pc0 := 21) (pc' := 25) rfl (hb hby d2_21) (by decide) (by decide) k)))
      ·
        simp only [if_neg hm17_0] at k
        exact (XS.acmpYes A9.here hx rfl (pc0 := 17) (pc' := 24) rfl (hb hby d2_17) rfl (own_ane hm17_0).2 (by decide) (by decide) (XS.iconst A9.here hx rfl (hb hby d2_24) k))
    refine own_go mg10 ?_
    show own_Go _ _ _ _ (T8.setTop (mkF m 25 #[.val (.ref r0)] [(.int (if w_kind_r0 = s_EXCESS then (1 : Int32) else (0 : Int32)))]))
    refine own_retN A9 hx (t := .boolean) hret (by simp) hlk (by decide) (by decide) (hb hby d2_25) ?_
    exact ⟨congrArg (fun z => some (Value.int z)) (by simp only [f2, if_neg hc5]), rfl⟩
theorem own_pickE {Z : State} {h0 : Heap} (p0 : Int32) (s_BEFORE_TAX_BASIC s_BEFORE_TAX_SUPPLEMENTAL s_AFTER_TAX_BASIC s_AFTER_TAX_SUPPLEMENTAL s_COMPANY_MATCH s_EXCESS_CONTRIBUTION s_COMPENSATION_DEFERRAL s_FORFEITURES : Addr) (E_BEFORE_TAX_BASIC : Exa Z h0 s_BEFORE_TAX_BASIC "com/example/vestledger/vestledger/Source") (E_BEFORE_TAX_SUPPLEMENTAL : Exa Z h0 s_BEFORE_TAX_SUPPLEMENTAL "com/example/vestledger/vestledger/Source") (E_AFTER_TAX_BASIC : Exa Z h0 s_AFTER_TAX_BASIC "com/example/vestledger/vestledger/Source") (E_AFTER_TAX_SUPPLEMENTAL : Exa Z h0 s_AFTER_TAX_SUPPLEMENTAL "com/example/vestledger/vestledger/Source") (E_COMPANY_MATCH : Exa Z h0 s_COMPANY_MATCH "com/example/vestledger/vestledger/Source") (E_EXCESS_CONTRIBUTION : Exa Z h0 s_EXCESS_CONTRIBUTION "com/example/vestledger/vestledger/Source") (E_COMPENSATION_DEFERRAL : Exa Z h0 s_COMPENSATION_DEFERRAL "com/example/vestledger/vestledger/Source") (E_FORFEITURES : Exa Z h0 s_FORFEITURES "com/example/vestledger/vestledger/Source") : Exa Z h0 (f1 p0 s_BEFORE_TAX_BASIC s_BEFORE_TAX_SUPPLEMENTAL s_AFTER_TAX_BASIC s_AFTER_TAX_SUPPLEMENTAL s_COMPANY_MATCH s_EXCESS_CONTRIBUTION s_COMPENSATION_DEFERRAL s_FORFEITURES) "com/example/vestledger/vestledger/Source" := by
  unfold f1
  repeat' split
  all_goals assumption
def own_kind (p0 : Int32) (s_BEFORE_TAX s_AFTER_TAX s_MATCH s_EXCESS s_DEFERRED s_PLAN : Addr) : Addr := (if p0 = (0 : Int32) then s_BEFORE_TAX else (if p0 = (1 : Int32) then s_BEFORE_TAX else (if p0 = (2 : Int32) then s_AFTER_TAX else (if p0 = (3 : Int32) then s_AFTER_TAX else (if p0 = (4 : Int32) then s_MATCH else (if p0 = (5 : Int32) then s_EXCESS else (if p0 = (6 : Int32) then s_DEFERRED else s_PLAN)))))))
theorem own_pickF {Z : State} {h0 : Heap} (p0 : Int32) (s_BEFORE_TAX_BASIC s_BEFORE_TAX_SUPPLEMENTAL s_AFTER_TAX_BASIC s_AFTER_TAX_SUPPLEMENTAL s_COMPANY_MATCH s_EXCESS_CONTRIBUTION s_COMPENSATION_DEFERRAL s_FORFEITURES : Addr) (s_BEFORE_TAX s_AFTER_TAX s_MATCH s_EXCESS s_DEFERRED s_PLAN : Addr) (F_kind_BEFORE_TAX_BASIC : Fld Z h0 s_BEFORE_TAX_BASIC "com/example/vestledger/vestledger/Source" "kind" "Lcom/example/vestledger/vestledger/Source$Kind;" (.ref s_BEFORE_TAX)) (F_kind_BEFORE_TAX_SUPPLEMENTAL : Fld Z h0 s_BEFORE_TAX_SUPPLEMENTAL "com/example/vestledger/vestledger/Source" "kind" "Lcom/example/vestledger/vestledger/Source$Kind;" (.ref s_BEFORE_TAX)) (F_kind_AFTER_TAX_BASIC : Fld Z h0 s_AFTER_TAX_BASIC "com/example/vestledger/vestledger/Source" "kind" "Lcom/example/vestledger/vestledger/Source$Kind;" (.ref s_AFTER_TAX)) (F_kind_AFTER_TAX_SUPPLEMENTAL : Fld Z h0 s_AFTER_TAX_SUPPLEMENTAL "com/example/vestledger/vestledger/Source" "kind" "Lcom/example/vestledger/vestledger/Source$Kind;" (.ref s_AFTER_TAX)) (F_kind_COMPANY_MATCH : Fld Z h0 s_COMPANY_MATCH "com/example/vestledger/vestledger/Source" "kind" "Lcom/example/vestledger/vestledger/Source$Kind;" (.ref s_MATCH)) (F_kind_EXCESS_CONTRIBUTION : Fld Z h0 s_EXCESS_CONTRIBUTION "com/example/vestledger/vestledger/Source" "kind" "Lcom/example/vestledger/vestledger/Source$Kind;" (.ref s_EXCESS)) (F_kind_COMPENSATION_DEFERRAL : Fld Z h0 s_COMPENSATION_DEFERRAL "com/example/vestledger/vestledger/Source" "kind" "Lcom/example/vestledger/vestledger/Source$Kind;" (.ref s_DEFERRED)) (F_kind_FORFEITURES : Fld Z h0 s_FORFEITURES "com/example/vestledger/vestledger/Source" "kind" "Lcom/example/vestledger/vestledger/Source$Kind;" (.ref s_PLAN)) : Fld Z h0 (f1 p0 s_BEFORE_TAX_BASIC s_BEFORE_TAX_SUPPLEMENTAL s_AFTER_TAX_BASIC s_AFTER_TAX_SUPPLEMENTAL s_COMPANY_MATCH s_EXCESS_CONTRIBUTION s_COMPENSATION_DEFERRAL s_FORFEITURES) "com/example/vestledger/vestledger/Source" "kind" "Lcom/example/vestledger/vestledger/Source$Kind;" (.ref (own_kind p0 s_BEFORE_TAX s_AFTER_TAX s_MATCH s_EXCESS s_DEFERRED s_PLAN)) := by
  unfold f1 own_kind
  repeat' split
  all_goals assumption
theorem ef_0 (m : MethodId) (p0 : Int32) : entryFrame m #[(.int p0)] maxLocals = mkF m 0 #[.val (.int p0), .unset, .unset, .unset] [] := by first | (simp [entryFrame, mkF, argsToLocals, Value.category, maxLocals]; done) | rfl
theorem pd__I_Lcom_example_vestledger_vestledger_Source_ : parseMethodDescriptor "(I)Lcom/example/vestledger/vestledger/Source;" = some ⟨[.int], some (.object "com/example/vestledger/vestledger/Source")⟩ := by decide +kernel
theorem pd___Z : parseMethodDescriptor "()Z" = some ⟨[], some .boolean⟩ := by decide +kernel
def f0 (p0 : Int32) (s_MATCH : Addr) (s_EXCESS : Addr) (s_BEFORE_TAX : Addr) (s_AFTER_TAX : Addr) (s_DEFERRED : Addr) (s_PLAN : Addr) : Int32 := (nar .boolean (if (f2 (own_kind (p0 &&& (7 : Int32)) s_BEFORE_TAX s_AFTER_TAX s_MATCH s_EXCESS s_DEFERRED s_PLAN) s_MATCH s_EXCESS) = (if (p0 &&& (7 : Int32)) = (4 : Int32) then (1 : Int32) else (if (p0 &&& (7 : Int32)) = (5 : Int32) then (1 : Int32) else (0 : Int32))) then (1 : Int32) else (0 : Int32)))
set_option maxRecDepth 65536 in
set_option maxHeartbeats 40000000 in
theorem rm0 (l : Launch) (Z : State) (a0 : Array Value) (hw : ∀ d ∈ tables_1, d.before a0 Z = true) (p0 : Int32) (s_BEFORE_TAX_BASIC : Addr) (s_BEFORE_TAX_SUPPLEMENTAL : Addr) (s_AFTER_TAX_BASIC : Addr) (s_AFTER_TAX_SUPPLEMENTAL : Addr) (s_COMPANY_MATCH : Addr) (s_EXCESS_CONTRIBUTION : Addr) (s_COMPENSATION_DEFERRAL : Addr) (s_FORFEITURES : Addr) (s_MATCH : Addr) (s_EXCESS : Addr) (s_BEFORE_TAX : Addr) (s_AFTER_TAX : Addr) (s_DEFERRED : Addr) (s_PLAN : Addr) (h0 : Heap) (n0 : Nat) (S_BEFORE_TAX_BASIC : Sta Z h0 "com/example/vestledger/vestledger/Source" "BEFORE_TAX_BASIC" "Lcom/example/vestledger/vestledger/Source;" (.ref s_BEFORE_TAX_BASIC)) (S_BEFORE_TAX_SUPPLEMENTAL : Sta Z h0 "com/example/vestledger/vestledger/Source" "BEFORE_TAX_SUPPLEMENTAL" "Lcom/example/vestledger/vestledger/Source;" (.ref s_BEFORE_TAX_SUPPLEMENTAL)) (S_AFTER_TAX_BASIC : Sta Z h0 "com/example/vestledger/vestledger/Source" "AFTER_TAX_BASIC" "Lcom/example/vestledger/vestledger/Source;" (.ref s_AFTER_TAX_BASIC)) (S_AFTER_TAX_SUPPLEMENTAL : Sta Z h0 "com/example/vestledger/vestledger/Source" "AFTER_TAX_SUPPLEMENTAL" "Lcom/example/vestledger/vestledger/Source;" (.ref s_AFTER_TAX_SUPPLEMENTAL)) (S_COMPANY_MATCH : Sta Z h0 "com/example/vestledger/vestledger/Source" "COMPANY_MATCH" "Lcom/example/vestledger/vestledger/Source;" (.ref s_COMPANY_MATCH)) (S_EXCESS_CONTRIBUTION : Sta Z h0 "com/example/vestledger/vestledger/Source" "EXCESS_CONTRIBUTION" "Lcom/example/vestledger/vestledger/Source;" (.ref s_EXCESS_CONTRIBUTION)) (S_COMPENSATION_DEFERRAL : Sta Z h0 "com/example/vestledger/vestledger/Source" "COMPENSATION_DEFERRAL" "Lcom/example/vestledger/vestledger/Source;" (.ref s_COMPENSATION_DEFERRAL)) (S_FORFEITURES : Sta Z h0 "com/example/vestledger/vestledger/Source" "FORFEITURES" "Lcom/example/vestledger/vestledger/Source;" (.ref s_FORFEITURES)) (S_MATCH : Sta Z h0 "com/example/vestledger/vestledger/Source$Kind" "MATCH" "Lcom/example/vestledger/vestledger/Source$Kind;" (.ref s_MATCH)) (S_EXCESS : Sta Z h0 "com/example/vestledger/vestledger/Source$Kind" "EXCESS" "Lcom/example/vestledger/vestledger/Source$Kind;" (.ref s_EXCESS)) (E_BEFORE_TAX_BASIC : Exa Z h0 s_BEFORE_TAX_BASIC "com/example/vestledger/vestledger/Source") (E_BEFORE_TAX_SUPPLEMENTAL : Exa Z h0 s_BEFORE_TAX_SUPPLEMENTAL "com/example/vestledger/vestledger/Source") (E_AFTER_TAX_BASIC : Exa Z h0 s_AFTER_TAX_BASIC "com/example/vestledger/vestledger/Source") (E_AFTER_TAX_SUPPLEMENTAL : Exa Z h0 s_AFTER_TAX_SUPPLEMENTAL "com/example/vestledger/vestledger/Source") (E_COMPANY_MATCH : Exa Z h0 s_COMPANY_MATCH "com/example/vestledger/vestledger/Source") (E_EXCESS_CONTRIBUTION : Exa Z h0 s_EXCESS_CONTRIBUTION "com/example/vestledger/vestledger/Source") (E_COMPENSATION_DEFERRAL : Exa Z h0 s_COMPENSATION_DEFERRAL "com/example/vestledger/vestledger/Source") (E_FORFEITURES : Exa Z h0 s_FORFEITURES "com/example/vestledger/vestledger/Source") (F_kind_BEFORE_TAX_BASIC : Fld Z h0 s_BEFORE_TAX_BASIC "com/example/vestledger/vestledger/Source" "kind" "Lcom/example/vestledger/vestledger/Source$Kind;" (.ref s_BEFORE_TAX)) (F_kind_BEFORE_TAX_SUPPLEMENTAL : Fld Z h0 s_BEFORE_TAX_SUPPLEMENTAL "com/example/vestledger/vestledger/Source" "kind" "Lcom/example/vestledger/vestledger/Source$Kind;" (.ref s_BEFORE_TAX)) (F_kind_AFTER_TAX_BASIC : Fld Z h0 s_AFTER_TAX_BASIC "com/example/vestledger/vestledger/Source" "kind" "Lcom/example/vestledger/vestledger/Source$Kind;" (.ref s_AFTER_TAX)) (F_kind_AFTER_TAX_SUPPLEMENTAL : Fld Z h0 s_AFTER_TAX_SUPPLEMENTAL "com/example/vestledger/vestledger/Source" "kind" "Lcom/example/vestledger/vestledger/Source$Kind;" (.ref s_AFTER_TAX)) (F_kind_COMPANY_MATCH : Fld Z h0 s_COMPANY_MATCH "com/example/vestledger/vestledger/Source" "kind" "Lcom/example/vestledger/vestledger/Source$Kind;" (.ref s_MATCH)) (F_kind_EXCESS_CONTRIBUTION : Fld Z h0 s_EXCESS_CONTRIBUTION "com/example/vestledger/vestledger/Source" "kind" "Lcom/example/vestledger/vestledger/Source$Kind;" (.ref s_EXCESS)) (F_kind_COMPENSATION_DEFERRAL : Fld Z h0 s_COMPENSATION_DEFERRAL "com/example/vestledger/vestledger/Source" "kind" "Lcom/example/vestledger/vestledger/Source$Kind;" (.ref s_DEFERRED)) (F_kind_FORFEITURES : Fld Z h0 s_FORFEITURES "com/example/vestledger/vestledger/Source" "kind" "Lcom/example/vestledger/vestledger/Source$Kind;" (.ref s_PLAN)) :
    own_Met l Z n0 x code maxLocals ret room_1 #[(.int p0)] h0 (fun v h => v = some (.int (f0 p0 s_MATCH s_EXCESS s_BEFORE_TAX s_AFTER_TAX s_DEFERRED s_PLAN)) ∧ h0 = h) := by
  refine own_met (plainFor_of_name pn_1) ?_
  intro p e s m below meth c T0 hx hby hml hown hnm hret hlk hZ A0
  have hret : meth.sig.returnType = some .boolean := hret
  rw [ef_0]
  show own_Go _ _ _ _ (T0.setTop (mkF m 0 #[.val (.int p0), .unset, .unset, .unset] []))
  refine own_go (fun t k => XS.iloadN A0.here hx rfl (hb hby at_0) rfl k) ?_
  show own_Go _ _ _ _ (T0.setTop (mkF m 1 #[.val (.int p0), .unset, .unset, .unset] [(.int p0)]))
  refine own_go (fun t k => XS.bipush A0.here hx rfl (hb hby at_1) k) ?_
  show own_Go _ _ _ _ (T0.setTop (mkF m 3 #[.val (.int p0), .unset, .unset, .unset] [(.int (7 : Int32)), (.int p0)]))
  refine own_go (fun t k => XS.iand A0.here hx rfl (hb hby at_3) rfl k) ?_
  show own_Go _ _ _ _ (T0.setTop (mkF m 4 #[.val (.int p0), .unset, .unset, .unset] [(.int (p0 &&& (7 : Int32)))]))
  refine own_go (fun t k => XS.istoreN A0.here hx rfl (hb hby at_4) rfl (l' := #[.val (.int p0), .val (.int (p0 &&& (7 : Int32))), .unset, .unset]) rfl k) ?_
  show own_Go _ _ _ _ (T0.setTop (mkF m 5 #[.val (.int p0), .val (.int (p0 &&& (7 : Int32))), .unset, .unset] []))
  refine own_go (fun t k => XS.iloadN A0.here hx rfl (hb hby at_5) rfl k) ?_
  show own_Go _ _ _ _ (T0.setTop (mkF m 6 #[.val (.int p0), .val (.int (p0 &&& (7 : Int32))), .unset, .unset] [(.int (p0 &&& (7 : Int32)))]))
  refine own_callS A0 hx hZ hown (y := (⟨"com/example/vestledger/vestledger/SourceIsEmployerPinLaw", "pick", "(I)Lcom/example/vestledger/vestledger/Source;"⟩ : MethodName)) (hw _ (List.mem_of_getElem? (i := 0) rfl)) (hw _ (List.mem_of_getElem? (i := 1) rfl)) (hw _ (List.mem_of_getElem? (i := 2) rfl)) (hw _ (List.mem_of_getElem? (i := 3) rfl)) (by decide) (argsL := [(.int (p0 &&& (7 : Int32)))]) (rest := []) (rm1 l Z a0 hw (p0 &&& (7 : Int32)) s_BEFORE_TAX_BASIC s_BEFORE_TAX_SUPPLEMENTAL s_AFTER_TAX_BASIC s_AFTER_TAX_SUPPLEMENTAL s_COMPANY_MATCH s_EXCESS_CONTRIBUTION s_COMPENSATION_DEFERRAL s_FORFEITURES h0 n0 S_BEFORE_TAX_BASIC S_BEFORE_TAX_SUPPLEMENTAL S_AFTER_TAX_BASIC S_AFTER_TAX_SUPPLEMENTAL S_COMPANY_MATCH S_EXCESS_CONTRIBUTION S_COMPENSATION_DEFERRAL S_FORFEITURES) 0 (by decide) (by decide) rfl (by rw [hml]; rfl) (lenOf pd__I_Lcom_example_vestledger_vestledger_Source_ rfl) rfl (by show 2 * 0 + _ ≤ _; exact Nat.le_of_eq rfl) (hb hby at_6) (by decide) (by decide) (fun v4 T1 h3 A2 hQ5 => ?_)
  obtain ⟨rfl, rfl⟩ := hQ5
  show own_Go _ _ _ _ (T1.setTop (mkF m 9 #[.val (.int p0), .val (.int (p0 &&& (7 : Int32))), .unset, .unset] [(.ref (f1 (p0 &&& (7 : Int32)) s_BEFORE_TAX_BASIC s_BEFORE_TAX_SUPPLEMENTAL s_AFTER_TAX_BASIC s_AFTER_TAX_SUPPLEMENTAL s_COMPANY_MATCH s_EXCESS_CONTRIBUTION s_COMPENSATION_DEFERRAL s_FORFEITURES))]))
  refine own_go (fun t k => XS.astoreN A2.here hx rfl (hb hby at_9) rfl rfl (l' := #[.val (.int p0), .val (.int (p0 &&& (7 : Int32))), .val (.ref (f1 (p0 &&& (7 : Int32)) s_BEFORE_TAX_BASIC s_BEFORE_TAX_SUPPLEMENTAL s_AFTER_TAX_BASIC s_AFTER_TAX_SUPPLEMENTAL s_COMPANY_MATCH s_EXCESS_CONTRIBUTION s_COMPENSATION_DEFERRAL s_FORFEITURES)), .unset]) rfl k) ?_
  show own_Go _ _ _ _ (T1.setTop (mkF m 10 #[.val (.int p0), .val (.int (p0 &&& (7 : Int32))), .val (.ref (f1 (p0 &&& (7 : Int32)) s_BEFORE_TAX_BASIC s_BEFORE_TAX_SUPPLEMENTAL s_AFTER_TAX_BASIC s_AFTER_TAX_SUPPLEMENTAL s_COMPANY_MATCH s_EXCESS_CONTRIBUTION s_COMPENSATION_DEFERRAL s_FORFEITURES)), .unset] []))
  refine own_go (fun t k => XS.iloadN A2.here hx rfl (hb hby at_10) rfl k) ?_
  show own_Go _ _ _ _ (T1.setTop (mkF m 11 #[.val (.int p0), .val (.int (p0 &&& (7 : Int32))), .val (.ref (f1 (p0 &&& (7 : Int32)) s_BEFORE_TAX_BASIC s_BEFORE_TAX_SUPPLEMENTAL s_AFTER_TAX_BASIC s_AFTER_TAX_SUPPLEMENTAL s_COMPANY_MATCH s_EXCESS_CONTRIBUTION s_COMPENSATION_DEFERRAL s_FORFEITURES)), .unset] [(.int (p0 &&& (7 : Int32)))]))
  refine own_go (fun t k => XS.iconst A2.here hx rfl (hb hby at_11) k) ?_
  show own_Go _ _ _ _ (T1.setTop (mkF m 12 #[.val (.int p0), .val (.int (p0 &&& (7 : Int32))), .val (.ref (f1 (p0 &&& (7 : Int32)) s_BEFORE_TAX_BASIC s_BEFORE_TAX_SUPPLEMENTAL s_AFTER_TAX_BASIC s_AFTER_TAX_SUPPLEMENTAL s_COMPANY_MATCH s_EXCESS_CONTRIBUTION s_COMPENSATION_DEFERRAL s_FORFEITURES)), .unset] [(.int (4 : Int32)), (.int (p0 &&& (7 : Int32)))]))
  have mg6 : ∀ t, Steps p.tables e below (T1.setTop (mkF m 25 #[.val (.int p0), .val (.int (p0 &&& (7 : Int32))), .val (.ref (f1 (p0 &&& (7 : Int32)) s_BEFORE_TAX_BASIC s_BEFORE_TAX_SUPPLEMENTAL s_AFTER_TAX_BASIC s_AFTER_TAX_SUPPLEMENTAL s_COMPANY_MATCH s_EXCESS_CONTRIBUTION s_COMPENSATION_DEFERRAL s_FORFEITURES)), .unset] [(.int (if (p0 &&& (7 : Int32)) = (4 : Int32) then (1 : Int32) else (if (p0 &&& (7 : Int32)) = (5 : Int32) then (1 : Int32) else (0 : Int32))))])) t → Steps p.tables e below (T1.setTop (mkF m 12 #[.val (.int p0), .val (.int (p0 &&& (7 : Int32))), .val (.ref (f1 (p0 &&& (7 : Int32)) s_BEFORE_TAX_BASIC s_BEFORE_TAX_SUPPLEMENTAL s_AFTER_TAX_BASIC s_AFTER_TAX_SUPPLEMENTAL s_COMPANY_MATCH s_EXCESS_CONTRIBUTION s_COMPENSATION_DEFERRAL s_FORFEITURES)), .unset] [(.int (4 : Int32)), (.int (p0 &&& (7 : Int32)))])) t := by
    intro t k
    by_cases hm12_0 : (p0 &&& (7 : Int32)) = (4 : Int32)
    ·
      simp only [if_pos hm12_0] at k
      exact (XS.icmpYes A2.here hx rfl (pc0 := 12) (pc' := 20) rfl (hb hby at_12) rfl (teq hm12_0).1 (by decide) (by decide) (XS.iconst A2.here hx rfl (hb hby at_20) (XS.goto A2.here hx rfl (pc0 := 21) (pc' := 25) rfl (hb hby at_21) (by decide) (by decide) k)))
    ·
      refine XS.icmpNo A2.here hx rfl (hb hby at_12) rfl (feq hm12_0).1 (XS.iloadN A2.here hx rfl (hb hby at_15) rfl (XS.iconst A2.here hx rfl (hb hby at_16) ?_))
      by_cases hm17_1 : (p0 &&& (7 : Int32)) = (5 : Int32)
      ·
        simp only [if_neg hm12_0, if_pos hm17_1] at k
        exact (XS.icmpNo A2.here hx rfl (hb hby at_17) rfl (teq hm17_1).2 (XS.iconst A2.here hx rfl (hb hby at_20) (XS.goto A2.here hx rfl (pc0 := 21) (pc' := 25) rfl (hb hby at_21) (by decide) (by decide) k)))
      ·
        simp only [if_neg hm12_0, if_neg hm17_1] at k
        exact (XS.icmpYes A2.here hx rfl (pc0 := 17) (pc' := 24) rfl (hb hby at_17) rfl (feq hm17_1).2 (by decide) (by decide) (XS.iconst A2.here hx rfl (hb hby at_24) k))
  refine own_go mg6 ?_
  show own_Go _ _ _ _ (T1.setTop (mkF m 25 #[.val (.int p0), .val (.int (p0 &&& (7 : Int32))), .val (.ref (f1 (p0 &&& (7 : Int32)) s_BEFORE_TAX_BASIC s_BEFORE_TAX_SUPPLEMENTAL s_AFTER_TAX_BASIC s_AFTER_TAX_SUPPLEMENTAL s_COMPANY_MATCH s_EXCESS_CONTRIBUTION s_COMPENSATION_DEFERRAL s_FORFEITURES)), .unset] [(.int (if (p0 &&& (7 : Int32)) = (4 : Int32) then (1 : Int32) else (if (p0 &&& (7 : Int32)) = (5 : Int32) then (1 : Int32) else (0 : Int32))))]))
  refine own_go (fun t k => XS.istoreN A2.here hx rfl (hb hby at_25) rfl (l' := #[.val (.int p0), .val (.int (p0 &&& (7 : Int32))), .val (.ref (f1 (p0 &&& (7 : Int32)) s_BEFORE_TAX_BASIC s_BEFORE_TAX_SUPPLEMENTAL s_AFTER_TAX_BASIC s_AFTER_TAX_SUPPLEMENTAL s_COMPANY_MATCH s_EXCESS_CONTRIBUTION s_COMPENSATION_DEFERRAL s_FORFEITURES)), .val (.int (if (p0 &&& (7 : Int32)) = (4 : Int32) then (1 : Int32) else (if (p0 &&& (7 : Int32)) = (5 : Int32) then (1 : Int32) else (0 : Int32))))]) rfl k) ?_
  show own_Go _ _ _ _ (T1.setTop (mkF m 26 #[.val (.int p0), .val (.int (p0 &&& (7 : Int32))), .val (.ref (f1 (p0 &&& (7 : Int32)) s_BEFORE_TAX_BASIC s_BEFORE_TAX_SUPPLEMENTAL s_AFTER_TAX_BASIC s_AFTER_TAX_SUPPLEMENTAL s_COMPANY_MATCH s_EXCESS_CONTRIBUTION s_COMPENSATION_DEFERRAL s_FORFEITURES)), .val (.int (if (p0 &&& (7 : Int32)) = (4 : Int32) then (1 : Int32) else (if (p0 &&& (7 : Int32)) = (5 : Int32) then (1 : Int32) else (0 : Int32))))] []))
  refine own_go (fun t k => XS.aloadN A2.here hx rfl (hb hby at_26) rfl rfl k) ?_
  show own_Go _ _ _ _ (T1.setTop (mkF m 27 #[.val (.int p0), .val (.int (p0 &&& (7 : Int32))), .val (.ref (f1 (p0 &&& (7 : Int32)) s_BEFORE_TAX_BASIC s_BEFORE_TAX_SUPPLEMENTAL s_AFTER_TAX_BASIC s_AFTER_TAX_SUPPLEMENTAL s_COMPANY_MATCH s_EXCESS_CONTRIBUTION s_COMPENSATION_DEFERRAL s_FORFEITURES)), .val (.int (if (p0 &&& (7 : Int32)) = (4 : Int32) then (1 : Int32) else (if (p0 &&& (7 : Int32)) = (5 : Int32) then (1 : Int32) else (0 : Int32))))] [(.ref (f1 (p0 &&& (7 : Int32)) s_BEFORE_TAX_BASIC s_BEFORE_TAX_SUPPLEMENTAL s_AFTER_TAX_BASIC s_AFTER_TAX_SUPPLEMENTAL s_COMPANY_MATCH s_EXCESS_CONTRIBUTION s_COMPENSATION_DEFERRAL s_FORFEITURES))]))
  refine own_callV A2 hx hZ (y := (⟨"com/example/vestledger/vestledger/Source", "isEmployer", "()Z"⟩ : MethodName)) (z := (⟨"com/example/vestledger/vestledger/Source", "isEmployer", "()Z"⟩ : MethodName)) hown (hw _ (List.mem_of_getElem? (i := 7) rfl)) (hw _ (List.mem_of_getElem? (i := 8) rfl)) (hw _ (List.mem_of_getElem? (i := 10) rfl)) (hw _ (List.mem_of_getElem? (i := 9) rfl)) (hw _ (List.mem_of_getElem? (i := 5) rfl)) (hw _ (List.mem_of_getElem? (i := 11) rfl)) (notFace_of_selects (args := #[]) (mvT hZ (hw _ (List.mem_of_getElem? (i := 10) rfl)))) (by decide) (b := (f1 (p0 &&& (7 : Int32)) s_BEFORE_TAX_BASIC s_BEFORE_TAX_SUPPLEMENTAL s_AFTER_TAX_BASIC s_AFTER_TAX_SUPPLEMENTAL s_COMPANY_MATCH s_EXCESS_CONTRIBUTION s_COMPENSATION_DEFERRAL s_FORFEITURES)) (argsL := []) (rest := []) (own_pickE (p0 &&& (7 : Int32)) s_BEFORE_TAX_BASIC s_BEFORE_TAX_SUPPLEMENTAL s_AFTER_TAX_BASIC s_AFTER_TAX_SUPPLEMENTAL s_COMPANY_MATCH s_EXCESS_CONTRIBUTION s_COMPENSATION_DEFERRAL s_FORFEITURES E_BEFORE_TAX_BASIC E_BEFORE_TAX_SUPPLEMENTAL E_AFTER_TAX_BASIC E_AFTER_TAX_SUPPLEMENTAL E_COMPANY_MATCH E_EXCESS_CONTRIBUTION E_COMPENSATION_DEFERRAL E_FORFEITURES) (rm2 l Z a0 hw (f1 (p0 &&& (7 : Int32)) s_BEFORE_TAX_BASIC s_BEFORE_TAX_SUPPLEMENTAL s_AFTER_TAX_BASIC s_AFTER_TAX_SUPPLEMENTAL s_COMPANY_MATCH s_EXCESS_CONTRIBUTION s_COMPENSATION_DEFERRAL s_FORFEITURES) (own_kind (p0 &&& (7 : Int32)) s_BEFORE_TAX s_AFTER_TAX s_MATCH s_EXCESS s_DEFERRED s_PLAN) s_MATCH s_EXCESS h0 n0 (own_pickF (p0 &&& (7 : Int32)) s_BEFORE_TAX_BASIC s_BEFORE_TAX_SUPPLEMENTAL s_AFTER_TAX_BASIC s_AFTER_TAX_SUPPLEMENTAL s_COMPANY_MATCH s_EXCESS_CONTRIBUTION s_COMPENSATION_DEFERRAL s_FORFEITURES s_BEFORE_TAX s_AFTER_TAX s_MATCH s_EXCESS s_DEFERRED s_PLAN F_kind_BEFORE_TAX_BASIC F_kind_BEFORE_TAX_SUPPLEMENTAL F_kind_AFTER_TAX_BASIC F_kind_AFTER_TAX_SUPPLEMENTAL F_kind_COMPANY_MATCH F_kind_EXCESS_CONTRIBUTION F_kind_COMPENSATION_DEFERRAL F_kind_FORFEITURES) S_MATCH S_EXCESS) 0 (by decide) (by decide) rfl (by rw [hml]; rfl) (lenOf pd___Z rfl) rfl (by show 2 * 0 + _ ≤ _; exact Nat.le_of_eq rfl) (hb hby at_27) (by decide) (by decide) (fun v10 T7 h9 A8 hQ11 => ?_)
  obtain ⟨rfl, rfl⟩ := hQ11
  show own_Go _ _ _ _ (T7.setTop (mkF m 30 #[.val (.int p0), .val (.int (p0 &&& (7 : Int32))), .val (.ref (f1 (p0 &&& (7 : Int32)) s_BEFORE_TAX_BASIC s_BEFORE_TAX_SUPPLEMENTAL s_AFTER_TAX_BASIC s_AFTER_TAX_SUPPLEMENTAL s_COMPANY_MATCH s_EXCESS_CONTRIBUTION s_COMPENSATION_DEFERRAL s_FORFEITURES)), .val (.int (if (p0 &&& (7 : Int32)) = (4 : Int32) then (1 : Int32) else (if (p0 &&& (7 : Int32)) = (5 : Int32) then (1 : Int32) else (0 : Int32))))] [(.int (f2 (own_kind (p0 &&& (7 : Int32)) s_BEFORE_TAX s_AFTER_TAX s_MATCH s_EXCESS s_DEFERRED s_PLAN) s_MATCH s_EXCESS))]))
  refine own_go (fun t k => XS.iloadN A8.here hx rfl (hb hby at_30) rfl k) ?_
  show own_Go _ _ _ _ (T7.setTop (mkF m 31 #[.val (.int p0), .val (.int (p0 &&& (7 : Int32))), .val (.ref (f1 (p0 &&& (7 : Int32)) s_BEFORE_TAX_BASIC s_BEFORE_TAX_SUPPLEMENTAL s_AFTER_TAX_BASIC s_AFTER_TAX_SUPPLEMENTAL s_COMPANY_MATCH s_EXCESS_CONTRIBUTION s_COMPENSATION_DEFERRAL s_FORFEITURES)), .val (.int (if (p0 &&& (7 : Int32)) = (4 : Int32) then (1 : Int32) else (if (p0 &&& (7 : Int32)) = (5 : Int32) then (1 : Int32) else (0 : Int32))))] [(.int (if (p0 &&& (7 : Int32)) = (4 : Int32) then (1 : Int32) else (if (p0 &&& (7 : Int32)) = (5 : Int32) then (1 : Int32) else (0 : Int32)))), (.int (f2 (own_kind (p0 &&& (7 : Int32)) s_BEFORE_TAX s_AFTER_TAX s_MATCH s_EXCESS s_DEFERRED s_PLAN) s_MATCH s_EXCESS))]))
  have mg12 : ∀ t, Steps p.tables e below (T7.setTop (mkF m 39 #[.val (.int p0), .val (.int (p0 &&& (7 : Int32))), .val (.ref (f1 (p0 &&& (7 : Int32)) s_BEFORE_TAX_BASIC s_BEFORE_TAX_SUPPLEMENTAL s_AFTER_TAX_BASIC s_AFTER_TAX_SUPPLEMENTAL s_COMPANY_MATCH s_EXCESS_CONTRIBUTION s_COMPENSATION_DEFERRAL s_FORFEITURES)), .val (.int (if (p0 &&& (7 : Int32)) = (4 : Int32) then (1 : Int32) else (if (p0 &&& (7 : Int32)) = (5 : Int32) then (1 : Int32) else (0 : Int32))))] [(.int (if (f2 (own_kind (p0 &&& (7 : Int32)) s_BEFORE_TAX s_AFTER_TAX s_MATCH s_EXCESS s_DEFERRED s_PLAN) s_MATCH s_EXCESS) = (if (p0 &&& (7 : Int32)) = (4 : Int32) then (1 : Int32) else (if (p0 &&& (7 : Int32)) = (5 : Int32) then (1 : Int32) else (0 : Int32))) then (1 : Int32) else (0 : Int32)))])) t → Steps p.tables e below (T7.setTop (mkF m 31 #[.val (.int p0), .val (.int (p0 &&& (7 : Int32))), .val (.ref (f1 (p0 &&& (7 : Int32)) s_BEFORE_TAX_BASIC s_BEFORE_TAX_SUPPLEMENTAL s_AFTER_TAX_BASIC s_AFTER_TAX_SUPPLEMENTAL s_COMPANY_MATCH s_EXCESS_CONTRIBUTION s_COMPENSATION_DEFERRAL s_FORFEITURES)), .val (.int (if (p0 &&& (7 : Int32)) = (4 : Int32) then (1 : Int32) else (if (p0 &&& (7 : Int32)) = (5 : Int32) then (1 : Int32) else (0 : Int32))))] [(.int (if (p0 &&& (7 : Int32)) = (4 : Int32) then (1 : Int32) else (if (p0 &&& (7 : Int32)) = (5 : Int32) then (1 : Int32) else (0 : Int32)))), (.int (f2 (own_kind (p0 &&& (7 : Int32)) s_BEFORE_TAX s_AFTER_TAX s_MATCH s_EXCESS s_DEFERRED s_PLAN) s_MATCH s_EXCESS))])) t := by
    intro t k
    by_cases hm31_0 : (f2 (own_kind (p0 &&& (7 : Int32)) s_BEFORE_TAX s_AFTER_TAX s_MATCH s_EXCESS s_DEFERRED s_PLAN) s_MATCH s_EXCESS) = (if (p0 &&& (7 : Int32)) = (4 : Int32) then (1 : Int32) else (if (p0 &&& (7 : Int32)) = (5 : Int32) then (1 : Int32) else (0 : Int32)))
    ·
      simp only [if_pos hm31_0] at k
      exact (XS.icmpNo A8.here hx rfl (hb hby at_31) rfl (teq hm31_0).2 (XS.iconst A8.here hx rfl (hb hby at_34) (XS.goto A8.here hx rfl (pc0 := 35) (pc' := 39) rfl (hb hby at_35) (by decide) (by decide) k)))
    ·
      simp only [if_neg hm31_0] at k
      exact (XS.icmpYes A8.here hx rfl (pc0 := 31) (pc' := 38) rfl (hb hby at_31) rfl (feq hm31_0).2 (by decide) (by decide) (XS.iconst A8.here hx rfl (hb hby at_38) k))
  refine own_go mg12 ?_
  show own_Go _ _ _ _ (T7.setTop (mkF m 39 #[.val (.int p0), .val (.int (p0 &&& (7 : Int32))), .val (.ref (f1 (p0 &&& (7 : Int32)) s_BEFORE_TAX_BASIC s_BEFORE_TAX_SUPPLEMENTAL s_AFTER_TAX_BASIC s_AFTER_TAX_SUPPLEMENTAL s_COMPANY_MATCH s_EXCESS_CONTRIBUTION s_COMPENSATION_DEFERRAL s_FORFEITURES)), .val (.int (if (p0 &&& (7 : Int32)) = (4 : Int32) then (1 : Int32) else (if (p0 &&& (7 : Int32)) = (5 : Int32) then (1 : Int32) else (0 : Int32))))] [(.int (if (f2 (own_kind (p0 &&& (7 : Int32)) s_BEFORE_TAX s_AFTER_TAX s_MATCH s_EXCESS s_DEFERRED s_PLAN) s_MATCH s_EXCESS) = (if (p0 &&& (7 : Int32)) = (4 : Int32) then (1 : Int32) else (if (p0 &&& (7 : Int32)) = (5 : Int32) then (1 : Int32) else (0 : Int32))) then (1 : Int32) else (0 : Int32)))]))
  refine own_retN A8 hx (t := .boolean) hret (by simp) hlk (by decide) (by decide) (hb hby at_39) ?_
  exact ⟨rfl, rfl⟩
theorem own_small (x : Int32) (n : Nat) (h0 : 0 ≤ x.toInt) (h : x.toInt < n) : ∃ k : Nat, k < n ∧ x = Int32.ofNat k := by
  refine ⟨x.toInt.toNat, by omega, ?_⟩
  apply Int32.toInt_inj.mp
  have h2 := x.toInt_lt
  have h3 : (Int32.ofNat x.toInt.toNat).toInt = ((x.toInt.toNat : Nat) : Int) := Int32.toInt_ofNat_small (by omega)
  rw [h3]
  omega
theorem own_f2no (k a b : Addr) (h1 : k ≠ a) (h2 : k ≠ b) : f2 k a b = 0 := by
  unfold f2
  rw [if_neg h1, if_neg h2]
  rfl
theorem own_f2a (a b : Addr) : f2 a a b = 1 := by
  unfold f2
  rw [if_pos rfl]
theorem own_f2b (a b : Addr) : f2 b a b = 1 := by
  unfold f2
  by_cases h : b = a
  · rw [if_pos h]
  · rw [if_neg h, if_pos rfl]
    rfl
set_option maxHeartbeats 4000000 in
theorem law_true (i0 : Int32) (s_BEFORE_TAX_BASIC s_BEFORE_TAX_SUPPLEMENTAL s_AFTER_TAX_BASIC s_AFTER_TAX_SUPPLEMENTAL s_COMPANY_MATCH s_EXCESS_CONTRIBUTION s_COMPENSATION_DEFERRAL s_FORFEITURES s_MATCH s_EXCESS s_BEFORE_TAX s_AFTER_TAX s_DEFERRED s_PLAN : Addr) (n_BEFORE_TAX_MATCH : s_BEFORE_TAX ≠ s_MATCH) (n_BEFORE_TAX_EXCESS : s_BEFORE_TAX ≠ s_EXCESS) (n_AFTER_TAX_MATCH : s_AFTER_TAX ≠ s_MATCH) (n_AFTER_TAX_EXCESS : s_AFTER_TAX ≠ s_EXCESS) (n_DEFERRED_MATCH : s_DEFERRED ≠ s_MATCH) (n_DEFERRED_EXCESS : s_DEFERRED ≠ s_EXCESS) (n_PLAN_MATCH : s_PLAN ≠ s_MATCH) (n_PLAN_EXCESS : s_PLAN ≠ s_EXCESS) : f0 i0 s_MATCH s_EXCESS s_BEFORE_TAX s_AFTER_TAX s_DEFERRED s_PLAN = 1 := by
  have h1 := c_mask i0 7 3 (by decide) rfl
  obtain ⟨k, hk, e⟩ := own_small (i0 &&& (7 : Int32)) 8 (by omega) (by omega)
  unfold f0
  rw [e]
  have hk' : k = 0 ∨ k = 1 ∨ k = 2 ∨ k = 3 ∨ k = 4 ∨ k = 5 ∨ k = 6 ∨ k = 7 := by omega
  rcases hk' with rfl | rfl | rfl | rfl | rfl | rfl | rfl | rfl
  · show nar .boolean (if f2 s_BEFORE_TAX s_MATCH s_EXCESS = 0 then 1 else 0) = 1
    rw [if_pos (own_f2no _ _ _ n_BEFORE_TAX_MATCH n_BEFORE_TAX_EXCESS)]
    rfl
  · show nar .boolean (if f2 s_BEFORE_TAX s_MATCH s_EXCESS = 0 then 1 else 0) = 1
    rw [if_pos (own_f2no _ _ _ n_BEFORE_TAX_MATCH n_BEFORE_TAX_EXCESS)]
    rfl
  · show nar .boolean (if f2 s_AFTER_TAX s_MATCH s_EXCESS = 0 then 1 else 0) = 1
    rw [if_pos (own_f2no _ _ _ n_AFTER_TAX_MATCH n_AFTER_TAX_EXCESS)]
    rfl
  · show nar .boolean (if f2 s_AFTER_TAX s_MATCH s_EXCESS = 0 then 1 else 0) = 1
    rw [if_pos (own_f2no _ _ _ n_AFTER_TAX_MATCH n_AFTER_TAX_EXCESS)]
    rfl
  · show nar .boolean (if f2 s_MATCH s_MATCH s_EXCESS = 1 then 1 else 0) = 1
    rw [if_pos (own_f2a _ _)]
    rfl
  · show nar .boolean (if f2 s_EXCESS s_MATCH s_EXCESS = 1 then 1 else 0) = 1
    rw [if_pos (own_f2b _ _)]
    rfl
  · show nar .boolean (if f2 s_DEFERRED s_MATCH s_EXCESS = 0 then 1 else 0) = 1
    rw [if_pos (own_f2no _ _ _ n_DEFERRED_MATCH n_DEFERRED_EXCESS)]
    rfl
  · show nar .boolean (if f2 s_PLAN s_MATCH s_EXCESS = 0 then 1 else 0) = 1
    rw [if_pos (own_f2no _ _ _ n_PLAN_MATCH n_PLAN_EXCESS)]
    rfl
set_option maxRecDepth 65536 in
set_option maxHeartbeats 40000000 in
theorem comes_1 {Post : Tables → Env → Array Value → State → Outcome → State → Prop} (hpost : ∀ tb e args s v u, (limb_1_1.after args s (.returned v) u = true ∧ limb_1_2.after args s (.returned v) u = true ∧ True) → FrameEnd s (.returned v) u (Jvm.fieldLocs frame_1_writes args s ++ Jvm.arrayLocs frame_1_arrays args s ++ Jvm.staticLocs frame_1_statics s) 0 0 → Post tb e args s (.returned v) u) :
    ArmFor flags0 classFile x code maxLocals ret World_1 tables_1 room_1 Calls_1 rest_1 Pre_1 Post := by
  intro l hfl _ _ p e ha hc hk s m args below hf hA hF happ hP
  obtain ⟨hcalls, hrest, hpre⟩ := hP
  obtain ⟨-, -, -, hnamed, -, -, -, hat⟩ := (Spec.applies_iff hf).mp happ
  obtain ⟨hg, hn⟩ := and_e (Cond.before_iff.mp (show (Jvm.Cond.and given_1 narrow_1).before args s = true from hpre))
  obtain ⟨gc, gr⟩ := and_e hg
  obtain ⟨w0, rfl⟩ : ∃ w0 : Value, args = #[w0] := by
    have hs : args.size = 1 := by simpa [Cond.value, given_1] using gc
    obtain ⟨L⟩ := args
    match L, hs with
    | [w0], _ => exact ⟨w0, rfl⟩
  have hw := fun d (hd : d ∈ tables_1) => atoms_spec (ws := Jvm.Cond.code x code maxLocals ret :: tables_1) hat d (List.mem_cons_of_mem _ hd)
  have hfit : Fit s := fun {y c} hc i hi => by
    obtain ⟨ha, rfl⟩ := Array.getElem?_eq_some_iff.mp hc
    have q := List.all_eq_true.mp ((Array.all_eq_true_iff_forall_mem.mp hF) _ (Array.getElem_mem ha)) i (List.mem_range.mpr hi)
    simpa [Array.getElem?_eq_getElem hi] using q
  obtain ⟨i0, ei0⟩ := is_v gr
  obtain rfl : w0 = (.int i0) := Option.some.inj ei0
  obtain ⟨n0, m0⟩ := and_e hn
  obtain ⟨s_BEFORE_TAX_BASIC, S_BEFORE_TAX_BASIC, E_BEFORE_TAX_BASIC, ev_BEFORE_TAX_BASIC⟩ := own_sta n0 (hw _ (List.mem_of_getElem? (i := 5) rfl)) (hw _ (List.mem_of_getElem? (i := 6) rfl))
  obtain ⟨n1, m1⟩ := and_e m0
  obtain ⟨s_BEFORE_TAX, S_BEFORE_TAX, E_BEFORE_TAX, ev_BEFORE_TAX⟩ := own_sta n1 (hw _ (List.mem_of_getElem? (i := 14) rfl)) (hw _ (List.mem_of_getElem? (i := 15) rfl))
  obtain ⟨n2, m2⟩ := and_e m1
  have F_kind_BEFORE_TAX_BASIC := own_fldS n2 ev_BEFORE_TAX_BASIC ev_BEFORE_TAX
  obtain ⟨n3, m3⟩ := and_e m2
  obtain ⟨s_MATCH, S_MATCH, E_MATCH, ev_MATCH⟩ := own_sta n3 (hw _ (List.mem_of_getElem? (i := 14) rfl)) (hw _ (List.mem_of_getElem? (i := 17) rfl))
  obtain ⟨n4, m4⟩ := and_e m3
  have F_ordinal_BEFORE_TAX := own_fldS n4 ev_BEFORE_TAX (Term.int_eval (0))
  obtain ⟨n5, m5⟩ := and_e m4
  have F_ordinal_MATCH := own_fldS n5 ev_MATCH (Term.int_eval (2))
  obtain ⟨n6, m6⟩ := and_e m5
  obtain ⟨s_EXCESS, S_EXCESS, E_EXCESS, ev_EXCESS⟩ := own_sta n6 (hw _ (List.mem_of_getElem? (i := 14) rfl)) (hw _ (List.mem_of_getElem? (i := 19) rfl))
  obtain ⟨n7, m7⟩ := and_e m6
  have F_ordinal_EXCESS := own_fldS n7 ev_EXCESS (Term.int_eval (3))
  obtain ⟨n8, m8⟩ := and_e m7
  obtain ⟨s_AFTER_TAX_SUPPLEMENTAL, S_AFTER_TAX_SUPPLEMENTAL, E_AFTER_TAX_SUPPLEMENTAL, ev_AFTER_TAX_SUPPLEMENTAL⟩ := own_sta n8 (hw _ (List.mem_of_getElem? (i := 5) rfl)) (hw _ (List.mem_of_getElem? (i := 21) rfl))
  obtain ⟨n9, m9⟩ := and_e m8
  obtain ⟨s_AFTER_TAX, S_AFTER_TAX, E_AFTER_TAX, ev_AFTER_TAX⟩ := own_sta n9 (hw _ (List.mem_of_getElem? (i := 14) rfl)) (hw _ (List.mem_of_getElem? (i := 22) rfl))
  obtain ⟨n10, m10⟩ := and_e m9
  have F_kind_AFTER_TAX_SUPPLEMENTAL := own_fldS n10 ev_AFTER_TAX_SUPPLEMENTAL ev_AFTER_TAX
  obtain ⟨n11, m11⟩ := and_e m10
  have F_ordinal_AFTER_TAX := own_fldS n11 ev_AFTER_TAX (Term.int_eval (1))
  obtain ⟨n12, m12⟩ := and_e m11
  obtain ⟨s_COMPENSATION_DEFERRAL, S_COMPENSATION_DEFERRAL, E_COMPENSATION_DEFERRAL, ev_COMPENSATION_DEFERRAL⟩ := own_sta n12 (hw _ (List.mem_of_getElem? (i := 5) rfl)) (hw _ (List.mem_of_getElem? (i := 24) rfl))
  obtain ⟨n13, m13⟩ := and_e m12
  obtain ⟨s_DEFERRED, S_DEFERRED, E_DEFERRED, ev_DEFERRED⟩ := own_sta n13 (hw _ (List.mem_of_getElem? (i := 14) rfl)) (hw _ (List.mem_of_getElem? (i := 25) rfl))
  obtain ⟨n14, m14⟩ := and_e m13
  have F_kind_COMPENSATION_DEFERRAL := own_fldS n14 ev_COMPENSATION_DEFERRAL ev_DEFERRED
  obtain ⟨n15, m15⟩ := and_e m14
  have F_ordinal_DEFERRED := own_fldS n15 ev_DEFERRED (Term.int_eval (4))
  obtain ⟨n16, m16⟩ := and_e m15
  obtain ⟨s_FORFEITURES, S_FORFEITURES, E_FORFEITURES, ev_FORFEITURES⟩ := own_sta n16 (hw _ (List.mem_of_getElem? (i := 5) rfl)) (hw _ (List.mem_of_getElem? (i := 27) rfl))
  obtain ⟨n17, m17⟩ := and_e m16
  obtain ⟨s_PLAN, S_PLAN, E_PLAN, ev_PLAN⟩ := own_sta n17 (hw _ (List.mem_of_getElem? (i := 14) rfl)) (hw _ (List.mem_of_getElem? (i := 28) rfl))
  obtain ⟨n18, m18⟩ := and_e m17
  have F_kind_FORFEITURES := own_fldS n18 ev_FORFEITURES ev_PLAN
  obtain ⟨n19, m19⟩ := and_e m18
  have F_ordinal_PLAN := own_fldS n19 ev_PLAN (Term.int_eval (5))
  obtain ⟨n20, m20⟩ := and_e m19
  obtain ⟨s_AFTER_TAX_BASIC, S_AFTER_TAX_BASIC, E_AFTER_TAX_BASIC, ev_AFTER_TAX_BASIC⟩ := own_sta n20 (hw _ (List.mem_of_getElem? (i := 5) rfl)) (hw _ (List.mem_of_getElem? (i := 30) rfl))
  obtain ⟨n21, m21⟩ := and_e m20
  have F_kind_AFTER_TAX_BASIC := own_fldS n21 ev_AFTER_TAX_BASIC ev_AFTER_TAX
  obtain ⟨n22, m22⟩ := and_e m21
  obtain ⟨s_BEFORE_TAX_SUPPLEMENTAL, S_BEFORE_TAX_SUPPLEMENTAL, E_BEFORE_TAX_SUPPLEMENTAL, ev_BEFORE_TAX_SUPPLEMENTAL⟩ := own_sta n22 (hw _ (List.mem_of_getElem? (i := 5) rfl)) (hw _ (List.mem_of_getElem? (i := 32) rfl))
  obtain ⟨n23, m23⟩ := and_e m22
  have F_kind_BEFORE_TAX_SUPPLEMENTAL := own_fldS n23 ev_BEFORE_TAX_SUPPLEMENTAL ev_BEFORE_TAX
  obtain ⟨n24, m24⟩ := and_e m23
  obtain ⟨s_COMPANY_MATCH, S_COMPANY_MATCH, E_COMPANY_MATCH, ev_COMPANY_MATCH⟩ := own_sta n24 (hw _ (List.mem_of_getElem? (i := 5) rfl)) (hw _ (List.mem_of_getElem? (i := 34) rfl))
  obtain ⟨n25, m25⟩ := and_e m24
  have F_kind_COMPANY_MATCH := own_fldS n25 ev_COMPANY_MATCH ev_MATCH
  obtain ⟨n26, m26⟩ := and_e m25
  obtain ⟨s_EXCESS_CONTRIBUTION, S_EXCESS_CONTRIBUTION, E_EXCESS_CONTRIBUTION, ev_EXCESS_CONTRIBUTION⟩ := own_sta n26 (hw _ (List.mem_of_getElem? (i := 5) rfl)) (hw _ (List.mem_of_getElem? (i := 36) rfl))
  have F_kind_EXCESS_CONTRIBUTION := own_fldS m26 ev_EXCESS_CONTRIBUTION ev_EXCESS
  obtain ⟨n, o, h1, h2, h3, _, L, rfl, ⟨⟨rfl, hQ⟩, N⟩, hq⟩ := rm0 l s _ hw i0 s_BEFORE_TAX_BASIC s_BEFORE_TAX_SUPPLEMENTAL s_AFTER_TAX_BASIC s_AFTER_TAX_SUPPLEMENTAL s_COMPANY_MATCH s_EXCESS_CONTRIBUTION s_COMPENSATION_DEFERRAL s_FORFEITURES s_MATCH s_EXCESS s_BEFORE_TAX s_AFTER_TAX s_DEFERRED s_PLAN s.heap s.heap.size S_BEFORE_TAX_BASIC S_BEFORE_TAX_SUPPLEMENTAL S_AFTER_TAX_BASIC S_AFTER_TAX_SUPPLEMENTAL S_COMPANY_MATCH S_EXCESS_CONTRIBUTION S_COMPENSATION_DEFERRAL S_FORFEITURES S_MATCH S_EXCESS E_BEFORE_TAX_BASIC E_BEFORE_TAX_SUPPLEMENTAL E_AFTER_TAX_BASIC E_AFTER_TAX_SUPPLEMENTAL E_COMPANY_MATCH E_EXCESS_CONTRIBUTION E_COMPENSATION_DEFERRAL E_FORFEITURES F_kind_BEFORE_TAX_BASIC F_kind_BEFORE_TAX_SUPPLEMENTAL F_kind_AFTER_TAX_BASIC F_kind_AFTER_TAX_SUPPLEMENTAL F_kind_COMPANY_MATCH F_kind_EXCESS_CONTRIBUTION F_kind_COMPENSATION_DEFERRAL F_kind_FORFEITURES tables_1 p e ha hc hk s m _ below hf ((Spec.applies_iff_loose hf).mp happ).1 ⟨rfl, State.Warmed39.refl s, rfl⟩ trivial
  refine ⟨n, _, h1, h2, h3, hpost _ _ _ _ _ _ ⟨Cond.after_iff.mpr rfl, Cond.after_iff.mpr (eq_i res_at (Term.int_eval (1)) (congrArg Value.int (law_true i0 s_BEFORE_TAX_BASIC s_BEFORE_TAX_SUPPLEMENTAL s_AFTER_TAX_BASIC s_AFTER_TAX_SUPPLEMENTAL s_COMPANY_MATCH s_EXCESS_CONTRIBUTION s_COMPENSATION_DEFERRAL s_FORFEITURES s_MATCH s_EXCESS s_BEFORE_TAX s_AFTER_TAX s_DEFERRED s_PLAN (Fld.ne F_ordinal_BEFORE_TAX F_ordinal_MATCH (by decide)) (Fld.ne F_ordinal_BEFORE_TAX F_ordinal_EXCESS (by decide)) (Fld.ne F_ordinal_AFTER_TAX F_ordinal_MATCH (by decide)) (Fld.ne F_ordinal_AFTER_TAX F_ordinal_EXCESS (by decide)) (Fld.ne F_ordinal_DEFERRED F_ordinal_MATCH (by decide)) (Fld.ne F_ordinal_DEFERRED F_ordinal_EXCESS (by decide)) (Fld.ne F_ordinal_PLAN F_ordinal_MATCH (by decide)) (Fld.ne F_ordinal_PLAN F_ordinal_EXCESS (by decide))))), trivial⟩ ⟨hq.1, hq.2.1, (hq.2.2.sift fun y hy => Or.inr (N y hy)).mono (by decide) (by decide)⟩⟩
theorem main_1_1 : Claimed_1_1 := comes_1 fun _ _ _ _ _ _ h hF => ⟨h.1, hF⟩
theorem main_1_2 : Claimed_1_2 := comes_1 fun _ _ _ _ _ _ h hF => ⟨h.2.1, hF⟩
end Jvm.Pilot.@@N@@
namespace Jvm.Pilot.@@N@@
open Jvm Jvm.ClassFile Sem Op Lib Jvm.Free Jvm.Stand Jvm.Pilot.@@N@@.Jvm.D
/-! MADE BY PROGRAM (witnessworld.py) out of the Statement's table words and the real class files: 14 classes; the members and pool entries that the words name. The judged class is class 1, her method 2. -/
namespace start1
open Jvm.ClassFile
def u (s : String) : CpInfo := .utf8 (stringToUtf16 s)
/-- a pool by its gaps: so many unusable entries, then the entry; so many at the end -/
def gap : Nat → List CpInfo → List CpInfo
  | 0, r => r
  | n + 1, r => .unusable :: gap n r
def poolList (es : List (Nat × CpInfo)) (last : Nat) : List CpInfo := es.foldr (fun e r => gap e.1 (e.2 :: r)) (gap last [])
def pool (es : List (Nat × CpInfo)) (last : Nat) : Array CpInfo := ⟨poolList es last⟩
def fileOf (pool : Array CpInfo) (this : Nat) (attrs : Array Attribute := #[]) (ms : Array MethodInfo := #[]) (fl : Nat := 33) (sup : Nat := 0) (ifs : Array Nat := #[]) (fds : Array FieldInfo := #[]) : ClassFile where
  minorVersion := 0
  majorVersion := 65
  constantPool := pool
  accessFlags := fl
  thisClass := this
  superClass := sup
  interfaces := ifs
  fields := fds
  methods := ms
  attributes := attrs
def plain (name : String) (sup : Option ClassId) : Class where
  name := name
  kind := .ordinary
  loader := none
  accessFlags := 33
  super := sup
  interfaces := #[]
  cf := none
  fields := #[]
  methods := #[]
  instanceTypes := #[]
  staticTypes := #[]
  resolved := #[]
  callSites := []
  init := .initialized
  statics := none
  mirror := none

def pool0 : Array CpInfo := pool [(5, u "<init>"), (0, u "()V"), (1, .class_ 10), (1, u "java/lang/Object")] 113

def k0m0 : Method := { name := "<init>", desc := "()V", sig := { parameters := [], returnType := none }, accessFlags := 1, code := none }
/-- java/lang/Object -/
def k0 : Class := { plain "java/lang/Object" none with
  accessFlags := 33
  interfaces := #[]
  cf := some (fileOf pool0 8 #[] #[{ accessFlags := 1, nameIndex := 5, descriptorIndex := 6, attributes := #[] }] 33 0 #[] #[])
  fields := #[]
  methods := #[k0m0]
  instanceTypes := #[]
  staticTypes := #[]
  resolved := Array.replicate 124 none
  statics := none }

def pool1 : Array CpInfo := pool [(2, .class_ 4), (1, u "java/lang/Object"), (0, u "<init>"), (0, u "()V"), (0, .fieldref 8 9), (0, .class_ 10), (0, .nameAndType 11 12), (0, u "com/example/vestledger/vestledger/Source"), (0, u "BEFORE_TAX_BASIC"), (0, u "Lcom/example/vestledger/vestledger/Source;"), (0, .fieldref 8 14), (0, .nameAndType 15 12), (0, u "BEFORE_TAX_SUPPLEMENTAL"), (0, .fieldref 8 17), (0, .nameAndType 18 12), (0, u "AFTER_TAX_BASIC"), (0, .fieldref 8 20), (0, .nameAndType 21 12), (0, u "AFTER_TAX_SUPPLEMENTAL"), (0, .fieldref 8 23), (0, .nameAndType 24 12), (0, u "COMPANY_MATCH"), (0, .fieldref 8 26), (0, .nameAndType 27 12), (0, u "EXCESS_CONTRIBUTION"), (0, .fieldref 8 29), (0, .nameAndType 30 12), (0, u "COMPENSATION_DEFERRAL"), (0, .fieldref 8 32), (0, .nameAndType 33 12), (0, u "FORFEITURES"), (0, .methodref 35 36), (0, .class_ 37), (0, .nameAndType 38 39), (0, u "com/example/vestledger/vestledger/SourceIsEmployerPinLaw"), (0, u "pick"), (0, u "(I)Lcom/example/vestledger/vestledger/Source;"), (0, .methodref 8 41), (0, .nameAndType 42 43), (0, u "isEmployer"), (0, u "()Z"), (3, u "law"), (0, u "(I)Z")] 2

def k1m0 : Method := { name := "<init>", desc := "()V", sig := { parameters := [], returnType := none }, accessFlags := 1, code := none }
def k1c1 : Code := { maxStack := 2, maxLocals := 1, code := method_2_code, exceptionTable := #[], attributes := #[] }
def k1m1 : Method := { name := "pick", desc := "(I)Lcom/example/vestledger/vestledger/Source;", sig := { parameters := [.int], returnType := some (.object "com/example/vestledger/vestledger/Source") }, accessFlags := 10, code := some k1c1 }
def k1c2 : Code := { maxStack := 2, maxLocals := 4, code := code, exceptionTable := #[], attributes := #[] }
def k1m2 : Method := { name := "law", desc := "(I)Z", sig := { parameters := [.int], returnType := some .boolean }, accessFlags := 9, code := some k1c2 }
/-- com/example/vestledger/vestledger/SourceIsEmployerPinLaw -/
def k1 : Class := { plain "com/example/vestledger/vestledger/SourceIsEmployerPinLaw" (some 0) with
  accessFlags := 49
  interfaces := #[]
  cf := some (fileOf pool1 35 #[] #[{ accessFlags := 1, nameIndex := 5, descriptorIndex := 6, attributes := #[] }, { accessFlags := 10, nameIndex := 38, descriptorIndex := 39, attributes := #[] }, { accessFlags := 9, nameIndex := 47, descriptorIndex := 48, attributes := #[] }] 49 2 #[] #[])
  fields := #[]
  methods := #[k1m0, k1m1, k1m2]
  instanceTypes := #[]
  staticTypes := #[]
  resolved := Array.replicate 51 none
  statics := none }

def pool2 : Array CpInfo := pool [(1, .class_ 2), (0, u "java/lang/constant/Constable"), (0, .class_ 4), (0, u "java/lang/Object")] 6

/-- java/lang/constant/Constable -/
def k2 : Class := { plain "java/lang/constant/Constable" (some 0) with
  accessFlags := 1537
  interfaces := #[]
  cf := some (fileOf pool2 1 #[] #[] 1537 3 #[] #[])
  fields := #[]
  methods := #[]
  instanceTypes := #[]
  staticTypes := #[]
  resolved := Array.replicate 11 none
  statics := none }

def pool3 : Array CpInfo := pool [(1, .class_ 2), (0, u "java/lang/Comparable"), (0, .class_ 4), (0, u "java/lang/Object")] 7

/-- java/lang/Comparable -/
def k3 : Class := { plain "java/lang/Comparable" (some 0) with
  accessFlags := 1537
  interfaces := #[]
  cf := some (fileOf pool3 1 #[] #[] 1537 3 #[] #[])
  fields := #[]
  methods := #[]
  instanceTypes := #[]
  staticTypes := #[]
  resolved := Array.replicate 12 none
  statics := none }

def pool4 : Array CpInfo := pool [(1, .class_ 2), (0, u "java/io/Serializable"), (0, .class_ 4), (0, u "java/lang/Object")] 2

/-- java/io/Serializable -/
def k4 : Class := { plain "java/io/Serializable" (some 0) with
  accessFlags := 1537
  interfaces := #[]
  cf := some (fileOf pool4 1 #[] #[] 1537 3 #[] #[])
  fields := #[]
  methods := #[]
  instanceTypes := #[]
  staticTypes := #[]
  resolved := Array.replicate 7 none
  statics := none }

def pool5 : Array CpInfo := pool [(2, .class_ 4), (1, u "java/lang/Enum"), (0, u "name"), (0, u "Ljava/lang/String;"), (2, u "ordinal"), (0, u "I"), (1, .class_ 14), (1, u "java/lang/Object"), (4, u "hash"), (86, .class_ 108), (1, u "java/lang/Enum$EnumDesc"), (2, .class_ 112), (0, u "java/lang/constant/Constable"), (0, .class_ 114), (0, u "java/lang/Comparable"), (0, .class_ 116), (0, u "java/io/Serializable")] 87

/-- java/lang/Enum -/
def k5 : Class := { plain "java/lang/Enum" (some 0) with
  accessFlags := 1057
  interfaces := #[2, 3, 4]
  cf := some (fileOf pool5 2 #[.nestMembers #[106]] #[] 1057 12 #[111, 113, 115] #[{ accessFlags := 18, nameIndex := 5, descriptorIndex := 6, attributes := #[] }, { accessFlags := 18, nameIndex := 9, descriptorIndex := 10, attributes := #[] }, { accessFlags := 2, nameIndex := 19, descriptorIndex := 10, attributes := #[] }])
  fields := #[{ name := "name", type := (.object "java/lang/String"), accessFlags := 18, slot := 0, constantValue := 0 }, { name := "ordinal", type := .int, accessFlags := 18, slot := 1, constantValue := 0 }, { name := "hash", type := .int, accessFlags := 2, slot := 2, constantValue := 0 }]
  methods := #[]
  instanceTypes := #[(.object "java/lang/String"), .int, .int]
  staticTypes := #[]
  resolved := Array.replicate 204 none
  statics := none }

def pool6 : Array CpInfo := pool [(2, .class_ 4), (1, u "com/example/vestledger/vestledger/Labelled"), (25, .class_ 31), (0, u "java/lang/Object")] 13

/-- com/example/vestledger/vestledger/Labelled -/
def k6 : Class := { plain "com/example/vestledger/vestledger/Labelled" (some 0) with
  accessFlags := 1536
  interfaces := #[]
  cf := some (fileOf pool6 2 #[] #[] 1536 30 #[] #[])
  fields := #[]
  methods := #[]
  instanceTypes := #[]
  staticTypes := #[]
  resolved := Array.replicate 45 none
  statics := none }

def pool7 : Array CpInfo := pool [(1, .class_ 2), (0, u "com/example/vestledger/vestledger/Source"), (2, u "BEFORE_TAX_BASIC"), (0, u "Lcom/example/vestledger/vestledger/Source;"), (2, u "BEFORE_TAX_SUPPLEMENTAL"), (2, u "AFTER_TAX_BASIC"), (2, u "AFTER_TAX_SUPPLEMENTAL"), (2, u "COMPANY_MATCH"), (2, u "EXCESS_CONTRIBUTION"), (2, u "COMPENSATION_DEFERRAL"), (2, u "FORFEITURES"), (2, u "$VALUES"), (0, u "[Lcom/example/vestledger/vestledger/Source;"), (6, .class_ 40), (1, u "java/lang/Enum"), (8, u "label"), (0, u "Ljava/lang/String;"), (0, .fieldref 1 52), (0, .nameAndType 53 54), (0, u "kind"), (0, u "Lcom/example/vestledger/vestledger/Source$Kind;"), (1, .class_ 58), (1, u "com/example/vestledger/vestledger/Source$Kind"), (4, .fieldref 56 64), (0, .nameAndType 65 54), (0, u "MATCH"), (0, .fieldref 56 67), (0, .nameAndType 68 54), (0, u "EXCESS"), (3, u "()Z"), (36, u "BY_LABEL"), (0, u "Ljava/util/Map;"), (41, .class_ 153), (0, u "com/example/vestledger/vestledger/Labelled"), (10, u "isEmployer")] 11

def k7c0 : Code := { maxStack := 2, maxLocals := 1, code := prog_25_method_7_code, exceptionTable := #[], attributes := #[] }
def k7m0 : Method := { name := "isEmployer", desc := "()Z", sig := { parameters := [], returnType := some .boolean }, accessFlags := 0, code := some k7c0 }
/-- com/example/vestledger/vestledger/Source -/
def k7 : Class := { plain "com/example/vestledger/vestledger/Source" (some 5) with
  accessFlags := 16432
  interfaces := #[6]
  cf := some (fileOf pool7 1 #[.nestMembers #[56]] #[{ accessFlags := 0, nameIndex := 164, descriptorIndex := 72, attributes := #[] }] 16432 38 #[152] #[{ accessFlags := 16409, nameIndex := 5, descriptorIndex := 6, attributes := #[] }, { accessFlags := 16409, nameIndex := 9, descriptorIndex := 6, attributes := #[] }, { accessFlags := 16409, nameIndex := 12, descriptorIndex := 6, attributes := #[] }, { accessFlags := 16409, nameIndex := 15, descriptorIndex := 6, attributes := #[] }, { accessFlags := 16409, nameIndex := 18, descriptorIndex := 6, attributes := #[] }, { accessFlags := 16409, nameIndex := 21, descriptorIndex := 6, attributes := #[] }, { accessFlags := 16409, nameIndex := 24, descriptorIndex := 6, attributes := #[] }, { accessFlags := 16409, nameIndex := 27, descriptorIndex := 6, attributes := #[] }, { accessFlags := 26, nameIndex := 109, descriptorIndex := 110, attributes := #[] }, { accessFlags := 18, nameIndex := 49, descriptorIndex := 50, attributes := #[] }, { accessFlags := 18, nameIndex := 53, descriptorIndex := 54, attributes := #[] }, { accessFlags := 4122, nameIndex := 30, descriptorIndex := 31, attributes := #[] }])
  fields := #[{ name := "BEFORE_TAX_BASIC", type := (.object "com/example/vestledger/vestledger/Source"), accessFlags := 16409, slot := 0, constantValue := 0 }, { name := "BEFORE_TAX_SUPPLEMENTAL", type := (.object "com/example/vestledger/vestledger/Source"), accessFlags := 16409, slot := 1, constantValue := 0 }, { name := "AFTER_TAX_BASIC", type := (.object "com/example/vestledger/vestledger/Source"), accessFlags := 16409, slot := 2, constantValue := 0 }, { name := "AFTER_TAX_SUPPLEMENTAL", type := (.object "com/example/vestledger/vestledger/Source"), accessFlags := 16409, slot := 3, constantValue := 0 }, { name := "COMPANY_MATCH", type := (.object "com/example/vestledger/vestledger/Source"), accessFlags := 16409, slot := 4, constantValue := 0 }, { name := "EXCESS_CONTRIBUTION", type := (.object "com/example/vestledger/vestledger/Source"), accessFlags := 16409, slot := 5, constantValue := 0 }, { name := "COMPENSATION_DEFERRAL", type := (.object "com/example/vestledger/vestledger/Source"), accessFlags := 16409, slot := 6, constantValue := 0 }, { name := "FORFEITURES", type := (.object "com/example/vestledger/vestledger/Source"), accessFlags := 16409, slot := 7, constantValue := 0 }, { name := "BY_LABEL", type := (.object "java/util/Map"), accessFlags := 26, slot := 8, constantValue := 0 }, { name := "label", type := (.object "java/lang/String"), accessFlags := 18, slot := 3, constantValue := 0 }, { name := "kind", type := (.object "com/example/vestledger/vestledger/Source$Kind"), accessFlags := 18, slot := 4, constantValue := 0 }, { name := "$VALUES", type := (.array (.object "com/example/vestledger/vestledger/Source")), accessFlags := 4122, slot := 9, constantValue := 0 }]
  methods := #[k7m0]
  instanceTypes := #[(.object "java/lang/String"), .int, .int, (.object "java/lang/String"), (.object "com/example/vestledger/vestledger/Source$Kind")]
  staticTypes := #[(.object "com/example/vestledger/vestledger/Source"), (.object "com/example/vestledger/vestledger/Source"), (.object "com/example/vestledger/vestledger/Source"), (.object "com/example/vestledger/vestledger/Source"), (.object "com/example/vestledger/vestledger/Source"), (.object "com/example/vestledger/vestledger/Source"), (.object "com/example/vestledger/vestledger/Source"), (.object "com/example/vestledger/vestledger/Source"), (.object "java/util/Map"), (.array (.object "com/example/vestledger/vestledger/Source"))]
  resolved := Array.replicate 176 none
  statics := some 0 }

def pool8 : Array CpInfo := pool [(1, .class_ 2), (0, u "com/example/vestledger/vestledger/Source$Kind"), (2, u "BEFORE_TAX"), (0, u "Lcom/example/vestledger/vestledger/Source$Kind;"), (2, u "AFTER_TAX"), (2, u "MATCH"), (2, u "EXCESS"), (2, u "DEFERRED"), (2, u "PLAN"), (2, u "$VALUES"), (0, u "[Lcom/example/vestledger/vestledger/Source$Kind;"), (6, .class_ 34), (1, u "java/lang/Enum"), (29, .class_ 65), (0, u "com/example/vestledger/vestledger/Source")] 2

/-- com/example/vestledger/vestledger/Source$Kind -/
def k8 : Class := { plain "com/example/vestledger/vestledger/Source$Kind" (some 5) with
  accessFlags := 16432
  interfaces := #[]
  cf := some (fileOf pool8 1 #[.nestHost 64] #[] 16432 32 #[] #[{ accessFlags := 16409, nameIndex := 5, descriptorIndex := 6, attributes := #[] }, { accessFlags := 16409, nameIndex := 9, descriptorIndex := 6, attributes := #[] }, { accessFlags := 16409, nameIndex := 12, descriptorIndex := 6, attributes := #[] }, { accessFlags := 16409, nameIndex := 15, descriptorIndex := 6, attributes := #[] }, { accessFlags := 16409, nameIndex := 18, descriptorIndex := 6, attributes := #[] }, { accessFlags := 16409, nameIndex := 21, descriptorIndex := 6, attributes := #[] }, { accessFlags := 4122, nameIndex := 24, descriptorIndex := 25, attributes := #[] }])
  fields := #[{ name := "BEFORE_TAX", type := (.object "com/example/vestledger/vestledger/Source$Kind"), accessFlags := 16409, slot := 0, constantValue := 0 }, { name := "AFTER_TAX", type := (.object "com/example/vestledger/vestledger/Source$Kind"), accessFlags := 16409, slot := 1, constantValue := 0 }, { name := "MATCH", type := (.object "com/example/vestledger/vestledger/Source$Kind"), accessFlags := 16409, slot := 2, constantValue := 0 }, { name := "EXCESS", type := (.object "com/example/vestledger/vestledger/Source$Kind"), accessFlags := 16409, slot := 3, constantValue := 0 }, { name := "DEFERRED", type := (.object "com/example/vestledger/vestledger/Source$Kind"), accessFlags := 16409, slot := 4, constantValue := 0 }, { name := "PLAN", type := (.object "com/example/vestledger/vestledger/Source$Kind"), accessFlags := 16409, slot := 5, constantValue := 0 }, { name := "$VALUES", type := (.array (.object "com/example/vestledger/vestledger/Source$Kind")), accessFlags := 4122, slot := 6, constantValue := 0 }]
  methods := #[]
  instanceTypes := #[(.object "java/lang/String"), .int, .int]
  staticTypes := #[(.object "com/example/vestledger/vestledger/Source$Kind"), (.object "com/example/vestledger/vestledger/Source$Kind"), (.object "com/example/vestledger/vestledger/Source$Kind"), (.object "com/example/vestledger/vestledger/Source$Kind"), (.object "com/example/vestledger/vestledger/Source$Kind"), (.object "com/example/vestledger/vestledger/Source$Kind"), (.array (.object "com/example/vestledger/vestledger/Source$Kind"))]
  resolved := Array.replicate 68 none
  statics := some 1 }

def pool9 : Array CpInfo := pool [(1, u "java/lang/Cloneable"), (0, .class_ 1), (0, u "java/lang/Object"), (0, .class_ 3)] 3

/-- java/lang/Cloneable -/
def k9 : Class := { plain "java/lang/Cloneable" (some 0) with
  accessFlags := 1537
  interfaces := #[]
  cf := some (fileOf pool9 2 #[] #[] 1537 4 #[] #[])
  fields := #[]
  methods := #[]
  instanceTypes := #[]
  staticTypes := #[]
  resolved := Array.replicate 8 none
  statics := none }

/-- the primitive byte -/
def k10 : Class := { plain "byte" none with kind := .primitive 'B', accessFlags := 0x411 }
/-- [B -/
def k11 : Class := { plain "[B" (some 0) with kind := .array 10 .byte, interfaces := #[9, 4], accessFlags := 1041 }

/-- the primitive int -/
def k12 : Class := { plain "int" none with kind := .primitive 'I', accessFlags := 0x411 }
/-- [I -/
def k13 : Class := { plain "[I" (some 0) with kind := .array 12 .int, interfaces := #[9, 4], accessFlags := 1041 }

def heap : Heap := #[{ cls := 7, slots := #[.ref 8, .ref 9, .ref 10, .ref 11, .ref 12, .ref 13, .ref 14, .ref 15, .null, .null], vm := .statics 7 },
  { cls := 8, slots := #[.ref 2, .ref 3, .ref 4, .ref 5, .ref 6, .ref 7, .null], vm := .statics 8 },
  { cls := 8, slots := #[.null, .int 0, .int 0], vm := .none },
  { cls := 8, slots := #[.null, .int 1, .int 0], vm := .none },
  { cls := 8, slots := #[.null, .int 2, .int 0], vm := .none },
  { cls := 8, slots := #[.null, .int 3, .int 0], vm := .none },
  { cls := 8, slots := #[.null, .int 4, .int 0], vm := .none },
  { cls := 8, slots := #[.null, .int 5, .int 0], vm := .none },
  { cls := 7, slots := #[.null, .int 0, .int 0, .null, .ref 2], vm := .none },
  { cls := 7, slots := #[.null, .int 1, .int 0, .null, .ref 2], vm := .none },
  { cls := 7, slots := #[.null, .int 2, .int 0, .null, .ref 3], vm := .none },
  { cls := 7, slots := #[.null, .int 3, .int 0, .null, .ref 3], vm := .none },
  { cls := 7, slots := #[.null, .int 4, .int 0, .null, .ref 4], vm := .none },
  { cls := 7, slots := #[.null, .int 5, .int 0, .null, .ref 5], vm := .none },
  { cls := 7, slots := #[.null, .int 6, .int 0, .null, .ref 6], vm := .none },
  { cls := 7, slots := #[.null, .int 7, .int 0, .null, .ref 7], vm := .none }]
def classes : Array Class := #[k0, k1, k2, k3, k4, k5, k6, k7, k8, k9, k10, k11, k12, k13]
def interned : List (Array UInt16 × Addr) := []
def slotsUsed : Nat := 75
def theMethod : MethodId := ⟨1, 2⟩
def args0 : Array Value := #[.int 5]
def aboutOver (below : List Frame) : State where
  vm := { classes := classes, interned := interned.toArray }
  heap := heap
  slotsUsed := slotsUsed
  threads := #[{ frames := .invoking theMethod args0 :: below }]
def below0 : List Frame := [.native { method := ⟨0, 0⟩, args := #[] }]
def about1 : State := aboutOver below0
def p0 : Program := .bare "" "" ""
def e0 : Env := launch0.env 0 0 0
theorem w_frames : about1.frames = Frame.invoking theMethod args0 :: below0 := rfl
set_option maxRecDepth 65536 in
theorem w_args : argsFit about1.vm theMethod args0 = true := by decide +kernel
set_option maxRecDepth 65536 in
theorem w_heap : heapFits about1 = true := by decide +kernel
set_option maxRecDepth 65536 in
theorem w_runnable : about1.curStatus? = some .runnable := by decide +kernel
set_option maxRecDepth 65536 in
theorem w_alone : about1.alone = true := by decide +kernel
set_option maxRecDepth 65536 in
theorem w_named : about1.methodNamed? x = some theMethod := by decide +kernel
set_option maxRecDepth 65536 in
theorem w_hears : about1.hears theMethod below0 = true := by decide +kernel
set_option maxRecDepth 65536 in
theorem w_ripe : about1.ripe theMethod args0 below0 = true := by decide +kernel
theorem w_running : about1.status = .running := rfl
set_option maxRecDepth 65536 in
theorem w_room : about1.hasRoom e0.platform room_1 = true :=
  launch0.hasRoom_least _ room_1 (by decide +kernel) (by decide +kernel) (by decide +kernel) (by decide +kernel) (by decide +kernel) (by decide +kernel)
theorem allAtoms_all (ts : List Jvm.Cond) (a : Array Jvm.Value) (st : Jvm.State) : (allAtoms ts).before a st = ts.all (fun c => c.before a st) := by
  induction ts with
  | nil => rfl
  | cons c t ih =>
    show (Jvm.Cond.and c (allAtoms t)).before a st = _
    rw [Jvm.Cond.before_and, ih, List.all_cons]
def words1 : List Jvm.Cond := Jvm.Cond.code x code maxLocals ret :: tables_1
/-- a 'code' word, met by the world's own term for the bytes: nothing is compared byte by byte -/
theorem code_word {y : MethodName} {bytes : ByteArray} {mx : Nat} {rt : Option FieldType} {a : Array Value} {s : State} {m : MethodId} {meth : Method} {c : Code} (h1 : s.methodNamed? y = some m) (h2 : s.vm.method? m = some meth) (h3 : meth.code = some c) (h4 : c.code = bytes)
    (h5 : (c.maxLocals == mx && c.exceptionTable.isEmpty && decide (c.maxStack ≤ mostOperands) && decide (meth.sig.returnType = rt) && !meth.locks && decide (parseMethodDescriptor y.desc = some meth.sig)) = true) : (Jvm.Cond.code y bytes mx rt).before a s = true := by
  simp only [Bool.and_eq_true, beq_iff_eq, Bool.not_eq_true', decide_eq_true_eq] at h5
  obtain ⟨⟨⟨⟨⟨g1, g2⟩, g3⟩, g4⟩, g5⟩, g6⟩ := h5
  simp [Cond.before, Cond.holds, Cond.value, h1, h2, h3, h4, g1, g2, g3, g4, g5, g6]
def isCode : Jvm.Cond → Bool
  | .code _ _ _ _ => true
  | _ => false
theorem all_split {L : List Jvm.Cond} {P : Jvm.Cond → Bool} (h1 : L.all (fun c => isCode c || P c) = true) (h2 : ∀ c ∈ L.filter isCode, P c = true) : L.all P = true := by
  refine List.all_eq_true.mpr fun c hc => ?_
  have h := List.all_eq_true.mp h1 c hc
  rcases Bool.eq_false_or_eq_true (isCode c) with hi | hi
  · exact h2 c (List.mem_filter.mpr ⟨hc, hi⟩)
  · simpa [hi] using h
set_option maxRecDepth 65536 in
theorem w_c0 : (Jvm.Cond.code x code maxLocals ret).before args0 about1 = true := code_word (m := ⟨1, 2⟩) (meth := k1m2) (c := k1c2) (by decide +kernel) rfl rfl rfl (by decide +kernel)
set_option maxRecDepth 65536 in
theorem w_c1 : (Jvm.Cond.code ({ cls := "com/example/vestledger/vestledger/SourceIsEmployerPinLaw", name := "pick", desc := "(I)Lcom/example/vestledger/vestledger/Source;" } : Jvm.MethodName) method_2_code (1 : Nat) (Option.some (Jvm.ClassFile.FieldType.object "com/example/vestledger/vestledger/Source"))).before args0 about1 = true := code_word (m := ⟨1, 1⟩) (meth := k1m1) (c := k1c1) (by decide +kernel) rfl rfl rfl (by decide +kernel)
set_option maxRecDepth 65536 in
theorem w_c2 : (Jvm.Cond.code ({ cls := "com/example/vestledger/vestledger/Source", name := "isEmployer", desc := "()Z" } : Jvm.MethodName) prog_25_method_7_code (1 : Nat) (Option.some Jvm.ClassFile.FieldType.boolean)).before args0 about1 = true := code_word (m := ⟨7, 0⟩) (meth := k7m0) (c := k7c0) (by decide +kernel) rfl rfl rfl (by decide +kernel)
def codes1 : List Jvm.Cond := [Jvm.Cond.code x code maxLocals ret, Jvm.Cond.code ({ cls := "com/example/vestledger/vestledger/SourceIsEmployerPinLaw", name := "pick", desc := "(I)Lcom/example/vestledger/vestledger/Source;" } : Jvm.MethodName) method_2_code (1 : Nat) (Option.some (Jvm.ClassFile.FieldType.object "com/example/vestledger/vestledger/Source")), Jvm.Cond.code ({ cls := "com/example/vestledger/vestledger/Source", name := "isEmployer", desc := "()Z" } : Jvm.MethodName) prog_25_method_7_code (1 : Nat) (Option.some Jvm.ClassFile.FieldType.boolean)]
set_option maxRecDepth 65536 in
theorem codes_eq : words1.filter isCode = codes1 := rfl
theorem w_codes : ∀ c ∈ words1.filter isCode, c.before args0 about1 = true := by
  rw [codes_eq]
  intro c hc
  simp only [codes1, List.mem_cons, List.not_mem_nil, or_false] at hc
  rcases hc with rfl | rfl | rfl
  · exact w_c0
  · exact w_c1
  · exact w_c2
set_option maxRecDepth 65536 in
theorem w_t1 : (words1.take 24).all (fun c => isCode c || c.before args0 about1) = true := by decide +kernel
set_option maxRecDepth 65536 in
theorem w_t2 : (words1.drop 24).all (fun c => isCode c || c.before args0 about1) = true := by decide +kernel
theorem w_tables : (allAtoms (Jvm.Cond.code x code maxLocals ret :: tables_1)).before args0 about1 = true := by
  rw [allAtoms_all]
  show words1.all (fun c => c.before args0 about1) = true
  refine all_split ?_ w_codes
  rw [← List.take_append_drop 24 words1, List.all_append, w_t1, w_t2]
  rfl
set_option maxRecDepth 65536 in
theorem w_case : (Jvm.Cond.and given_1 narrow_1).before args0 about1 = true := by decide +kernel
theorem w_applies : (headSpec (Jvm.Cond.code x code maxLocals ret :: tables_1) room_1).applies x e0.platform about1 = true :=
  (Spec.applies_iff w_frames).mpr ⟨w_running, w_runnable, w_alone, w_named, w_hears, w_ripe, w_room, w_tables⟩
theorem atStart : AtStart classFile x code maxLocals ret World_1 tables_1 room_1 Calls_1 rest_1 Pre_1 launch0 p0 e0 about1 theMethod args0 below0 :=
  ⟨lists_1, trivial, launch0.admits_env _ _ _, launch0.least_env, fairChoices_fair.cas, fairChoices_fair.clock, w_frames, w_args, w_heap, w_applies, trivial, trivial, w_case⟩
end start1
theorem witness_1 : WitnessClaimed_1 := ⟨start1.p0, start1.e0, start1.about1, start1.theMethod, start1.args0, start1.below0, start1.atStart⟩
end Jvm.Pilot.@@N@@
